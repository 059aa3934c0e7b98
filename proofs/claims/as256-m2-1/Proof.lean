import JvmDerived
import JvmDerived.Pilot.@@N@@Statement
import JvmDerived.Pilot.@@N@@Code
set_option linter.unusedVariables false
set_option linter.unusedSimpArgs false
namespace Jvm.OwnGo
open Jvm Jvm.ClassFile Sem Op Lib Jvm.Free Jvm.Stand Jvm.LawKit Jvm.RoadKit
section Go
variable {p : Program} {l : Launch} {e : Env} {R : Room} {s : State} {m : MethodId} {args : Array Value} {below : List Frame} {meth : Method} {c : Code} {T T' : State} {locs : List Loc} {cells slots : Nat} {Q : Option Value → Heap → List Loc → Prop} {C S : Nat} {g g' : JFrame}
/-- from here the body comes to a return that Q takes -/
def Go (p : Program) (e : Env) (below : List Frame) (s : State) (Q : Option Value → Heap → List Loc → Prop) (C S : Nat) (T : State) (g : JFrame) : Prop :=
  ∃ s₂ o, Steps p.tables e below (T.setTop g) s₂ ∧ s₂.status = .running ∧ Ended s₂ below o ∧ ∃ v L, o = .returned v ∧ Q v s₂.heap L ∧ FrameEnd s o s₂ L C S
theorem Go.st (h : ∀ t, Steps p.tables e below (T'.setTop g') t → Steps p.tables e below (T.setTop g) t) (k : Go p e below s Q C S T' g') : Go p e below s Q C S T g := by
  obtain ⟨s₂, o, h1, r⟩ := k; exact ⟨s₂, o, h _ h1, r⟩
theorem Go.ts (h : Steps p.tables e below (T.setTop g) (T'.setTop g')) (k : Go p e below s Q C S T' g') : Go p e below s Q C S T g := by
  obtain ⟨s₂, o, h1, r⟩ := k; exact ⟨s₂, o, h.trans h1, r⟩
theorem Go.retw (X : Stand p l e R s m args below meth c T locs cells slots) (hx : p.tables.exec = Jvm.exec) {pc : Nat} {Ls : Array Slot} {w : Value} {t : FieldType} {i : Instr} {rest : List Value} (hret : meth.sig.returnType = some t) (hlk : meth.locks = false) (hn : narrow t w = w)
    (hi : (i = .ireturn ∧ (t = .int ∨ t = .boolean ∨ t = .byte ∨ t = .char ∨ t = .short) ∧ ∃ z, w = .int z) ∨ (i = .lreturn ∧ t = .long ∧ ∃ z, w = .long z) ∨ (i = .dreturn ∧ t = .double ∧ ∃ z, w = .double z) ∨ (i = .freturn ∧ t = .float ∧ ∃ z, w = .float z) ∨ (i = .areturn ∧ t.isReference = true ∧ w.isRef = true))
    (hd : decode c.code pc = .ok (i, 1)) (hc : cells ≤ C) (hs : slots ≤ S) (hq : Q (some w) T.heap locs) : Go p e below s Q C S T (mkF m pc Ls (w :: rest)) := by
  obtain ⟨fs, hr, hrun, hended, hW, hsame⟩ := X.leave (v := some w) (fun h => by rw [hret] at h; cases h)
  exact ⟨_, _, retOut X hx hret hn hi hd hr, hrun, hended, _, _, rfl, hq, ⟨_, rfl⟩, hW, hsame.mono hc hs⟩
theorem Go.retI (X : Stand p l e R s m args below meth c T locs cells slots) (hx : p.tables.exec = Jvm.exec) {pc : Nat} {Ls : Array Slot} {z : Int32} {rest : List Value} (hret : meth.sig.returnType = some .int) (hlk : meth.locks = false) (hd : decode c.code pc = .ok (.ireturn, 1)) (hc : cells ≤ C) (hs : slots ≤ S) (hq : Q (some (.int z)) T.heap locs) : Go p e below s Q C S T (mkF m pc Ls (.int z :: rest)) :=
  Go.retw X hx hret hlk rfl (Or.inl ⟨rfl, Or.inl rfl, _, rfl⟩) hd hc hs hq
theorem Go.retJ (X : Stand p l e R s m args below meth c T locs cells slots) (hx : p.tables.exec = Jvm.exec) {pc : Nat} {Ls : Array Slot} {z : Int64} {rest : List Value} (hret : meth.sig.returnType = some .long) (hlk : meth.locks = false) (hd : decode c.code pc = .ok (.lreturn, 1)) (hc : cells ≤ C) (hs : slots ≤ S) (hq : Q (some (.long z)) T.heap locs) : Go p e below s Q C S T (mkF m pc Ls (.long z :: rest)) :=
  Go.retw X hx hret hlk rfl (Or.inr (Or.inl ⟨rfl, rfl, _, rfl⟩)) hd hc hs hq
theorem Go.retA (X : Stand p l e R s m args below meth c T locs cells slots) (hx : p.tables.exec = Jvm.exec) {pc : Nat} {Ls : Array Slot} {w : Value} {t : FieldType} {rest : List Value} (hret : meth.sig.returnType = some t) (hlk : meth.locks = false) (hn : narrow t w = w) (ht : t.isReference = true) (hw : w.isRef = true) (hd : decode c.code pc = .ok (.areturn, 1)) (hc : cells ≤ C) (hs : slots ≤ S) (hq : Q (some w) T.heap locs) : Go p e below s Q C S T (mkF m pc Ls (w :: rest)) :=
  Go.retw X hx hret hlk hn (Or.inr (Or.inr (Or.inr (Or.inr ⟨rfl, ht, hw⟩)))) hd hc hs hq
theorem Go.retB (X : Stand p l e R s m args below meth c T locs cells slots) (hx : p.tables.exec = Jvm.exec) {pc : Nat} {Ls : Array Slot} {z : Int32} {t : FieldType} {rest : List Value} (hret : meth.sig.returnType = some t) (hlk : meth.locks = false) (ht : t = .boolean ∨ t = .byte ∨ t = .char ∨ t = .short) (hd : decode c.code pc = .ok (.ireturn, 1)) (hc : cells ≤ C) (hs : slots ≤ S) (hq : Q (some (.int (nar t z))) T.heap locs) : Go p e below s Q C S T (mkF m pc Ls (.int z :: rest)) := by
  obtain ⟨fs, hr, hrun, hended, hW, hsame⟩ := X.leave (v := some (.int (nar t z))) (fun h => by rw [hret] at h; cases h)
  exact ⟨_, _, retN X hx hret ht hd hr, hrun, hended, _, _, rfl, hq, ⟨_, rfl⟩, hW, hsame.mono hc hs⟩
theorem Go.ret0 (X : Stand p l e R s m args below meth c T locs cells slots) (hx : p.tables.exec = Jvm.exec) {pc : Nat} {Ls : Array Slot} (hret : meth.sig.returnType = none) (hlk : meth.locks = false) (hd : decode c.code pc = .ok (.return_, 1)) (hc : cells ≤ C) (hs : slots ≤ S) (hq : Q none T.heap locs) : Go p e below s Q C S T (mkF m pc Ls []) := by
  obtain ⟨fs, hr, hrun, hended, hW, hsame⟩ := X.leave (v := none) (fun _ => rfl)
  exact ⟨_, _, X.returnOut hx hret hd hr, hrun, hended, _, _, rfl, hq, ⟨_, rfl⟩, hW, hsame.mono hc hs⟩
end Go
theorem lcw_lt {x y : Int64} (h : x < y) : lcmpW x y < 0 := by rw [lcW]; exact (lc_lt _ _).mpr h
theorem lcw_nlt {x y : Int64} (h : ¬ x < y) : ¬ lcmpW x y < 0 := by rw [lcW]; exact fun q => h ((lc_lt _ _).mp q)
theorem lcw_gt {x y : Int64} (h : y < x) : 0 < lcmpW x y := by rw [lcW]; exact (lc_gt _ _).mpr h
theorem lcw_ngt {x y : Int64} (h : ¬ y < x) : ¬ 0 < lcmpW x y := by rw [lcW]; exact fun q => h ((lc_gt _ _).mp q)
theorem lcw_eq {x y : Int64} (h : x = y) : lcmpW x y = 0 := by rw [lcW]; exact (lc_eq _ _).mpr h
theorem lcw_ne {x y : Int64} (h : ¬ x = y) : ¬ lcmpW x y = 0 := by rw [lcW]; exact fun q => h ((lc_eq _ _).mp q)
section Words
variable {args : Array Value} {first s : State} {o : Option Outcome} {idx : List Nat} {a b : Term}
theorem eqI_v {n : Int32} (h : (Cond.eq a (.int n)).value args first o s idx = some true) : a.eval args first o idx s = some (.int n) := by
  simp only [Cond.value, Term.eval] at h; cases ha : a.eval args first o idx s with | none => simp [ha] at h | some x => cases x <;> simp [ha] at h ⊢; exact h
theorem eqJ_v {n : Int64} (h : (Cond.eq a (.long n)).value args first o s idx = some true) : a.eval args first o idx s = some (.long n) := by
  simp only [Cond.value, Term.eval] at h; cases ha : a.eval args first o idx s with | none => simp [ha] at h | some x => cases x <;> simp [ha] at h ⊢; exact h
theorem eqR_v {x : Addr} (hb : b.eval args first o idx s = some (.ref x)) (h : (Cond.eq a b).value args first o s idx = some true) : a.eval args first o idx s = some (.ref x) := by
  simp only [Cond.value, hb] at h; cases ha : a.eval args first o idx s with | none => simp [ha] at h | some x => cases x <;> simp [ha] at h ⊢; exact h
end Words
end Jvm.OwnGo
namespace Jvm.Pilot.@@N@@
open Jvm Jvm.ClassFile Sem Op Lib Jvm.Free Jvm.Stand Jvm.LawKit Jvm.RoadKit Jvm.OwnGo Bundle Jvm.Pilot.@@N@@.Jvm.D
theorem pn_0 : plainName "com/example/multigrain/multigrain/table/LockTable$Outcome" = true := by first | (simp [plainName, overriddenIn]; done) | decide +kernel
theorem d1_0 : decode prog_37_method_4_code 0 = .ok (.aload_n 0, 1) := by decide +kernel
theorem d1_1 : decode prog_37_method_4_code 1 = .ok (.getstatic 3, 3) := by decide +kernel
theorem d1_4 : decode prog_37_method_4_code 4 = .ok (.if_acmp .eq 10, 3) := by decide +kernel
theorem d1_7 : decode prog_37_method_4_code 7 = .ok (.aload_n 0, 1) := by decide +kernel
theorem d1_8 : decode prog_37_method_4_code 8 = .ok (.getstatic 7, 3) := by decide +kernel
theorem d1_11 : decode prog_37_method_4_code 11 = .ok (.if_acmp .ne 7, 3) := by decide +kernel
theorem d1_14 : decode prog_37_method_4_code 14 = .ok (.iconst 1, 1) := by decide +kernel
theorem d1_15 : decode prog_37_method_4_code 15 = .ok (.goto 4, 3) := by decide +kernel
theorem d1_18 : decode prog_37_method_4_code 18 = .ok (.iconst 0, 1) := by decide +kernel
theorem d1_19 : decode prog_37_method_4_code 19 = .ok (.ireturn, 1) := by decide +kernel
theorem ef_1 (m : MethodId) (a1 : Addr) : entryFrame m #[(.ref a1)] 1 = mkF m 0 #[.val (.ref a1)] [] := by first | (simp [entryFrame, mkF, argsToLocals, Value.category]; done) | rfl
def Q1 (Z : State) (a1 : Addr) (w2 : Addr) (w4 : Addr) (r : Int32) (h0 : Heap) (n0 : Nat) (v : Option Value) (h : Heap) (L : List Loc) : Prop := v = some (.int r) ∧ Fr n0 L ∧ h = h0
set_option maxRecDepth 65536 in
set_option maxHeartbeats 40000000 in
theorem rm1 (l : Launch) (Z : State) (a0 : Array Value) (hw : ∀ d ∈ tables_1, d.before a0 Z = true) (ws : List Jvm.Cond) (a1 : Addr) (w2 : Addr) (w4 : Addr) (r : Int32) (h0 : Heap) (n0 : Nat) (Z0 : n0 ≤ h0.size) (S_G : Sta Z h0 "com/example/multigrain/multigrain/table/LockTable$Outcome" "GRANTED" "Lcom/example/multigrain/multigrain/table/LockTable$Outcome;" (.ref w2)) (S_A : Sta Z h0 "com/example/multigrain/multigrain/table/LockTable$Outcome" "GRANTED_AFTER_WAITING" "Lcom/example/multigrain/multigrain/table/LockTable$Outcome;" (.ref w4)) (hr : r = if a1 = w2 ∨ a1 = w4 then 1 else 0) :
    MetFree l (⟨"com/example/multigrain/multigrain/table/LockTable$Outcome", "isGranted", "()Z"⟩ : MethodName) (head1 (Jvm.Cond.code (⟨"com/example/multigrain/multigrain/table/LockTable$Outcome", "isGranted", "()Z"⟩ : MethodName) prog_37_method_4_code 1 (some .boolean) :: ws) ({ frames := 0, cells := 0, slots := 0, locals := 0 } : Room)) (fun a U => a = #[(.ref a1)] ∧ Z.Warmed39 U.vm ∧ U.heap = h0) (fun _ _ _ _ _ => True) (fun _ U o U' => ∃ v L, o = .returned v ∧ Q1 Z a1 w2 w4 r h0 n0 v U'.heap L ∧ FrameEnd U o U' L ({ frames := 0, cells := 0, slots := 0, locals := 0 } : Room).cells ({ frames := 0, cells := 0, slots := 0, locals := 0 } : Room).slots) := by
  refine MetFree.of_bodySF (plainFor_of_name pn_0) hisR ?_
  intro p e s m args below meth c s₁ Bd hml0 hP hK
  obtain ⟨rfl, hZ, hh⟩ := hP
  have hx := Bd.exec
  have hby := Bd.bytes
  have hml : c.maxLocals = 1 := hml0
  have hown : s.vm.findClass "com/example/multigrain/multigrain/table/LockTable$Outcome" = some m.cls := findClass_of_methodNamed Bd.named
  have hnm := (name_of_methodNamed Bd.named Bd.method).1
  have hlk : meth.locks = false := BodyLoose.notSynchronized Bd
  have X0 : Stand p l e ({ frames := 0, cells := 0, slots := 0, locals := 0 } : Room) s m #[(.ref a1)] below meth c s₁ [] 0 0 := Stand.of_body Bd
  have e0 : s₁.heap = h0 := by rw [← hh, Bd.state]; rfl
  have N0 := Fr.nil n0
  suffices hgo : Go p e below s (Q1 Z a1 w2 w4 r h0 n0) ({ frames := 0, cells := 0, slots := 0, locals := 0 } : Room).cells ({ frames := 0, cells := 0, slots := 0, locals := 0 } : Room).slots s₁ (mkF m 0 #[.val (.ref a1)] []) by
    obtain ⟨s₂, o, k1, k2⟩ := hgo
    exact ⟨s₂, o, castTop (ef_1 m a1) k1, k2⟩
  refine Go.st (T' := s₁) (g' := (mkF m 1 #[.val (.ref a1)] [(.ref a1)])) (fun t_ k_ => XS.aloadN X0.here hx rfl (hb hby d1_0) rfl rfl k_) ?_
  obtain ⟨T1, X1, e1, st1⟩ := getS2 X0 hx hZ hown (host := "") (Or.inl (hw _ (List.mem_of_getElem? (i := 9) rfl))) Via.refl e0 S_G (g := (mkF m 1 #[.val (.ref a1)] [(.ref a1)])) rfl (hb hby d1_1)
  refine Go.st (T' := T1) (g' := (mkF m 4 #[.val (.ref a1)] [(.ref w2), (.ref a1)])) st1 ?_
  by_cases ha4 : a1 = w2
  · refine Go.st (T' := T1) (g' := (mkF m 14 #[.val (.ref a1)] [])) (fun t_ k_ => Jvm.RoadKit.acmp (g := (mkF m 4 #[.val (.ref a1)] [(.ref w2), (.ref a1)])) X1 hx rfl rfl rfl (pc0 := 4) (pc' := 14) (same := true) rfl (hb hby d1_4) rfl (decide_eq_true (congrArg Value.ref ha4)) (by decide) (by decide) k_) ?_
    refine Go.st (T' := T1) (g' := (mkF m 15 #[.val (.ref a1)] [(.int (1 : Int32))])) (fun t_ k_ => XS.iconst X1.here hx rfl (hb hby d1_14) k_) ?_
    refine Go.st (T' := T1) (g' := (mkF m 19 #[.val (.ref a1)] [(.int (1 : Int32))])) (fun t_ k_ => XS.goto X1.here hx rfl (pc0 := 15) (pc' := 19) rfl (hb hby d1_15) (by decide) (by decide) k_) ?_
    refine Go.retB X1 hx Bd.returns hlk (t := .boolean) (by simp) (hb hby d1_19) (by decide) (by decide) ?_
    rw [e1]
    exact ⟨by rw [hr, if_pos (Or.inl ha4)] <;> rfl, N0, rfl⟩
  · refine Go.st (T' := T1) (g' := (mkF m 7 #[.val (.ref a1)] [])) (fun t_ k_ => Jvm.RoadKit.acmp (g := (mkF m 4 #[.val (.ref a1)] [(.ref w2), (.ref a1)])) X1 hx rfl rfl rfl (pc0 := 4) (pc' := 7) (same := false) rfl (hb hby d1_4) rfl (decide_eq_false fun q => ha4 (Value.ref.inj q)) (by decide) (by decide) k_) ?_
    refine Go.st (T' := T1) (g' := (mkF m 8 #[.val (.ref a1)] [(.ref a1)])) (fun t_ k_ => XS.aloadN X1.here hx rfl (hb hby d1_7) rfl rfl k_) ?_
    obtain ⟨T2, X2, e2, st2⟩ := getS2 X1 hx hZ hown (host := "") (Or.inl (hw _ (List.mem_of_getElem? (i := 12) rfl))) Via.refl e1 S_A (g := (mkF m 8 #[.val (.ref a1)] [(.ref a1)])) rfl (hb hby d1_8)
    refine Go.st (T' := T2) (g' := (mkF m 11 #[.val (.ref a1)] [(.ref w4), (.ref a1)])) st2 ?_
    by_cases ha11 : a1 = w4
    · refine Go.st (T' := T2) (g' := (mkF m 14 #[.val (.ref a1)] [])) (fun t_ k_ => Jvm.RoadKit.acmp (g := (mkF m 11 #[.val (.ref a1)] [(.ref w4), (.ref a1)])) X2 hx rfl rfl rfl (pc0 := 11) (pc' := 14) (same := true) rfl (hb hby d1_11) rfl (decide_eq_true (congrArg Value.ref ha11)) (by decide) (by decide) k_) ?_
      refine Go.st (T' := T2) (g' := (mkF m 15 #[.val (.ref a1)] [(.int (1 : Int32))])) (fun t_ k_ => XS.iconst X2.here hx rfl (hb hby d1_14) k_) ?_
      refine Go.st (T' := T2) (g' := (mkF m 19 #[.val (.ref a1)] [(.int (1 : Int32))])) (fun t_ k_ => XS.goto X2.here hx rfl (pc0 := 15) (pc' := 19) rfl (hb hby d1_15) (by decide) (by decide) k_) ?_
      refine Go.retB X2 hx Bd.returns hlk (t := .boolean) (by simp) (hb hby d1_19) (by decide) (by decide) ?_
      rw [e2]
      exact ⟨by rw [hr, if_pos (Or.inr ha11)] <;> rfl, N0, rfl⟩
    · refine Go.st (T' := T2) (g' := (mkF m 18 #[.val (.ref a1)] [])) (fun t_ k_ => Jvm.RoadKit.acmp (g := (mkF m 11 #[.val (.ref a1)] [(.ref w4), (.ref a1)])) X2 hx rfl rfl rfl (pc0 := 11) (pc' := 18) (same := false) rfl (hb hby d1_11) rfl (decide_eq_false fun q => ha11 (Value.ref.inj q)) (by decide) (by decide) k_) ?_
      refine Go.st (T' := T2) (g' := (mkF m 19 #[.val (.ref a1)] [(.int (0 : Int32))])) (fun t_ k_ => XS.iconst X2.here hx rfl (hb hby d1_18) k_) ?_
      refine Go.retB X2 hx Bd.returns hlk (t := .boolean) (by simp) (hb hby d1_19) (by decide) (by decide) ?_
      rw [e2]
      exact ⟨by rw [hr, if_neg (fun q => q.elim ha4 ha11)] <;> rfl, N0, rfl⟩
theorem pn_1 : plainName "com/example/multigrain/multigrain/table/OutcomeIsGrantedPinLaw" = true := by first | (simp [plainName, overriddenIn]; done) | decide +kernel
theorem pd_0 : parseMethodDescriptor "()Z" = some ⟨[], some .boolean⟩ := by decide +kernel
theorem ef_0 (m : MethodId) (p1 : Int32) : entryFrame m #[(.int p1)] maxLocals = mkF m 0 #[.val (.int p1), .unset, .unset, .unset] [] := by first | (simp [entryFrame, mkF, argsToLocals, Value.category, maxLocals]; done) | rfl
def Q0 (Z : State) (p1 : Int32) (wG : Addr) (wT : Addr) (wA : Addr) (wD : Addr) (wR : Addr) (h0 : Heap) (n0 : Nat) (v : Option Value) (h : Heap) (L : List Loc) : Prop := v = some (.int 1) ∧ Fr n0 L
set_option maxRecDepth 65536 in
set_option maxHeartbeats 40000000 in
theorem rm0 (l : Launch) (Z : State) (a0 : Array Value) (hw : ∀ d ∈ tables_1, d.before a0 Z = true) (ws : List Jvm.Cond) (p1 : Int32) (wG : Addr) (wT : Addr) (wA : Addr) (wD : Addr) (wR : Addr) (h0 : Heap) (n0 : Nat) (Z0 : n0 ≤ h0.size) (S_G : Sta Z h0 "com/example/multigrain/multigrain/table/LockTable$Outcome" "GRANTED" "Lcom/example/multigrain/multigrain/table/LockTable$Outcome;" (.ref wG)) (E_G : Exa Z h0 wG "com/example/multigrain/multigrain/table/LockTable$Outcome") (S_T : Sta Z h0 "com/example/multigrain/multigrain/table/LockTable$Outcome" "TIMED_OUT" "Lcom/example/multigrain/multigrain/table/LockTable$Outcome;" (.ref wT)) (E_T : Exa Z h0 wT "com/example/multigrain/multigrain/table/LockTable$Outcome") (S_A : Sta Z h0 "com/example/multigrain/multigrain/table/LockTable$Outcome" "GRANTED_AFTER_WAITING" "Lcom/example/multigrain/multigrain/table/LockTable$Outcome;" (.ref wA)) (E_A : Exa Z h0 wA "com/example/multigrain/multigrain/table/LockTable$Outcome") (S_D : Sta Z h0 "com/example/multigrain/multigrain/table/LockTable$Outcome" "DEADLOCKED" "Lcom/example/multigrain/multigrain/table/LockTable$Outcome;" (.ref wD)) (E_D : Exa Z h0 wD "com/example/multigrain/multigrain/table/LockTable$Outcome") (S_R : Sta Z h0 "com/example/multigrain/multigrain/table/LockTable$Outcome" "REFUSED" "Lcom/example/multigrain/multigrain/table/LockTable$Outcome;" (.ref wR)) (E_R : Exa Z h0 wR "com/example/multigrain/multigrain/table/LockTable$Outcome") (nTG : ¬ (wT = wG)) (nTA : ¬ (wT = wA)) (nDG : ¬ (wD = wG)) (nDA : ¬ (wD = wA)) (nRG : ¬ (wR = wG)) (nRA : ¬ (wR = wA)) :
    MetFree l x (head1 (Jvm.Cond.code x code maxLocals ret :: ws) room_1) (fun a U => a = #[(.int p1)] ∧ Z.Warmed39 U.vm ∧ U.heap = h0) (fun _ _ _ _ _ => True) (fun _ U o U' => ∃ v L, o = .returned v ∧ Q0 Z p1 wG wT wA wD wR h0 n0 v U'.heap L ∧ FrameEnd U o U' L room_1.cells room_1.slots) := by
  refine MetFree.of_bodySF (plainFor_of_name pn_1) hisR ?_
  intro p e s m args below meth c s₁ Bd hml0 hP hK
  obtain ⟨rfl, hZ, hh⟩ := hP
  have hx := Bd.exec
  have hby := Bd.bytes
  have hml : c.maxLocals = 4 := hml0
  have hown : s.vm.findClass "com/example/multigrain/multigrain/table/OutcomeIsGrantedPinLaw" = some m.cls := findClass_of_methodNamed Bd.named
  have hnm := (name_of_methodNamed Bd.named Bd.method).1
  have hlk : meth.locks = false := BodyLoose.notSynchronized Bd
  have X0 : Stand p l e room_1 s m #[(.int p1)] below meth c s₁ [] 0 0 := Stand.of_body Bd
  have e0 : s₁.heap = h0 := by rw [← hh, Bd.state]; rfl
  have N0 := Fr.nil n0
  suffices hgo : Go p e below s (Q0 Z p1 wG wT wA wD wR h0 n0) room_1.cells room_1.slots s₁ (mkF m 0 #[.val (.int p1), .unset, .unset, .unset] []) by
    obtain ⟨s₂, o, k1, k2⟩ := hgo
    exact ⟨s₂, o, castTop (ef_0 m p1) k1, k2⟩
  suffices J6 : ∀ k : Int32, Go p e below s (Q0 Z p1 wG wT wA wD wR h0 n0) room_1.cells room_1.slots s₁ (mkF m 6 #[.val (.int p1), .unset, .unset, .unset] [(.int k)]) by
    refine Go.st (T' := s₁) (g' := (mkF m 1 #[.val (.int p1), .unset, .unset, .unset] [(.int p1)])) (fun t_ k_ => XS.iloadN X0.here hx rfl (hb hby at_0) rfl  k_) ?_
    refine Go.st (T' := s₁) (g' := (mkF m 3 #[.val (.int p1), .unset, .unset, .unset] [(.int (2147483647 : Int32)), (.int p1)])) (fun t_ k_ => X0.ldcI hx hown (mvT hZ (hw _ (List.mem_of_getElem? (i := 0) rfl))) rfl (hb hby at_1) k_) ?_
    refine Go.st (T' := s₁) (g' := (mkF m 4 #[.val (.int p1), .unset, .unset, .unset] [(.int (p1 &&& (2147483647 : Int32)))])) (fun t_ k_ => XS.iand X0.here hx rfl (hb hby at_3) rfl k_) ?_
    refine Go.st (T' := s₁) (g' := (mkF m 5 #[.val (.int p1), .unset, .unset, .unset] [(.int (5 : Int32)), (.int (p1 &&& (2147483647 : Int32)))])) (fun t_ k_ => XS.iconst X0.here hx rfl (hb hby at_4) k_) ?_
    refine Go.st (T' := s₁) (g' := (mkF m 6 #[.val (.int p1), .unset, .unset, .unset] [(.int ((p1 &&& (2147483647 : Int32)) % (5 : Int32)))])) (fun t_ k_ => iremM X0 hx rfl (hb hby at_5) rfl (by decide) k_) ?_
    exact J6 _ 
  intro k
  refine Go.st (T' := s₁) (g' := (mkF m 7 #[.val (.int p1), .val (.int k), .unset, .unset] [])) (fun t_ k_ => XS.istoreN X0.here hx rfl (hb hby at_6) rfl (l' := #[.val (.int p1), .val (.int k), .unset, .unset]) rfl k_) ?_
  refine Go.st (T' := s₁) (g' := (mkF m 8 #[.val (.int p1), .val (.int k), .unset, .unset] [(.int k)])) (fun t_ k_ => XS.iloadN X0.here hx rfl (hb hby at_7) rfl  k_) ?_
  by_cases hc8 : k = (0 : Int32)
  · refine Go.st (T' := s₁) (g' := (mkF m 11 #[.val (.int p1), .val (.int k), .unset, .unset] [])) (fun t_ k_ => XS.ifNo X0.here hx rfl (hb hby at_8) rfl ((if0 _ _).trans (teq hc8).2) k_) ?_
    obtain ⟨T1, X1, e1, st1⟩ := getS2 X0 hx hZ hown (host := "") (Or.inl (hw _ (List.mem_of_getElem? (i := 1) rfl))) Via.refl e0 S_G (g := (mkF m 11 #[.val (.int p1), .val (.int k), .unset, .unset] [])) rfl (hb hby at_11)
    refine Go.st (T' := T1) (g' := (mkF m 14 #[.val (.int p1), .val (.int k), .unset, .unset] [(.ref wG)])) st1 ?_
    refine Go.st (T' := T1) (g' := (mkF m 15 #[.val (.int p1), .val (.int k), .val (.ref wG), .unset] [])) (fun t_ k_ => XS.astoreN X1.here hx rfl (hb hby at_14) rfl rfl (l' := #[.val (.int p1), .val (.int k), .val (.ref wG), .unset]) rfl k_) ?_
    refine Go.st (T' := T1) (g' := (mkF m 16 #[.val (.int p1), .val (.int k), .val (.ref wG), .unset] [(.int (1 : Int32))])) (fun t_ k_ => XS.iconst X1.here hx rfl (hb hby at_15) k_) ?_
    refine Go.st (T' := T1) (g' := (mkF m 17 #[.val (.int p1), .val (.int k), .val (.ref wG), .val (.int (1 : Int32))] [])) (fun t_ k_ => XS.istoreN X1.here hx rfl (hb hby at_16) rfl (l' := #[.val (.int p1), .val (.int k), .val (.ref wG), .val (.int (1 : Int32))]) rfl k_) ?_
    refine Go.st (T' := T1) (g' := (mkF m 68 #[.val (.int p1), .val (.int k), .val (.ref wG), .val (.int (1 : Int32))] [])) (fun t_ k_ => XS.goto X1.here hx rfl (pc0 := 17) (pc' := 68) rfl (hb hby at_17) (by decide) (by decide) k_) ?_
    refine Go.st (T' := T1) (g' := (mkF m 69 #[.val (.int p1), .val (.int k), .val (.ref wG), .val (.int (1 : Int32))] [(.ref wG)])) (fun t_ k_ => XS.aloadN X1.here hx rfl (hb hby at_68) rfl rfl k_) ?_
    obtain ⟨cq2, kq2, q2a, q2b, q2c⟩ := isOf hZ e1 E_G
    obtain ⟨_, _, ⟨T2, L2, k2, n2⟩, -, X2, ⟨Lc2, hQ2, l2, y2, z2⟩, st2⟩ := X1.virtualBack hx (y := (⟨"com/example/multigrain/multigrain/table/LockTable$Outcome", "isGranted", "()Z"⟩ : MethodName)) (z := (⟨"com/example/multigrain/multigrain/table/LockTable$Outcome", "isGranted", "()Z"⟩ : MethodName)) hown (mvT hZ (hw _ (List.mem_of_getElem? (i := 4) rfl))) (mvT hZ (hw _ (List.mem_of_getElem? (i := 5) rfl))) (notFace_of_selects (args := #[]) (mvT hZ (hw _ (List.mem_of_getElem? (i := 7) rfl)))) (mvT hZ (hw _ (List.mem_of_getElem? (i := 7) rfl))) (mvT hZ (hw _ (List.mem_of_getElem? (i := 6) rfl))) (by decide) (backOf (W := 0) (rm1 l Z a0 hw [] wG wG wA (1 : Int32) h0 n0 Z0 S_G S_A ((if_pos (Or.inl rfl)).symm)) hZ (hw _ (List.mem_of_getElem? (i := 8) rfl)) (hw _ (List.mem_of_getElem? (i := 2) rfl)) (by decide) (by decide)) q2a q2c (g := (mkF m 69 #[.val (.int p1), .val (.int k), .val (.ref wG), .val (.int (1 : Int32))] [(.ref wG)])) rfl (by rw [hml]; rfl) (Steps.refl _) (argsL := []) (rest := []) (lenOf pd_0 rfl) rfl (by show 2 * 0 + _ ≤ _; exact Nat.le_of_eq rfl) (hb hby at_69) (fun _ _ => ⟨rfl, e1, (by decide : 0 + 0 ≤ _), (by decide : 0 + 0 ≤ _)⟩)
    dsimp only [Pt.U, Pt.locs, Pt.cells, Pt.slots] at X2 l2 y2 z2 st2 hQ2
    subst l2 y2 z2
    obtain ⟨rfl, Nq2, e2⟩ := hQ2
    have N2 := Fr.app N0 Nq2
    refine Go.ts (T' := T2) (g' := (mkF m 72 #[.val (.int p1), .val (.int k), .val (.ref wG), .val (.int (1 : Int32))] [(.int (1 : Int32))])) st2 ?_
    refine Go.st (T' := T2) (g' := (mkF m 73 #[.val (.int p1), .val (.int k), .val (.ref wG), .val (.int (1 : Int32))] [(.int (1 : Int32)), (.int (1 : Int32))])) (fun t_ k_ => XS.iloadN X2.here hx rfl (hb hby at_72) rfl  k_) ?_
    refine Go.st (T' := T2) (g' := (mkF m 76 #[.val (.int p1), .val (.int k), .val (.ref wG), .val (.int (1 : Int32))] [])) (fun t_ k_ => XS.icmpNo X2.here hx rfl (hb hby at_73) rfl (teq (by decide)).2 k_) ?_
    refine Go.st (T' := T2) (g' := (mkF m 77 #[.val (.int p1), .val (.int k), .val (.ref wG), .val (.int (1 : Int32))] [(.int (1 : Int32))])) (fun t_ k_ => XS.iconst X2.here hx rfl (hb hby at_76) k_) ?_
    refine Go.st (T' := T2) (g' := (mkF m 81 #[.val (.int p1), .val (.int k), .val (.ref wG), .val (.int (1 : Int32))] [(.int (1 : Int32))])) (fun t_ k_ => XS.goto X2.here hx rfl (pc0 := 77) (pc' := 81) rfl (hb hby at_77) (by decide) (by decide) k_) ?_
    refine Go.retB X2 hx Bd.returns hlk (t := .boolean) (by simp) (hb hby at_81) (by decide) (by decide) ?_
    rw [e2]
    exact ⟨rfl, N2⟩
  · refine Go.st (T' := s₁) (g' := (mkF m 20 #[.val (.int p1), .val (.int k), .unset, .unset] [])) (fun t_ k_ => XS.ifYes X0.here hx rfl (pc0 := 8) (pc' := 20) rfl (hb hby at_8) rfl ((if0 _ _).trans (feq hc8).2) (by decide) (by decide) k_) ?_
    refine Go.st (T' := s₁) (g' := (mkF m 21 #[.val (.int p1), .val (.int k), .unset, .unset] [(.int k)])) (fun t_ k_ => XS.iloadN X0.here hx rfl (hb hby at_20) rfl  k_) ?_
    refine Go.st (T' := s₁) (g' := (mkF m 22 #[.val (.int p1), .val (.int k), .unset, .unset] [(.int (1 : Int32)), (.int k)])) (fun t_ k_ => XS.iconst X0.here hx rfl (hb hby at_21) k_) ?_
    by_cases hc22 : k = (1 : Int32)
    · refine Go.st (T' := s₁) (g' := (mkF m 25 #[.val (.int p1), .val (.int k), .unset, .unset] [])) (fun t_ k_ => XS.icmpNo X0.here hx rfl (hb hby at_22) rfl (teq hc22).2 k_) ?_
      obtain ⟨T3, X3, e3, st3⟩ := getS2 X0 hx hZ hown (host := "") (Or.inl (hw _ (List.mem_of_getElem? (i := 14) rfl))) Via.refl e0 S_A (g := (mkF m 25 #[.val (.int p1), .val (.int k), .unset, .unset] [])) rfl (hb hby at_25)
      refine Go.st (T' := T3) (g' := (mkF m 28 #[.val (.int p1), .val (.int k), .unset, .unset] [(.ref wA)])) st3 ?_
      refine Go.st (T' := T3) (g' := (mkF m 29 #[.val (.int p1), .val (.int k), .val (.ref wA), .unset] [])) (fun t_ k_ => XS.astoreN X3.here hx rfl (hb hby at_28) rfl rfl (l' := #[.val (.int p1), .val (.int k), .val (.ref wA), .unset]) rfl k_) ?_
      refine Go.st (T' := T3) (g' := (mkF m 30 #[.val (.int p1), .val (.int k), .val (.ref wA), .unset] [(.int (1 : Int32))])) (fun t_ k_ => XS.iconst X3.here hx rfl (hb hby at_29) k_) ?_
      refine Go.st (T' := T3) (g' := (mkF m 31 #[.val (.int p1), .val (.int k), .val (.ref wA), .val (.int (1 : Int32))] [])) (fun t_ k_ => XS.istoreN X3.here hx rfl (hb hby at_30) rfl (l' := #[.val (.int p1), .val (.int k), .val (.ref wA), .val (.int (1 : Int32))]) rfl k_) ?_
      refine Go.st (T' := T3) (g' := (mkF m 68 #[.val (.int p1), .val (.int k), .val (.ref wA), .val (.int (1 : Int32))] [])) (fun t_ k_ => XS.goto X3.here hx rfl (pc0 := 31) (pc' := 68) rfl (hb hby at_31) (by decide) (by decide) k_) ?_
      refine Go.st (T' := T3) (g' := (mkF m 69 #[.val (.int p1), .val (.int k), .val (.ref wA), .val (.int (1 : Int32))] [(.ref wA)])) (fun t_ k_ => XS.aloadN X3.here hx rfl (hb hby at_68) rfl rfl k_) ?_
      obtain ⟨cq4, kq4, q4a, q4b, q4c⟩ := isOf hZ e3 E_A
      obtain ⟨_, _, ⟨T4, L4, k4, n4⟩, -, X4, ⟨Lc4, hQ4, l4, y4, z4⟩, st4⟩ := X3.virtualBack hx (y := (⟨"com/example/multigrain/multigrain/table/LockTable$Outcome", "isGranted", "()Z"⟩ : MethodName)) (z := (⟨"com/example/multigrain/multigrain/table/LockTable$Outcome", "isGranted", "()Z"⟩ : MethodName)) hown (mvT hZ (hw _ (List.mem_of_getElem? (i := 4) rfl))) (mvT hZ (hw _ (List.mem_of_getElem? (i := 5) rfl))) (notFace_of_selects (args := #[]) (mvT hZ (hw _ (List.mem_of_getElem? (i := 7) rfl)))) (mvT hZ (hw _ (List.mem_of_getElem? (i := 7) rfl))) (mvT hZ (hw _ (List.mem_of_getElem? (i := 6) rfl))) (by decide) (backOf (W := 0) (rm1 l Z a0 hw [] wA wG wA (1 : Int32) h0 n0 Z0 S_G S_A ((if_pos (Or.inr rfl)).symm)) hZ (hw _ (List.mem_of_getElem? (i := 8) rfl)) (hw _ (List.mem_of_getElem? (i := 2) rfl)) (by decide) (by decide)) q4a q4c (g := (mkF m 69 #[.val (.int p1), .val (.int k), .val (.ref wA), .val (.int (1 : Int32))] [(.ref wA)])) rfl (by rw [hml]; rfl) (Steps.refl _) (argsL := []) (rest := []) (lenOf pd_0 rfl) rfl (by show 2 * 0 + _ ≤ _; exact Nat.le_of_eq rfl) (hb hby at_69) (fun _ _ => ⟨rfl, e3, (by decide : 0 + 0 ≤ _), (by decide : 0 + 0 ≤ _)⟩)
      dsimp only [Pt.U, Pt.locs, Pt.cells, Pt.slots] at X4 l4 y4 z4 st4 hQ4
      subst l4 y4 z4
      obtain ⟨rfl, Nq4, e4⟩ := hQ4
      have N4 := Fr.app N0 Nq4
      refine Go.ts (T' := T4) (g' := (mkF m 72 #[.val (.int p1), .val (.int k), .val (.ref wA), .val (.int (1 : Int32))] [(.int (1 : Int32))])) st4 ?_
      refine Go.st (T' := T4) (g' := (mkF m 73 #[.val (.int p1), .val (.int k), .val (.ref wA), .val (.int (1 : Int32))] [(.int (1 : Int32)), (.int (1 : Int32))])) (fun t_ k_ => XS.iloadN X4.here hx rfl (hb hby at_72) rfl  k_) ?_
      refine Go.st (T' := T4) (g' := (mkF m 76 #[.val (.int p1), .val (.int k), .val (.ref wA), .val (.int (1 : Int32))] [])) (fun t_ k_ => XS.icmpNo X4.here hx rfl (hb hby at_73) rfl (teq (by decide)).2 k_) ?_
      refine Go.st (T' := T4) (g' := (mkF m 77 #[.val (.int p1), .val (.int k), .val (.ref wA), .val (.int (1 : Int32))] [(.int (1 : Int32))])) (fun t_ k_ => XS.iconst X4.here hx rfl (hb hby at_76) k_) ?_
      refine Go.st (T' := T4) (g' := (mkF m 81 #[.val (.int p1), .val (.int k), .val (.ref wA), .val (.int (1 : Int32))] [(.int (1 : Int32))])) (fun t_ k_ => XS.goto X4.here hx rfl (pc0 := 77) (pc' := 81) rfl (hb hby at_77) (by decide) (by decide) k_) ?_
      refine Go.retB X4 hx Bd.returns hlk (t := .boolean) (by simp) (hb hby at_81) (by decide) (by decide) ?_
      rw [e4]
      exact ⟨rfl, N4⟩
    · refine Go.st (T' := s₁) (g' := (mkF m 34 #[.val (.int p1), .val (.int k), .unset, .unset] [])) (fun t_ k_ => XS.icmpYes X0.here hx rfl (pc0 := 22) (pc' := 34) rfl (hb hby at_22) rfl (feq hc22).2 (by decide) (by decide) k_) ?_
      refine Go.st (T' := s₁) (g' := (mkF m 35 #[.val (.int p1), .val (.int k), .unset, .unset] [(.int k)])) (fun t_ k_ => XS.iloadN X0.here hx rfl (hb hby at_34) rfl  k_) ?_
      refine Go.st (T' := s₁) (g' := (mkF m 36 #[.val (.int p1), .val (.int k), .unset, .unset] [(.int (2 : Int32)), (.int k)])) (fun t_ k_ => XS.iconst X0.here hx rfl (hb hby at_35) k_) ?_
      by_cases hc36 : k = (2 : Int32)
      · refine Go.st (T' := s₁) (g' := (mkF m 39 #[.val (.int p1), .val (.int k), .unset, .unset] [])) (fun t_ k_ => XS.icmpNo X0.here hx rfl (hb hby at_36) rfl (teq hc36).2 k_) ?_
        obtain ⟨T5, X5, e5, st5⟩ := getS2 X0 hx hZ hown (host := "") (Or.inl (hw _ (List.mem_of_getElem? (i := 17) rfl))) Via.refl e0 S_R (g := (mkF m 39 #[.val (.int p1), .val (.int k), .unset, .unset] [])) rfl (hb hby at_39)
        refine Go.st (T' := T5) (g' := (mkF m 42 #[.val (.int p1), .val (.int k), .unset, .unset] [(.ref wR)])) st5 ?_
        refine Go.st (T' := T5) (g' := (mkF m 43 #[.val (.int p1), .val (.int k), .val (.ref wR), .unset] [])) (fun t_ k_ => XS.astoreN X5.here hx rfl (hb hby at_42) rfl rfl (l' := #[.val (.int p1), .val (.int k), .val (.ref wR), .unset]) rfl k_) ?_
        refine Go.st (T' := T5) (g' := (mkF m 44 #[.val (.int p1), .val (.int k), .val (.ref wR), .unset] [(.int (0 : Int32))])) (fun t_ k_ => XS.iconst X5.here hx rfl (hb hby at_43) k_) ?_
        refine Go.st (T' := T5) (g' := (mkF m 45 #[.val (.int p1), .val (.int k), .val (.ref wR), .val (.int (0 : Int32))] [])) (fun t_ k_ => XS.istoreN X5.here hx rfl (hb hby at_44) rfl (l' := #[.val (.int p1), .val (.int k), .val (.ref wR), .val (.int (0 : Int32))]) rfl k_) ?_
        refine Go.st (T' := T5) (g' := (mkF m 68 #[.val (.int p1), .val (.int k), .val (.ref wR), .val (.int (0 : Int32))] [])) (fun t_ k_ => XS.goto X5.here hx rfl (pc0 := 45) (pc' := 68) rfl (hb hby at_45) (by decide) (by decide) k_) ?_
        refine Go.st (T' := T5) (g' := (mkF m 69 #[.val (.int p1), .val (.int k), .val (.ref wR), .val (.int (0 : Int32))] [(.ref wR)])) (fun t_ k_ => XS.aloadN X5.here hx rfl (hb hby at_68) rfl rfl k_) ?_
        obtain ⟨cq6, kq6, q6a, q6b, q6c⟩ := isOf hZ e5 E_R
        obtain ⟨_, _, ⟨T6, L6, k6, n6⟩, -, X6, ⟨Lc6, hQ6, l6, y6, z6⟩, st6⟩ := X5.virtualBack hx (y := (⟨"com/example/multigrain/multigrain/table/LockTable$Outcome", "isGranted", "()Z"⟩ : MethodName)) (z := (⟨"com/example/multigrain/multigrain/table/LockTable$Outcome", "isGranted", "()Z"⟩ : MethodName)) hown (mvT hZ (hw _ (List.mem_of_getElem? (i := 4) rfl))) (mvT hZ (hw _ (List.mem_of_getElem? (i := 5) rfl))) (notFace_of_selects (args := #[]) (mvT hZ (hw _ (List.mem_of_getElem? (i := 7) rfl)))) (mvT hZ (hw _ (List.mem_of_getElem? (i := 7) rfl))) (mvT hZ (hw _ (List.mem_of_getElem? (i := 6) rfl))) (by decide) (backOf (W := 0) (rm1 l Z a0 hw [] wR wG wA (0 : Int32) h0 n0 Z0 S_G S_A ((if_neg (fun q => q.elim nRG nRA)).symm)) hZ (hw _ (List.mem_of_getElem? (i := 8) rfl)) (hw _ (List.mem_of_getElem? (i := 2) rfl)) (by decide) (by decide)) q6a q6c (g := (mkF m 69 #[.val (.int p1), .val (.int k), .val (.ref wR), .val (.int (0 : Int32))] [(.ref wR)])) rfl (by rw [hml]; rfl) (Steps.refl _) (argsL := []) (rest := []) (lenOf pd_0 rfl) rfl (by show 2 * 0 + _ ≤ _; exact Nat.le_of_eq rfl) (hb hby at_69) (fun _ _ => ⟨rfl, e5, (by decide : 0 + 0 ≤ _), (by decide : 0 + 0 ≤ _)⟩)
        dsimp only [Pt.U, Pt.locs, Pt.cells, Pt.slots] at X6 l6 y6 z6 st6 hQ6
        subst l6 y6 z6
        obtain ⟨rfl, Nq6, e6⟩ := hQ6
        have N6 := Fr.app N0 Nq6
        refine Go.ts (T' := T6) (g' := (mkF m 72 #[.val (.int p1), .val (.int k), .val (.ref wR), .val (.int (0 : Int32))] [(.int (0 : Int32))])) st6 ?_
        refine Go.st (T' := T6) (g' := (mkF m 73 #[.val (.int p1), .val (.int k), .val (.ref wR), .val (.int (0 : Int32))] [(.int (0 : Int32)), (.int (0 : Int32))])) (fun t_ k_ => XS.iloadN X6.here hx rfl (hb hby at_72) rfl  k_) ?_
        refine Go.st (T' := T6) (g' := (mkF m 76 #[.val (.int p1), .val (.int k), .val (.ref wR), .val (.int (0 : Int32))] [])) (fun t_ k_ => XS.icmpNo X6.here hx rfl (hb hby at_73) rfl (teq (by decide)).2 k_) ?_
        refine Go.st (T' := T6) (g' := (mkF m 77 #[.val (.int p1), .val (.int k), .val (.ref wR), .val (.int (0 : Int32))] [(.int (1 : Int32))])) (fun t_ k_ => XS.iconst X6.here hx rfl (hb hby at_76) k_) ?_
        refine Go.st (T' := T6) (g' := (mkF m 81 #[.val (.int p1), .val (.int k), .val (.ref wR), .val (.int (0 : Int32))] [(.int (1 : Int32))])) (fun t_ k_ => XS.goto X6.here hx rfl (pc0 := 77) (pc' := 81) rfl (hb hby at_77) (by decide) (by decide) k_) ?_
        refine Go.retB X6 hx Bd.returns hlk (t := .boolean) (by simp) (hb hby at_81) (by decide) (by decide) ?_
        rw [e6]
        exact ⟨rfl, N6⟩
      · refine Go.st (T' := s₁) (g' := (mkF m 48 #[.val (.int p1), .val (.int k), .unset, .unset] [])) (fun t_ k_ => XS.icmpYes X0.here hx rfl (pc0 := 36) (pc' := 48) rfl (hb hby at_36) rfl (feq hc36).2 (by decide) (by decide) k_) ?_
        refine Go.st (T' := s₁) (g' := (mkF m 49 #[.val (.int p1), .val (.int k), .unset, .unset] [(.int k)])) (fun t_ k_ => XS.iloadN X0.here hx rfl (hb hby at_48) rfl  k_) ?_
        refine Go.st (T' := s₁) (g' := (mkF m 50 #[.val (.int p1), .val (.int k), .unset, .unset] [(.int (3 : Int32)), (.int k)])) (fun t_ k_ => XS.iconst X0.here hx rfl (hb hby at_49) k_) ?_
        by_cases hc50 : k = (3 : Int32)
        · refine Go.st (T' := s₁) (g' := (mkF m 53 #[.val (.int p1), .val (.int k), .unset, .unset] [])) (fun t_ k_ => XS.icmpNo X0.here hx rfl (hb hby at_50) rfl (teq hc50).2 k_) ?_
          obtain ⟨T7, X7, e7, st7⟩ := getS2 X0 hx hZ hown (host := "") (Or.inl (hw _ (List.mem_of_getElem? (i := 10) rfl))) Via.refl e0 S_T (g := (mkF m 53 #[.val (.int p1), .val (.int k), .unset, .unset] [])) rfl (hb hby at_53)
          refine Go.st (T' := T7) (g' := (mkF m 56 #[.val (.int p1), .val (.int k), .unset, .unset] [(.ref wT)])) st7 ?_
          refine Go.st (T' := T7) (g' := (mkF m 57 #[.val (.int p1), .val (.int k), .val (.ref wT), .unset] [])) (fun t_ k_ => XS.astoreN X7.here hx rfl (hb hby at_56) rfl rfl (l' := #[.val (.int p1), .val (.int k), .val (.ref wT), .unset]) rfl k_) ?_
          refine Go.st (T' := T7) (g' := (mkF m 58 #[.val (.int p1), .val (.int k), .val (.ref wT), .unset] [(.int (0 : Int32))])) (fun t_ k_ => XS.iconst X7.here hx rfl (hb hby at_57) k_) ?_
          refine Go.st (T' := T7) (g' := (mkF m 59 #[.val (.int p1), .val (.int k), .val (.ref wT), .val (.int (0 : Int32))] [])) (fun t_ k_ => XS.istoreN X7.here hx rfl (hb hby at_58) rfl (l' := #[.val (.int p1), .val (.int k), .val (.ref wT), .val (.int (0 : Int32))]) rfl k_) ?_
          refine Go.st (T' := T7) (g' := (mkF m 68 #[.val (.int p1), .val (.int k), .val (.ref wT), .val (.int (0 : Int32))] [])) (fun t_ k_ => XS.goto X7.here hx rfl (pc0 := 59) (pc' := 68) rfl (hb hby at_59) (by decide) (by decide) k_) ?_
          refine Go.st (T' := T7) (g' := (mkF m 69 #[.val (.int p1), .val (.int k), .val (.ref wT), .val (.int (0 : Int32))] [(.ref wT)])) (fun t_ k_ => XS.aloadN X7.here hx rfl (hb hby at_68) rfl rfl k_) ?_
          obtain ⟨cq8, kq8, q8a, q8b, q8c⟩ := isOf hZ e7 E_T
          obtain ⟨_, _, ⟨T8, L8, k8, n8⟩, -, X8, ⟨Lc8, hQ8, l8, y8, z8⟩, st8⟩ := X7.virtualBack hx (y := (⟨"com/example/multigrain/multigrain/table/LockTable$Outcome", "isGranted", "()Z"⟩ : MethodName)) (z := (⟨"com/example/multigrain/multigrain/table/LockTable$Outcome", "isGranted", "()Z"⟩ : MethodName)) hown (mvT hZ (hw _ (List.mem_of_getElem? (i := 4) rfl))) (mvT hZ (hw _ (List.mem_of_getElem? (i := 5) rfl))) (notFace_of_selects (args := #[]) (mvT hZ (hw _ (List.mem_of_getElem? (i := 7) rfl)))) (mvT hZ (hw _ (List.mem_of_getElem? (i := 7) rfl))) (mvT hZ (hw _ (List.mem_of_getElem? (i := 6) rfl))) (by decide) (backOf (W := 0) (rm1 l Z a0 hw [] wT wG wA (0 : Int32) h0 n0 Z0 S_G S_A ((if_neg (fun q => q.elim nTG nTA)).symm)) hZ (hw _ (List.mem_of_getElem? (i := 8) rfl)) (hw _ (List.mem_of_getElem? (i := 2) rfl)) (by decide) (by decide)) q8a q8c (g := (mkF m 69 #[.val (.int p1), .val (.int k), .val (.ref wT), .val (.int (0 : Int32))] [(.ref wT)])) rfl (by rw [hml]; rfl) (Steps.refl _) (argsL := []) (rest := []) (lenOf pd_0 rfl) rfl (by show 2 * 0 + _ ≤ _; exact Nat.le_of_eq rfl) (hb hby at_69) (fun _ _ => ⟨rfl, e7, (by decide : 0 + 0 ≤ _), (by decide : 0 + 0 ≤ _)⟩)
          dsimp only [Pt.U, Pt.locs, Pt.cells, Pt.slots] at X8 l8 y8 z8 st8 hQ8
          subst l8 y8 z8
          obtain ⟨rfl, Nq8, e8⟩ := hQ8
          have N8 := Fr.app N0 Nq8
          refine Go.ts (T' := T8) (g' := (mkF m 72 #[.val (.int p1), .val (.int k), .val (.ref wT), .val (.int (0 : Int32))] [(.int (0 : Int32))])) st8 ?_
          refine Go.st (T' := T8) (g' := (mkF m 73 #[.val (.int p1), .val (.int k), .val (.ref wT), .val (.int (0 : Int32))] [(.int (0 : Int32)), (.int (0 : Int32))])) (fun t_ k_ => XS.iloadN X8.here hx rfl (hb hby at_72) rfl  k_) ?_
          refine Go.st (T' := T8) (g' := (mkF m 76 #[.val (.int p1), .val (.int k), .val (.ref wT), .val (.int (0 : Int32))] [])) (fun t_ k_ => XS.icmpNo X8.here hx rfl (hb hby at_73) rfl (teq (by decide)).2 k_) ?_
          refine Go.st (T' := T8) (g' := (mkF m 77 #[.val (.int p1), .val (.int k), .val (.ref wT), .val (.int (0 : Int32))] [(.int (1 : Int32))])) (fun t_ k_ => XS.iconst X8.here hx rfl (hb hby at_76) k_) ?_
          refine Go.st (T' := T8) (g' := (mkF m 81 #[.val (.int p1), .val (.int k), .val (.ref wT), .val (.int (0 : Int32))] [(.int (1 : Int32))])) (fun t_ k_ => XS.goto X8.here hx rfl (pc0 := 77) (pc' := 81) rfl (hb hby at_77) (by decide) (by decide) k_) ?_
          refine Go.retB X8 hx Bd.returns hlk (t := .boolean) (by simp) (hb hby at_81) (by decide) (by decide) ?_
          rw [e8]
          exact ⟨rfl, N8⟩
        · refine Go.st (T' := s₁) (g' := (mkF m 62 #[.val (.int p1), .val (.int k), .unset, .unset] [])) (fun t_ k_ => XS.icmpYes X0.here hx rfl (pc0 := 50) (pc' := 62) rfl (hb hby at_50) rfl (feq hc50).2 (by decide) (by decide) k_) ?_
          obtain ⟨T9, X9, e9, st9⟩ := getS2 X0 hx hZ hown (host := "") (Or.inl (hw _ (List.mem_of_getElem? (i := 15) rfl))) Via.refl e0 S_D (g := (mkF m 62 #[.val (.int p1), .val (.int k), .unset, .unset] [])) rfl (hb hby at_62)
          refine Go.st (T' := T9) (g' := (mkF m 65 #[.val (.int p1), .val (.int k), .unset, .unset] [(.ref wD)])) st9 ?_
          refine Go.st (T' := T9) (g' := (mkF m 66 #[.val (.int p1), .val (.int k), .val (.ref wD), .unset] [])) (fun t_ k_ => XS.astoreN X9.here hx rfl (hb hby at_65) rfl rfl (l' := #[.val (.int p1), .val (.int k), .val (.ref wD), .unset]) rfl k_) ?_
          refine Go.st (T' := T9) (g' := (mkF m 67 #[.val (.int p1), .val (.int k), .val (.ref wD), .unset] [(.int (0 : Int32))])) (fun t_ k_ => XS.iconst X9.here hx rfl (hb hby at_66) k_) ?_
          refine Go.st (T' := T9) (g' := (mkF m 68 #[.val (.int p1), .val (.int k), .val (.ref wD), .val (.int (0 : Int32))] [])) (fun t_ k_ => XS.istoreN X9.here hx rfl (hb hby at_67) rfl (l' := #[.val (.int p1), .val (.int k), .val (.ref wD), .val (.int (0 : Int32))]) rfl k_) ?_
          refine Go.st (T' := T9) (g' := (mkF m 69 #[.val (.int p1), .val (.int k), .val (.ref wD), .val (.int (0 : Int32))] [(.ref wD)])) (fun t_ k_ => XS.aloadN X9.here hx rfl (hb hby at_68) rfl rfl k_) ?_
          obtain ⟨cq10, kq10, q10a, q10b, q10c⟩ := isOf hZ e9 E_D
          obtain ⟨_, _, ⟨T10, L10, k10, n10⟩, -, X10, ⟨Lc10, hQ10, l10, y10, z10⟩, st10⟩ := X9.virtualBack hx (y := (⟨"com/example/multigrain/multigrain/table/LockTable$Outcome", "isGranted", "()Z"⟩ : MethodName)) (z := (⟨"com/example/multigrain/multigrain/table/LockTable$Outcome", "isGranted", "()Z"⟩ : MethodName)) hown (mvT hZ (hw _ (List.mem_of_getElem? (i := 4) rfl))) (mvT hZ (hw _ (List.mem_of_getElem? (i := 5) rfl))) (notFace_of_selects (args := #[]) (mvT hZ (hw _ (List.mem_of_getElem? (i := 7) rfl)))) (mvT hZ (hw _ (List.mem_of_getElem? (i := 7) rfl))) (mvT hZ (hw _ (List.mem_of_getElem? (i := 6) rfl))) (by decide) (backOf (W := 0) (rm1 l Z a0 hw [] wD wG wA (0 : Int32) h0 n0 Z0 S_G S_A ((if_neg (fun q => q.elim nDG nDA)).symm)) hZ (hw _ (List.mem_of_getElem? (i := 8) rfl)) (hw _ (List.mem_of_getElem? (i := 2) rfl)) (by decide) (by decide)) q10a q10c (g := (mkF m 69 #[.val (.int p1), .val (.int k), .val (.ref wD), .val (.int (0 : Int32))] [(.ref wD)])) rfl (by rw [hml]; rfl) (Steps.refl _) (argsL := []) (rest := []) (lenOf pd_0 rfl) rfl (by show 2 * 0 + _ ≤ _; exact Nat.le_of_eq rfl) (hb hby at_69) (fun _ _ => ⟨rfl, e9, (by decide : 0 + 0 ≤ _), (by decide : 0 + 0 ≤ _)⟩)
          dsimp only [Pt.U, Pt.locs, Pt.cells, Pt.slots] at X10 l10 y10 z10 st10 hQ10
          subst l10 y10 z10
          obtain ⟨rfl, Nq10, e10⟩ := hQ10
          have N10 := Fr.app N0 Nq10
          refine Go.ts (T' := T10) (g' := (mkF m 72 #[.val (.int p1), .val (.int k), .val (.ref wD), .val (.int (0 : Int32))] [(.int (0 : Int32))])) st10 ?_
          refine Go.st (T' := T10) (g' := (mkF m 73 #[.val (.int p1), .val (.int k), .val (.ref wD), .val (.int (0 : Int32))] [(.int (0 : Int32)), (.int (0 : Int32))])) (fun t_ k_ => XS.iloadN X10.here hx rfl (hb hby at_72) rfl  k_) ?_
          refine Go.st (T' := T10) (g' := (mkF m 76 #[.val (.int p1), .val (.int k), .val (.ref wD), .val (.int (0 : Int32))] [])) (fun t_ k_ => XS.icmpNo X10.here hx rfl (hb hby at_73) rfl (teq (by decide)).2 k_) ?_
          refine Go.st (T' := T10) (g' := (mkF m 77 #[.val (.int p1), .val (.int k), .val (.ref wD), .val (.int (0 : Int32))] [(.int (1 : Int32))])) (fun t_ k_ => XS.iconst X10.here hx rfl (hb hby at_76) k_) ?_
          refine Go.st (T' := T10) (g' := (mkF m 81 #[.val (.int p1), .val (.int k), .val (.ref wD), .val (.int (0 : Int32))] [(.int (1 : Int32))])) (fun t_ k_ => XS.goto X10.here hx rfl (pc0 := 77) (pc' := 81) rfl (hb hby at_77) (by decide) (by decide) k_) ?_
          refine Go.retB X10 hx Bd.returns hlk (t := .boolean) (by simp) (hb hby at_81) (by decide) (by decide) ?_
          rw [e10]
          exact ⟨rfl, N10⟩
set_option maxRecDepth 65536 in
set_option maxHeartbeats 40000000 in
theorem comes_1 {Post : Tables → Env → Array Value → State → Outcome → State → Prop} (hpost : ∀ tb e args s v u, (limb_1_1.after args s (.returned v) u = true ∧ limb_1_2.after args s (.returned v) u = true ∧ True) → FrameEnd s (.returned v) u (Jvm.fieldLocs frame_1_writes args s ++ Jvm.arrayLocs frame_1_arrays args s ++ Jvm.staticLocs frame_1_statics s) 0 0 → Post tb e args s (.returned v) u) :
    ArmFor flags0 classFile x code maxLocals ret World_1 tables_1 room_1 Calls_1 rest_1 Pre_1 Post := by
  intro l hfl _ _ p e ha hc hk s m args below hf hA hF happ hP
  obtain ⟨hcalls, hrest, hpre⟩ := hP
  obtain ⟨-, -, -, hnamed, -, -, -, hat⟩ := (Spec.applies_iff hf).mp happ
  obtain ⟨hg, hn⟩ := and_e (Cond.before_iff.mp (show (Jvm.Cond.and given_1 narrow_1).before args s = true from hpre))
  obtain ⟨ga0, gar0⟩ := and_e hg
  obtain ⟨v0, rfl⟩ : ∃ v0 : Value, args = #[v0] := by
    have hs : args.size = 1 := by simpa [Cond.value, given_1] using ga0
    obtain ⟨L⟩ := args
    match L, hs with
    | [v0], _ => exact ⟨v0, rfl⟩
  have hw := fun d (hd : d ∈ tables_1) => atoms_spec (ws := Jvm.Cond.code x code maxLocals ret :: tables_1) hat d (List.mem_cons_of_mem _ hd)
  have hfit : Fit s := fun {y c} hc i hi => by
    obtain ⟨ha, rfl⟩ := Array.getElem?_eq_some_iff.mp hc
    have q := List.all_eq_true.mp ((Array.all_eq_true_iff_forall_mem.mp hF) _ (Array.getElem_mem ha)) i (List.mem_range.mpr hi)
    simpa [Array.getElem?_eq_getElem hi] using q
  obtain ⟨i0, ei0⟩ := is_v gar0
  obtain rfl : v0 = (.int i0) := Option.some.inj ei0
  obtain ⟨na0, nar0⟩ := and_e hn
  obtain ⟨na1, nar1⟩ := and_e nar0
  obtain ⟨na2, nar2⟩ := and_e nar1
  obtain ⟨na3, nar3⟩ := and_e nar2
  obtain ⟨na4, nar4⟩ := and_e nar3
  obtain ⟨na5, nar5⟩ := and_e nar4
  obtain ⟨na6, nar6⟩ := and_e nar5
  obtain ⟨na7, nar7⟩ := and_e nar6
  obtain ⟨na8, nar8⟩ := and_e nar7
  obtain ⟨w_GRANTED, ev_GRANTED⟩ := exa_v na0
  have S_GRANTED := Sta.start ev_GRANTED (Or.inr ⟨(hw _ (List.mem_of_getElem? (i := 2) rfl)), (hw _ (List.mem_of_getElem? (i := 3) rfl))⟩)
  have E_GRANTED := exa_at ev_GRANTED na0
  obtain ⟨w_TIMED_OUT, ev_TIMED_OUT⟩ := exa_v na1
  have S_TIMED_OUT := Sta.start ev_TIMED_OUT (Or.inr ⟨(hw _ (List.mem_of_getElem? (i := 2) rfl)), (hw _ (List.mem_of_getElem? (i := 11) rfl))⟩)
  have E_TIMED_OUT := exa_at ev_TIMED_OUT na1
  obtain ⟨w_GRANTED_AFTER_WAITING, ev_GRANTED_AFTER_WAITING⟩ := exa_v na4
  have S_GRANTED_AFTER_WAITING := Sta.start ev_GRANTED_AFTER_WAITING (Or.inr ⟨(hw _ (List.mem_of_getElem? (i := 2) rfl)), (hw _ (List.mem_of_getElem? (i := 13) rfl))⟩)
  have E_GRANTED_AFTER_WAITING := exa_at ev_GRANTED_AFTER_WAITING na4
  obtain ⟨w_DEADLOCKED, ev_DEADLOCKED⟩ := exa_v na6
  have S_DEADLOCKED := Sta.start ev_DEADLOCKED (Or.inr ⟨(hw _ (List.mem_of_getElem? (i := 2) rfl)), (hw _ (List.mem_of_getElem? (i := 16) rfl))⟩)
  have E_DEADLOCKED := exa_at ev_DEADLOCKED na6
  obtain ⟨w_REFUSED, ev_REFUSED⟩ := exa_v na8
  have S_REFUSED := Sta.start ev_REFUSED (Or.inr ⟨(hw _ (List.mem_of_getElem? (i := 2) rfl)), (hw _ (List.mem_of_getElem? (i := 18) rfl))⟩)
  have E_REFUSED := exa_at ev_REFUSED na8
  have F_TIMED_OUT_ordinal := Fld.start ((fld_at ev_TIMED_OUT).symm.trans (eqI_v na2))
  have F_GRANTED_ordinal := Fld.start ((fld_at ev_GRANTED).symm.trans (eqI_v na3))
  have F_GRANTED_AFTER_WAITING_ordinal := Fld.start ((fld_at ev_GRANTED_AFTER_WAITING).symm.trans (eqI_v na5))
  have F_DEADLOCKED_ordinal := Fld.start ((fld_at ev_DEADLOCKED).symm.trans (eqI_v na7))
  have F_REFUSED_ordinal := Fld.start ((fld_at ev_REFUSED).symm.trans (eqI_v nar8))
  obtain ⟨n, o, h1, h2, h3, _, L, rfl, ⟨rfl, N⟩, hq⟩ := rm0 l s _ hw tables_1 i0 w_GRANTED w_TIMED_OUT w_GRANTED_AFTER_WAITING w_DEADLOCKED w_REFUSED s.heap s.heap.size (Nat.le_refl _) S_GRANTED E_GRANTED S_TIMED_OUT E_TIMED_OUT S_GRANTED_AFTER_WAITING E_GRANTED_AFTER_WAITING S_DEADLOCKED E_DEADLOCKED S_REFUSED E_REFUSED (Fld.ne F_TIMED_OUT_ordinal F_GRANTED_ordinal (fun q => absurd (Value.int.inj q) (by decide))) (Fld.ne F_TIMED_OUT_ordinal F_GRANTED_AFTER_WAITING_ordinal (fun q => absurd (Value.int.inj q) (by decide))) (Fld.ne F_DEADLOCKED_ordinal F_GRANTED_ordinal (fun q => absurd (Value.int.inj q) (by decide))) (Fld.ne F_DEADLOCKED_ordinal F_GRANTED_AFTER_WAITING_ordinal (fun q => absurd (Value.int.inj q) (by decide))) (Fld.ne F_REFUSED_ordinal F_GRANTED_ordinal (fun q => absurd (Value.int.inj q) (by decide))) (Fld.ne F_REFUSED_ordinal F_GRANTED_AFTER_WAITING_ordinal (fun q => absurd (Value.int.inj q) (by decide))) p e ha hc hk s m _ below hf ((Spec.applies_iff_loose hf).mp happ).1 ⟨rfl, State.Warmed39.refl s, rfl⟩ trivial
  refine ⟨n, _, h1, h2, h3, hpost _ _ _ _ _ _ ⟨Cond.after_iff.mpr rfl, Cond.after_iff.mpr (eq_i res_at (Term.int_eval (1)) rfl), trivial⟩ ⟨hq.1, hq.2.1, (hq.2.2.sift fun y hy => Or.inr (N y hy)).mono (by decide) (by decide)⟩⟩
theorem main_1_1 : Claimed_1_1 := comes_1 fun _ _ _ _ _ _ h hF => ⟨h.1, hF⟩
theorem main_1_2 : Claimed_1_2 := comes_1 fun _ _ _ _ _ _ h hF => ⟨h.2.1, hF⟩
end Jvm.Pilot.@@N@@
namespace Jvm.Pilot.@@N@@
open Jvm Jvm.ClassFile Sem Op Lib Jvm.Free Jvm.Stand Jvm.Pilot.@@N@@.Jvm.D
/-! MADE BY PROGRAM (witnessworld.py) out of the Statement's table words and the real class files: 12 classes; the members and pool entries that the words name. The judged class is class 1, her method 1. -/
namespace start1
open Jvm.ClassFile
def u (s : String) : CpInfo := .utf8 (stringToUtf16 s)
/-- a pool by its gaps: so many unusable entries, then the entry; so many at the end -/
def gap : Nat → List CpInfo → List CpInfo
  | 0, r => r
  | n + 1, r => .unusable :: gap n r
def poolList (es : List (Nat × CpInfo)) (last : Nat) : List CpInfo := es.foldr (fun e r => gap e.1 (e.2 :: r)) (gap last [])
def pool (es : List (Nat × CpInfo)) (last : Nat) : Array CpInfo := ⟨poolList es last⟩
def fileOf (pool : Array CpInfo) (this : Nat) (attrs : Array Attribute := #[]) (ms : Array MethodInfo := #[]) (fl : Nat := 33) (sup : Nat := 0) (ifs : Array Nat := #[]) (fds : Array FieldInfo := #[]) : ClassFile where
  minorVersion := 0
  majorVersion := 65
  constantPool := pool
  accessFlags := fl
  thisClass := this
  superClass := sup
  interfaces := ifs
  fields := fds
  methods := ms
  attributes := attrs
def plain (name : String) (sup : Option ClassId) : Class where
  name := name
  kind := .ordinary
  loader := none
  accessFlags := 33
  super := sup
  interfaces := #[]
  cf := none
  fields := #[]
  methods := #[]
  instanceTypes := #[]
  staticTypes := #[]
  resolved := #[]
  callSites := []
  init := .initialized
  statics := none
  mirror := none

def pool0 : Array CpInfo := pool [(5, u "<init>"), (0, u "()V"), (1, .class_ 10), (1, u "java/lang/Object")] 113

def k0m0 : Method := { name := "<init>", desc := "()V", sig := { parameters := [], returnType := none }, accessFlags := 1, code := none }
/-- java/lang/Object -/
def k0 : Class := { plain "java/lang/Object" none with
  accessFlags := 33
  interfaces := #[]
  cf := some (fileOf pool0 8 #[] #[{ accessFlags := 1, nameIndex := 5, descriptorIndex := 6, attributes := #[] }] 33 0 #[] #[])
  fields := #[]
  methods := #[k0m0]
  instanceTypes := #[]
  staticTypes := #[]
  resolved := Array.replicate 124 none
  statics := none }

def pool1 : Array CpInfo := pool [(2, .class_ 4), (1, u "java/lang/Object"), (0, u "<init>"), (0, u "()V"), (0, .integer 2147483647), (0, .fieldref 9 10), (0, .class_ 11), (0, .nameAndType 12 13), (0, u "com/example/multigrain/multigrain/table/LockTable$Outcome"), (0, u "GRANTED"), (0, u "Lcom/example/multigrain/multigrain/table/LockTable$Outcome;"), (0, .fieldref 9 15), (0, .nameAndType 16 13), (0, u "GRANTED_AFTER_WAITING"), (0, .fieldref 9 18), (0, .nameAndType 19 13), (0, u "REFUSED"), (0, .fieldref 9 21), (0, .nameAndType 22 13), (0, u "TIMED_OUT"), (0, .fieldref 9 24), (0, .nameAndType 25 13), (0, u "DEADLOCKED"), (0, .methodref 9 27), (0, .nameAndType 28 29), (0, u "isGranted"), (0, u "()Z"), (0, .class_ 31), (0, u "com/example/multigrain/multigrain/table/OutcomeIsGrantedPinLaw"), (2, u "law"), (0, u "(I)Z")] 7

def k1m0 : Method := { name := "<init>", desc := "()V", sig := { parameters := [], returnType := none }, accessFlags := 1, code := none }
def k1c1 : Code := { maxStack := 2, maxLocals := 4, code := code, exceptionTable := #[], attributes := #[] }
def k1m1 : Method := { name := "law", desc := "(I)Z", sig := { parameters := [.int], returnType := some .boolean }, accessFlags := 9, code := some k1c1 }
/-- com/example/multigrain/multigrain/table/OutcomeIsGrantedPinLaw -/
def k1 : Class := { plain "com/example/multigrain/multigrain/table/OutcomeIsGrantedPinLaw" (some 0) with
  accessFlags := 49
  interfaces := #[]
  cf := some (fileOf pool1 30 #[] #[{ accessFlags := 1, nameIndex := 5, descriptorIndex := 6, attributes := #[] }, { accessFlags := 9, nameIndex := 34, descriptorIndex := 35, attributes := #[] }] 49 2 #[] #[])
  fields := #[]
  methods := #[k1m0, k1m1]
  instanceTypes := #[]
  staticTypes := #[]
  resolved := Array.replicate 43 none
  statics := none }

def pool2 : Array CpInfo := pool [(1, .class_ 2), (0, u "java/lang/constant/Constable"), (0, .class_ 4), (0, u "java/lang/Object")] 6

/-- java/lang/constant/Constable -/
def k2 : Class := { plain "java/lang/constant/Constable" (some 0) with
  accessFlags := 1537
  interfaces := #[]
  cf := some (fileOf pool2 1 #[] #[] 1537 3 #[] #[])
  fields := #[]
  methods := #[]
  instanceTypes := #[]
  staticTypes := #[]
  resolved := Array.replicate 11 none
  statics := none }

def pool3 : Array CpInfo := pool [(1, .class_ 2), (0, u "java/lang/Comparable"), (0, .class_ 4), (0, u "java/lang/Object")] 7

/-- java/lang/Comparable -/
def k3 : Class := { plain "java/lang/Comparable" (some 0) with
  accessFlags := 1537
  interfaces := #[]
  cf := some (fileOf pool3 1 #[] #[] 1537 3 #[] #[])
  fields := #[]
  methods := #[]
  instanceTypes := #[]
  staticTypes := #[]
  resolved := Array.replicate 12 none
  statics := none }

def pool4 : Array CpInfo := pool [(1, .class_ 2), (0, u "java/io/Serializable"), (0, .class_ 4), (0, u "java/lang/Object")] 2

/-- java/io/Serializable -/
def k4 : Class := { plain "java/io/Serializable" (some 0) with
  accessFlags := 1537
  interfaces := #[]
  cf := some (fileOf pool4 1 #[] #[] 1537 3 #[] #[])
  fields := #[]
  methods := #[]
  instanceTypes := #[]
  staticTypes := #[]
  resolved := Array.replicate 7 none
  statics := none }

def pool5 : Array CpInfo := pool [(2, .class_ 4), (1, u "java/lang/Enum"), (0, u "name"), (0, u "Ljava/lang/String;"), (2, u "ordinal"), (0, u "I"), (1, .class_ 14), (1, u "java/lang/Object"), (4, u "hash"), (86, .class_ 108), (1, u "java/lang/Enum$EnumDesc"), (2, .class_ 112), (0, u "java/lang/constant/Constable"), (0, .class_ 114), (0, u "java/lang/Comparable"), (0, .class_ 116), (0, u "java/io/Serializable")] 87

/-- java/lang/Enum -/
def k5 : Class := { plain "java/lang/Enum" (some 0) with
  accessFlags := 1057
  interfaces := #[2, 3, 4]
  cf := some (fileOf pool5 2 #[.nestMembers #[106]] #[] 1057 12 #[111, 113, 115] #[{ accessFlags := 18, nameIndex := 5, descriptorIndex := 6, attributes := #[] }, { accessFlags := 18, nameIndex := 9, descriptorIndex := 10, attributes := #[] }, { accessFlags := 2, nameIndex := 19, descriptorIndex := 10, attributes := #[] }])
  fields := #[{ name := "name", type := (.object "java/lang/String"), accessFlags := 18, slot := 0, constantValue := 0 }, { name := "ordinal", type := .int, accessFlags := 18, slot := 1, constantValue := 0 }, { name := "hash", type := .int, accessFlags := 2, slot := 2, constantValue := 0 }]
  methods := #[]
  instanceTypes := #[(.object "java/lang/String"), .int, .int]
  staticTypes := #[]
  resolved := Array.replicate 204 none
  statics := none }

def pool6 : Array CpInfo := pool [(1, .class_ 2), (0, u "com/example/multigrain/multigrain/table/LockTable$Outcome"), (0, .fieldref 1 4), (0, .nameAndType 5 6), (0, u "GRANTED"), (0, u "Lcom/example/multigrain/multigrain/table/LockTable$Outcome;"), (0, .fieldref 1 8), (0, .nameAndType 9 6), (0, u "GRANTED_AFTER_WAITING"), (2, u "REFUSED"), (2, u "TIMED_OUT"), (2, u "DEADLOCKED"), (2, u "$VALUES"), (0, u "[Lcom/example/multigrain/multigrain/table/LockTable$Outcome;"), (6, .class_ 31), (1, u "java/lang/Enum"), (23, u "isGranted"), (0, u "()Z"), (7, .class_ 65), (0, u "com/example/multigrain/multigrain/table/LockTable")] 2

def k6c0 : Code := { maxStack := 2, maxLocals := 1, code := prog_37_method_4_code, exceptionTable := #[], attributes := #[] }
def k6m0 : Method := { name := "isGranted", desc := "()Z", sig := { parameters := [], returnType := some .boolean }, accessFlags := 1, code := some k6c0 }
/-- com/example/multigrain/multigrain/table/LockTable$Outcome -/
def k6 : Class := { plain "com/example/multigrain/multigrain/table/LockTable$Outcome" (some 5) with
  accessFlags := 16433
  interfaces := #[]
  cf := some (fileOf pool6 1 #[.nestHost 64] #[{ accessFlags := 1, nameIndex := 55, descriptorIndex := 56, attributes := #[] }] 16433 29 #[] #[{ accessFlags := 16409, nameIndex := 5, descriptorIndex := 6, attributes := #[] }, { accessFlags := 16409, nameIndex := 9, descriptorIndex := 6, attributes := #[] }, { accessFlags := 16409, nameIndex := 12, descriptorIndex := 6, attributes := #[] }, { accessFlags := 16409, nameIndex := 15, descriptorIndex := 6, attributes := #[] }, { accessFlags := 16409, nameIndex := 18, descriptorIndex := 6, attributes := #[] }, { accessFlags := 4122, nameIndex := 21, descriptorIndex := 22, attributes := #[] }])
  fields := #[{ name := "GRANTED", type := (.object "com/example/multigrain/multigrain/table/LockTable$Outcome"), accessFlags := 16409, slot := 0, constantValue := 0 }, { name := "GRANTED_AFTER_WAITING", type := (.object "com/example/multigrain/multigrain/table/LockTable$Outcome"), accessFlags := 16409, slot := 1, constantValue := 0 }, { name := "REFUSED", type := (.object "com/example/multigrain/multigrain/table/LockTable$Outcome"), accessFlags := 16409, slot := 2, constantValue := 0 }, { name := "TIMED_OUT", type := (.object "com/example/multigrain/multigrain/table/LockTable$Outcome"), accessFlags := 16409, slot := 3, constantValue := 0 }, { name := "DEADLOCKED", type := (.object "com/example/multigrain/multigrain/table/LockTable$Outcome"), accessFlags := 16409, slot := 4, constantValue := 0 }, { name := "$VALUES", type := (.array (.object "com/example/multigrain/multigrain/table/LockTable$Outcome")), accessFlags := 4122, slot := 5, constantValue := 0 }]
  methods := #[k6m0]
  instanceTypes := #[(.object "java/lang/String"), .int, .int]
  staticTypes := #[(.object "com/example/multigrain/multigrain/table/LockTable$Outcome"), (.object "com/example/multigrain/multigrain/table/LockTable$Outcome"), (.object "com/example/multigrain/multigrain/table/LockTable$Outcome"), (.object "com/example/multigrain/multigrain/table/LockTable$Outcome"), (.object "com/example/multigrain/multigrain/table/LockTable$Outcome"), (.array (.object "com/example/multigrain/multigrain/table/LockTable$Outcome"))]
  resolved := Array.replicate 68 none
  statics := some 0 }

def pool7 : Array CpInfo := pool [(1, u "java/lang/Cloneable"), (0, .class_ 1), (0, u "java/lang/Object"), (0, .class_ 3)] 3

/-- java/lang/Cloneable -/
def k7 : Class := { plain "java/lang/Cloneable" (some 0) with
  accessFlags := 1537
  interfaces := #[]
  cf := some (fileOf pool7 2 #[] #[] 1537 4 #[] #[])
  fields := #[]
  methods := #[]
  instanceTypes := #[]
  staticTypes := #[]
  resolved := Array.replicate 8 none
  statics := none }

/-- the primitive byte -/
def k8 : Class := { plain "byte" none with kind := .primitive 'B', accessFlags := 0x411 }
/-- [B -/
def k9 : Class := { plain "[B" (some 0) with kind := .array 8 .byte, interfaces := #[7, 4], accessFlags := 1041 }

/-- the primitive int -/
def k10 : Class := { plain "int" none with kind := .primitive 'I', accessFlags := 0x411 }
/-- [I -/
def k11 : Class := { plain "[I" (some 0) with kind := .array 10 .int, interfaces := #[7, 4], accessFlags := 1041 }

def heap : Heap := #[{ cls := 6, slots := #[.ref 1, .ref 2, .ref 3, .ref 4, .ref 5, .null], vm := .statics 6 },
  { cls := 6, slots := #[.null, .int 0, .int 0], vm := .none },
  { cls := 6, slots := #[.null, .int 1, .int 0], vm := .none },
  { cls := 6, slots := #[.null, .int 2, .int 0], vm := .none },
  { cls := 6, slots := #[.null, .int 3, .int 0], vm := .none },
  { cls := 6, slots := #[.null, .int 4, .int 0], vm := .none }]
def classes : Array Class := #[k0, k1, k2, k3, k4, k5, k6, k7, k8, k9, k10, k11]
def interned : List (Array UInt16 × Addr) := []
def slotsUsed : Nat := 21
def theMethod : MethodId := ⟨1, 1⟩
def args0 : Array Value := #[.int 5]
def aboutOver (below : List Frame) : State where
  vm := { classes := classes, interned := interned.toArray }
  heap := heap
  slotsUsed := slotsUsed
  threads := #[{ frames := .invoking theMethod args0 :: below }]
def below0 : List Frame := [.native { method := ⟨0, 0⟩, args := #[] }]
def about1 : State := aboutOver below0
def p0 : Program := .bare "" "" ""
def e0 : Env := launch0.env 0 0 0
theorem w_frames : about1.frames = Frame.invoking theMethod args0 :: below0 := rfl
set_option maxRecDepth 65536 in
theorem w_args : argsFit about1.vm theMethod args0 = true := by decide +kernel
set_option maxRecDepth 65536 in
theorem w_heap : heapFits about1 = true := by decide +kernel
set_option maxRecDepth 65536 in
theorem w_runnable : about1.curStatus? = some .runnable := by decide +kernel
set_option maxRecDepth 65536 in
theorem w_alone : about1.alone = true := by decide +kernel
set_option maxRecDepth 65536 in
theorem w_named : about1.methodNamed? x = some theMethod := by decide +kernel
set_option maxRecDepth 65536 in
theorem w_hears : about1.hears theMethod below0 = true := by decide +kernel
set_option maxRecDepth 65536 in
theorem w_ripe : about1.ripe theMethod args0 below0 = true := by decide +kernel
theorem w_running : about1.status = .running := rfl
set_option maxRecDepth 65536 in
theorem w_room : about1.hasRoom e0.platform room_1 = true :=
  launch0.hasRoom_least _ room_1 (by decide +kernel) (by decide +kernel) (by decide +kernel) (by decide +kernel) (by decide +kernel) (by decide +kernel)
theorem allAtoms_all (ts : List Jvm.Cond) (a : Array Jvm.Value) (st : Jvm.State) : (allAtoms ts).before a st = ts.all (fun c => c.before a st) := by
  induction ts with
  | nil => rfl
  | cons c t ih =>
    show (Jvm.Cond.and c (allAtoms t)).before a st = _
    rw [Jvm.Cond.before_and, ih, List.all_cons]
def words1 : List Jvm.Cond := Jvm.Cond.code x code maxLocals ret :: tables_1
/-- a 'code' word, met by the world's own term for the bytes: nothing is compared byte by byte -/
theorem code_word {y : MethodName} {bytes : ByteArray} {mx : Nat} {rt : Option FieldType} {a : Array Value} {s : State} {m : MethodId} {meth : Method} {c : Code} (h1 : s.methodNamed? y = some m) (h2 : s.vm.method? m = some meth) (h3 : meth.code = some c) (h4 : c.code = bytes)
    (h5 : (c.maxLocals == mx && c.exceptionTable.isEmpty && decide (c.maxStack ≤ mostOperands) && decide (meth.sig.returnType = rt) && !meth.locks && decide (parseMethodDescriptor y.desc = some meth.sig)) = true) : (Jvm.Cond.code y bytes mx rt).before a s = true := by
  simp only [Bool.and_eq_true, beq_iff_eq, Bool.not_eq_true', decide_eq_true_eq] at h5
  obtain ⟨⟨⟨⟨⟨g1, g2⟩, g3⟩, g4⟩, g5⟩, g6⟩ := h5
  simp [Cond.before, Cond.holds, Cond.value, h1, h2, h3, h4, g1, g2, g3, g4, g5, g6]
def isCode : Jvm.Cond → Bool
  | .code _ _ _ _ => true
  | _ => false
theorem all_split {L : List Jvm.Cond} {P : Jvm.Cond → Bool} (h1 : L.all (fun c => isCode c || P c) = true) (h2 : ∀ c ∈ L.filter isCode, P c = true) : L.all P = true := by
  refine List.all_eq_true.mpr fun c hc => ?_
  have h := List.all_eq_true.mp h1 c hc
  rcases Bool.eq_false_or_eq_true (isCode c) with hi | hi
  · exact h2 c (List.mem_filter.mpr ⟨hc, hi⟩)
  · simpa [hi] using h
set_option maxRecDepth 65536 in
theorem w_c0 : (Jvm.Cond.code x code maxLocals ret).before args0 about1 = true := code_word (m := ⟨1, 1⟩) (meth := k1m1) (c := k1c1) (by decide +kernel) rfl rfl rfl (by decide +kernel)
set_option maxRecDepth 65536 in
theorem w_c1 : (Jvm.Cond.code ({ cls := "com/example/multigrain/multigrain/table/LockTable$Outcome", name := "isGranted", desc := "()Z" } : Jvm.MethodName) prog_37_method_4_code (1 : Nat) (Option.some Jvm.ClassFile.FieldType.boolean)).before args0 about1 = true := code_word (m := ⟨6, 0⟩) (meth := k6m0) (c := k6c0) (by decide +kernel) rfl rfl rfl (by decide +kernel)
def codes1 : List Jvm.Cond := [Jvm.Cond.code x code maxLocals ret, Jvm.Cond.code ({ cls := "com/example/multigrain/multigrain/table/LockTable$Outcome", name := "isGranted", desc := "()Z" } : Jvm.MethodName) prog_37_method_4_code (1 : Nat) (Option.some Jvm.ClassFile.FieldType.boolean)]
set_option maxRecDepth 65536 in
theorem codes_eq : words1.filter isCode = codes1 := rfl
theorem w_codes : ∀ c ∈ words1.filter isCode, c.before args0 about1 = true := by
  rw [codes_eq]
  intro c hc
  simp only [codes1, List.mem_cons, List.not_mem_nil, or_false] at hc
  rcases hc with rfl | rfl
  · exact w_c0
  · exact w_c1
set_option maxRecDepth 65536 in
theorem w_t1 : words1.all (fun c => isCode c || c.before args0 about1) = true := by decide +kernel
theorem w_tables : (allAtoms (Jvm.Cond.code x code maxLocals ret :: tables_1)).before args0 about1 = true := by
  rw [allAtoms_all]
  show words1.all (fun c => c.before args0 about1) = true
  refine all_split ?_ w_codes
  rw [w_t1]
set_option maxRecDepth 65536 in
theorem w_case : (Jvm.Cond.and given_1 narrow_1).before args0 about1 = true := by decide +kernel
theorem w_applies : (headSpec (Jvm.Cond.code x code maxLocals ret :: tables_1) room_1).applies x e0.platform about1 = true :=
  (Spec.applies_iff w_frames).mpr ⟨w_running, w_runnable, w_alone, w_named, w_hears, w_ripe, w_room, w_tables⟩
theorem atStart : AtStart classFile x code maxLocals ret World_1 tables_1 room_1 Calls_1 rest_1 Pre_1 launch0 p0 e0 about1 theMethod args0 below0 :=
  ⟨lists_1, trivial, launch0.admits_env _ _ _, launch0.least_env, fairChoices_fair.cas, fairChoices_fair.clock, w_frames, w_args, w_heap, w_applies, trivial, trivial, w_case⟩
end start1
theorem witness_1 : WitnessClaimed_1 := ⟨start1.p0, start1.e0, start1.about1, start1.theMethod, start1.args0, start1.below0, start1.atStart⟩
end Jvm.Pilot.@@N@@
