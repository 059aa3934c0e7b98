import JvmDerived
import JvmDerived.Pilot.@@N@@Statement
import JvmDerived.Pilot.@@N@@Code
set_option linter.unusedVariables false
set_option linter.unusedSimpArgs false
namespace Jvm.OwnGo
open Jvm Jvm.ClassFile Sem Op Lib Jvm.Free Jvm.Stand Jvm.LawKit Jvm.RoadKit
section Go
variable {p : Program} {l : Launch} {e : Env} {R : Room} {s : State} {m : MethodId} {args : Array Value} {below : List Frame} {meth : Method} {c : Code} {T T' : State} {locs : List Loc} {cells slots : Nat} {Q : Option Value → Heap → List Loc → Prop} {C S : Nat} {g g' : JFrame}
/-- from here the body comes to a return that Q takes -/
def Go (p : Program) (e : Env) (below : List Frame) (s : State) (Q : Option Value → Heap → List Loc → Prop) (C S : Nat) (T : State) (g : JFrame) : Prop :=
  ∃ s₂ o, Steps p.tables e below (T.setTop g) s₂ ∧ s₂.status = .running ∧ Ended s₂ below o ∧ ∃ v L, o = .returned v ∧ Q v s₂.heap L ∧ FrameEnd s o s₂ L C S
theorem Go.st (h : ∀ t, Steps p.tables e below (T'.setTop g') t → Steps p.tables e below (T.setTop g) t) (k : Go p e below s Q C S T' g') : Go p e below s Q C S T g := by
  obtain ⟨s₂, o, h1, r⟩ := k; exact ⟨s₂, o, h _ h1, r⟩
theorem Go.ts (h : Steps p.tables e below (T.setTop g) (T'.setTop g')) (k : Go p e below s Q C S T' g') : Go p e below s Q C S T g := by
  obtain ⟨s₂, o, h1, r⟩ := k; exact ⟨s₂, o, h.trans h1, r⟩
theorem Go.retw (X : Stand p l e R s m args below meth c T locs cells slots) (hx : p.tables.exec = Jvm.exec) {pc : Nat} {Ls : Array Slot} {w : Value} {t : FieldType} {i : Instr} {rest : List Value} (hret : meth.sig.returnType = some t) (hlk : meth.locks = false) (hn : narrow t w = w)
    (hi : (i = .ireturn ∧ (t = .int ∨ t = .boolean ∨ t = .byte ∨ t = .char ∨ t = .short) ∧ ∃ z, w = .int z) ∨ (i = .lreturn ∧ t = .long ∧ ∃ z, w = .long z) ∨ (i = .dreturn ∧ t = .double ∧ ∃ z, w = .double z) ∨ (i = .freturn ∧ t = .float ∧ ∃ z, w = .float z) ∨ (i = .areturn ∧ t.isReference = true ∧ w.isRef = true))
    (hd : decode c.code pc = .ok (i, 1)) (hc : cells ≤ C) (hs : slots ≤ S) (hq : Q (some w) T.heap locs) : Go p e below s Q C S T (mkF m pc Ls (w :: rest)) := by
  obtain ⟨fs, hr, hrun, hended, hW, hsame⟩ := X.leave (v := some w) (fun h => by rw [hret] at h; cases h)
  exact ⟨_, _, retOut X hx hret hn hi hd hr, hrun, hended, _, _, rfl, hq, ⟨_, rfl⟩, hW, hsame.mono hc hs⟩
theorem Go.retI (X : Stand p l e R s m args below meth c T locs cells slots) (hx : p.tables.exec = Jvm.exec) {pc : Nat} {Ls : Array Slot} {z : Int32} {rest : List Value} (hret : meth.sig.returnType = some .int) (hlk : meth.locks = false) (hd : decode c.code pc = .ok (.ireturn, 1)) (hc : cells ≤ C) (hs : slots ≤ S) (hq : Q (some (.int z)) T.heap locs) : Go p e below s Q C S T (mkF m pc Ls (.int z :: rest)) :=
  Go.retw X hx hret hlk rfl (Or.inl ⟨rfl, Or.inl rfl, _, rfl⟩) hd hc hs hq
theorem Go.retJ (X : Stand p l e R s m args below meth c T locs cells slots) (hx : p.tables.exec = Jvm.exec) {pc : Nat} {Ls : Array Slot} {z : Int64} {rest : List Value} (hret : meth.sig.returnType = some .long) (hlk : meth.locks = false) (hd : decode c.code pc = .ok (.lreturn, 1)) (hc : cells ≤ C) (hs : slots ≤ S) (hq : Q (some (.long z)) T.heap locs) : Go p e below s Q C S T (mkF m pc Ls (.long z :: rest)) :=
  Go.retw X hx hret hlk rfl (Or.inr (Or.inl ⟨rfl, rfl, _, rfl⟩)) hd hc hs hq
theorem Go.retA (X : Stand p l e R s m args below meth c T locs cells slots) (hx : p.tables.exec = Jvm.exec) {pc : Nat} {Ls : Array Slot} {w : Value} {t : FieldType} {rest : List Value} (hret : meth.sig.returnType = some t) (hlk : meth.locks = false) (hn : narrow t w = w) (ht : t.isReference = true) (hw : w.isRef = true) (hd : decode c.code pc = .ok (.areturn, 1)) (hc : cells ≤ C) (hs : slots ≤ S) (hq : Q (some w) T.heap locs) : Go p e below s Q C S T (mkF m pc Ls (w :: rest)) :=
  Go.retw X hx hret hlk hn (Or.inr (Or.inr (Or.inr (Or.inr ⟨rfl, ht, hw⟩)))) hd hc hs hq
theorem Go.retB (X : Stand p l e R s m args below meth c T locs cells slots) (hx : p.tables.exec = Jvm.exec) {pc : Nat} {Ls : Array Slot} {z : Int32} {t : FieldType} {rest : List Value} (hret : meth.sig.returnType = some t) (hlk : meth.locks = false) (ht : t = .boolean ∨ t = .byte ∨ t = .char ∨ t = .short) (hd : decode c.code pc = .ok (.ireturn, 1)) (hc : cells ≤ C) (hs : slots ≤ S) (hq : Q (some (.int (nar t z))) T.heap locs) : Go p e below s Q C S T (mkF m pc Ls (.int z :: rest)) := by
  obtain ⟨fs, hr, hrun, hended, hW, hsame⟩ := X.leave (v := some (.int (nar t z))) (fun h => by rw [hret] at h; cases h)
  exact ⟨_, _, retN X hx hret ht hd hr, hrun, hended, _, _, rfl, hq, ⟨_, rfl⟩, hW, hsame.mono hc hs⟩
theorem Go.ret0 (X : Stand p l e R s m args below meth c T locs cells slots) (hx : p.tables.exec = Jvm.exec) {pc : Nat} {Ls : Array Slot} (hret : meth.sig.returnType = none) (hlk : meth.locks = false) (hd : decode c.code pc = .ok (.return_, 1)) (hc : cells ≤ C) (hs : slots ≤ S) (hq : Q none T.heap locs) : Go p e below s Q C S T (mkF m pc Ls []) := by
  obtain ⟨fs, hr, hrun, hended, hW, hsame⟩ := X.leave (v := none) (fun _ => rfl)
  exact ⟨_, _, X.returnOut hx hret hd hr, hrun, hended, _, _, rfl, hq, ⟨_, rfl⟩, hW, hsame.mono hc hs⟩
end Go
theorem lcw_lt {x y : Int64} (h : x < y) : lcmpW x y < 0 := by rw [lcW]; exact (lc_lt _ _).mpr h
theorem lcw_nlt {x y : Int64} (h : ¬ x < y) : ¬ lcmpW x y < 0 := by rw [lcW]; exact fun q => h ((lc_lt _ _).mp q)
theorem lcw_gt {x y : Int64} (h : y < x) : 0 < lcmpW x y := by rw [lcW]; exact (lc_gt _ _).mpr h
theorem lcw_ngt {x y : Int64} (h : ¬ y < x) : ¬ 0 < lcmpW x y := by rw [lcW]; exact fun q => h ((lc_gt _ _).mp q)
theorem lcw_eq {x y : Int64} (h : x = y) : lcmpW x y = 0 := by rw [lcW]; exact (lc_eq _ _).mpr h
theorem lcw_ne {x y : Int64} (h : ¬ x = y) : ¬ lcmpW x y = 0 := by rw [lcW]; exact fun q => h ((lc_eq _ _).mp q)
section Words
variable {args : Array Value} {first s : State} {o : Option Outcome} {idx : List Nat} {a b : Term}
theorem eqI_v {n : Int32} (h : (Cond.eq a (.int n)).value args first o s idx = some true) : a.eval args first o idx s = some (.int n) := by
  simp only [Cond.value, Term.eval] at h; cases ha : a.eval args first o idx s with | none => simp [ha] at h | some x => cases x <;> simp [ha] at h ⊢; exact h
theorem eqJ_v {n : Int64} (h : (Cond.eq a (.long n)).value args first o s idx = some true) : a.eval args first o idx s = some (.long n) := by
  simp only [Cond.value, Term.eval] at h; cases ha : a.eval args first o idx s with | none => simp [ha] at h | some x => cases x <;> simp [ha] at h ⊢; exact h
theorem eqR_v {x : Addr} (hb : b.eval args first o idx s = some (.ref x)) (h : (Cond.eq a b).value args first o s idx = some true) : a.eval args first o idx s = some (.ref x) := by
  simp only [Cond.value, hb] at h; cases ha : a.eval args first o idx s with | none => simp [ha] at h | some x => cases x <;> simp [ha] at h ⊢; exact h
end Words
end Jvm.OwnGo
namespace Jvm.Pilot.@@N@@
open Jvm Jvm.ClassFile Sem Op Lib Jvm.Free Jvm.Stand Jvm.LawKit Jvm.RoadKit Jvm.OwnGo Bundle Jvm.Pilot.@@N@@.Jvm.D
theorem pn_0 : plainName "com/example/sturdy_sign_on/sturdysignon/ValidationFailurePinLaw" = true := by first | (simp [plainName, overriddenIn]; done) | decide +kernel
theorem d1_0 : decode method_2_code 0 = .ok (.iload_n 0, 1) := by decide +kernel
theorem d1_1 : decode method_2_code 1 = .ok (.ldc 7, 2) := by decide +kernel
theorem d1_3 : decode method_2_code 3 = .ok (.iand, 1) := by decide +kernel
theorem d1_4 : decode method_2_code 4 = .ok (.bipush 6, 2) := by decide +kernel
theorem d1_6 : decode method_2_code 6 = .ok (.irem, 1) := by decide +kernel
theorem d1_7 : decode method_2_code 7 = .ok (.istore_n 1, 1) := by decide +kernel
theorem d1_8 : decode method_2_code 8 = .ok (.iload_n 1, 1) := by decide +kernel
theorem d1_9 : decode method_2_code 9 = .ok (.ifCond .ne 7, 3) := by decide +kernel
theorem d1_12 : decode method_2_code 12 = .ok (.getstatic 8, 3) := by decide +kernel
theorem d1_15 : decode method_2_code 15 = .ok (.areturn, 1) := by decide +kernel
theorem d1_16 : decode method_2_code 16 = .ok (.iload_n 1, 1) := by decide +kernel
theorem d1_17 : decode method_2_code 17 = .ok (.iconst 1, 1) := by decide +kernel
theorem d1_18 : decode method_2_code 18 = .ok (.if_icmp .ne 7, 3) := by decide +kernel
theorem d1_21 : decode method_2_code 21 = .ok (.getstatic 14, 3) := by decide +kernel
theorem d1_24 : decode method_2_code 24 = .ok (.areturn, 1) := by decide +kernel
theorem d1_25 : decode method_2_code 25 = .ok (.iload_n 1, 1) := by decide +kernel
theorem d1_26 : decode method_2_code 26 = .ok (.iconst 2, 1) := by decide +kernel
theorem d1_27 : decode method_2_code 27 = .ok (.if_icmp .ne 7, 3) := by decide +kernel
theorem d1_30 : decode method_2_code 30 = .ok (.getstatic 17, 3) := by decide +kernel
theorem d1_33 : decode method_2_code 33 = .ok (.areturn, 1) := by decide +kernel
theorem d1_34 : decode method_2_code 34 = .ok (.iload_n 1, 1) := by decide +kernel
theorem d1_35 : decode method_2_code 35 = .ok (.iconst 3, 1) := by decide +kernel
theorem d1_36 : decode method_2_code 36 = .ok (.if_icmp .ne 7, 3) := by decide +kernel
theorem d1_39 : decode method_2_code 39 = .ok (.getstatic 20, 3) := by decide +kernel
theorem d1_42 : decode method_2_code 42 = .ok (.areturn, 1) := by decide +kernel
theorem d1_43 : decode method_2_code 43 = .ok (.iload_n 1, 1) := by decide +kernel
theorem d1_44 : decode method_2_code 44 = .ok (.iconst 4, 1) := by decide +kernel
theorem d1_45 : decode method_2_code 45 = .ok (.if_icmp .ne 7, 3) := by decide +kernel
theorem d1_48 : decode method_2_code 48 = .ok (.getstatic 23, 3) := by decide +kernel
theorem d1_51 : decode method_2_code 51 = .ok (.areturn, 1) := by decide +kernel
theorem d1_52 : decode method_2_code 52 = .ok (.getstatic 26, 3) := by decide +kernel
theorem d1_55 : decode method_2_code 55 = .ok (.areturn, 1) := by decide +kernel
theorem ef_1 (m : MethodId) (i1 : Int32) : entryFrame m #[(.int i1)] 2 = mkF m 0 #[.val (.int i1), .unset] [] := by first | (simp [entryFrame, mkF, argsToLocals, Value.category]; done) | rfl
def Q1 (Z : State) (i1 : Int32) (w0 : Addr) (w1 : Addr) (w2 : Addr) (w3 : Addr) (w4 : Addr) (w5 : Addr) (r : Addr) (h0 : Heap) (n0 : Nat) (v : Option Value) (h : Heap) (L : List Loc) : Prop := v = some (.ref r) ∧ Fr n0 L ∧ h = h0
set_option maxRecDepth 65536 in
set_option maxHeartbeats 40000000 in
theorem rm1 (l : Launch) (Z : State) (a0 : Array Value) (hw : ∀ d ∈ tables_1, d.before a0 Z = true) (ws : List Jvm.Cond) (i1 : Int32) (w0 : Addr) (w1 : Addr) (w2 : Addr) (w3 : Addr) (w4 : Addr) (w5 : Addr) (r : Addr) (h0 : Heap) (n0 : Nat) (Z0 : n0 ≤ h0.size) (S_0 : Sta Z h0 "com/example/sturdy_sign_on/sturdysignon/Validation$Code" "INVALID_REQUEST" "Lcom/example/sturdy_sign_on/sturdysignon/Validation$Code;" (.ref w0)) (S_1 : Sta Z h0 "com/example/sturdy_sign_on/sturdysignon/Validation$Code" "INVALID_TICKET" "Lcom/example/sturdy_sign_on/sturdysignon/Validation$Code;" (.ref w1)) (S_2 : Sta Z h0 "com/example/sturdy_sign_on/sturdysignon/Validation$Code" "PROXY_TICKET" "Lcom/example/sturdy_sign_on/sturdysignon/Validation$Code;" (.ref w2)) (S_3 : Sta Z h0 "com/example/sturdy_sign_on/sturdysignon/Validation$Code" "INVALID_SERVICE" "Lcom/example/sturdy_sign_on/sturdysignon/Validation$Code;" (.ref w3)) (S_4 : Sta Z h0 "com/example/sturdy_sign_on/sturdysignon/Validation$Code" "UNAUTHORIZED_SERVICE_PROXY" "Lcom/example/sturdy_sign_on/sturdysignon/Validation$Code;" (.ref w4)) (S_5 : Sta Z h0 "com/example/sturdy_sign_on/sturdysignon/Validation$Code" "INVALID_PROXY_CALLBACK" "Lcom/example/sturdy_sign_on/sturdysignon/Validation$Code;" (.ref w5)) (hr : r = if ((i1 &&& (2147483647 : Int32)) % (6 : Int32)) = (0 : Int32) then w0 else if ((i1 &&& (2147483647 : Int32)) % (6 : Int32)) = (1 : Int32) then w1 else if ((i1 &&& (2147483647 : Int32)) % (6 : Int32)) = (2 : Int32) then w2 else if ((i1 &&& (2147483647 : Int32)) % (6 : Int32)) = (3 : Int32) then w3 else if ((i1 &&& (2147483647 : Int32)) % (6 : Int32)) = (4 : Int32) then w4 else w5) :
    MetFree l (⟨"com/example/sturdy_sign_on/sturdysignon/ValidationFailurePinLaw", "pick", "(I)Lcom/example/sturdy_sign_on/sturdysignon/Validation$Code;"⟩ : MethodName) (head1 (Jvm.Cond.code (⟨"com/example/sturdy_sign_on/sturdysignon/ValidationFailurePinLaw", "pick", "(I)Lcom/example/sturdy_sign_on/sturdysignon/Validation$Code;"⟩ : MethodName) method_2_code 2 (some (.object "com/example/sturdy_sign_on/sturdysignon/Validation$Code")) :: ws) ({ frames := 0, cells := 0, slots := 0, locals := 0 } : Room)) (fun a U => a = #[(.int i1)] ∧ Z.Warmed39 U.vm ∧ U.heap = h0) (fun _ _ _ _ _ => True) (fun _ U o U' => ∃ v L, o = .returned v ∧ Q1 Z i1 w0 w1 w2 w3 w4 w5 r h0 n0 v U'.heap L ∧ FrameEnd U o U' L ({ frames := 0, cells := 0, slots := 0, locals := 0 } : Room).cells ({ frames := 0, cells := 0, slots := 0, locals := 0 } : Room).slots) := by
  refine MetFree.of_bodySF (plainFor_of_name pn_0) hisR ?_
  intro p e s m args below meth c s₁ Bd hml0 hP hK
  obtain ⟨rfl, hZ, hh⟩ := hP
  have hx := Bd.exec
  have hby := Bd.bytes
  have hml : c.maxLocals = 2 := hml0
  have hown : s.vm.findClass "com/example/sturdy_sign_on/sturdysignon/ValidationFailurePinLaw" = some m.cls := findClass_of_methodNamed Bd.named
  have hnm := (name_of_methodNamed Bd.named Bd.method).1
  have hlk : meth.locks = false := BodyLoose.notSynchronized Bd
  have X0 : Stand p l e ({ frames := 0, cells := 0, slots := 0, locals := 0 } : Room) s m #[(.int i1)] below meth c s₁ [] 0 0 := Stand.of_body Bd
  have e0 : s₁.heap = h0 := by rw [← hh, Bd.state]; rfl
  have N0 := Fr.nil n0
  suffices hgo : Go p e below s (Q1 Z i1 w0 w1 w2 w3 w4 w5 r h0 n0) ({ frames := 0, cells := 0, slots := 0, locals := 0 } : Room).cells ({ frames := 0, cells := 0, slots := 0, locals := 0 } : Room).slots s₁ (mkF m 0 #[.val (.int i1), .unset] []) by
    obtain ⟨s₂, o, k1, k2⟩ := hgo
    exact ⟨s₂, o, castTop (ef_1 m i1) k1, k2⟩
  refine Go.st (T' := s₁) (g' := (mkF m 1 #[.val (.int i1), .unset] [(.int i1)])) (fun t_ k_ => XS.iloadN X0.here hx rfl (hb hby d1_0) rfl  k_) ?_
  refine Go.st (T' := s₁) (g' := (mkF m 3 #[.val (.int i1), .unset] [(.int (2147483647 : Int32)), (.int i1)])) (fun t_ k_ => X0.ldcI hx hown (mvT hZ (hw _ (List.mem_of_getElem? (i := 4) rfl))) rfl (hb hby d1_1) k_) ?_
  refine Go.st (T' := s₁) (g' := (mkF m 4 #[.val (.int i1), .unset] [(.int (i1 &&& (2147483647 : Int32)))])) (fun t_ k_ => XS.iand X0.here hx rfl (hb hby d1_3) rfl k_) ?_
  refine Go.st (T' := s₁) (g' := (mkF m 6 #[.val (.int i1), .unset] [(.int (6 : Int32)), (.int (i1 &&& (2147483647 : Int32)))])) (fun t_ k_ => XS.bipush X0.here hx rfl (hb hby d1_4) k_) ?_
  refine Go.st (T' := s₁) (g' := (mkF m 7 #[.val (.int i1), .unset] [(.int ((i1 &&& (2147483647 : Int32)) % (6 : Int32)))])) (fun t_ k_ => iremM X0 hx rfl (hb hby d1_6) rfl (by decide) k_) ?_
  refine Go.st (T' := s₁) (g' := (mkF m 8 #[.val (.int i1), .val (.int ((i1 &&& (2147483647 : Int32)) % (6 : Int32)))] [])) (fun t_ k_ => XS.istoreN X0.here hx rfl (hb hby d1_7) rfl (l' := #[.val (.int i1), .val (.int ((i1 &&& (2147483647 : Int32)) % (6 : Int32)))]) rfl k_) ?_
  refine Go.st (T' := s₁) (g' := (mkF m 9 #[.val (.int i1), .val (.int ((i1 &&& (2147483647 : Int32)) % (6 : Int32)))] [(.int ((i1 &&& (2147483647 : Int32)) % (6 : Int32)))])) (fun t_ k_ => XS.iloadN X0.here hx rfl (hb hby d1_8) rfl  k_) ?_
  by_cases hc9 : ((i1 &&& (2147483647 : Int32)) % (6 : Int32)) = (0 : Int32)
  · refine Go.st (T' := s₁) (g' := (mkF m 12 #[.val (.int i1), .val (.int ((i1 &&& (2147483647 : Int32)) % (6 : Int32)))] [])) (fun t_ k_ => XS.ifNo X0.here hx rfl (hb hby d1_9) rfl ((if0 _ _).trans (teq hc9).2) k_) ?_
    obtain ⟨T1, X1, e1, st1⟩ := getS2 X0 hx hZ hown (host := "") (Or.inl (hw _ (List.mem_of_getElem? (i := 5) rfl))) Via.refl e0 S_0 (g := (mkF m 12 #[.val (.int i1), .val (.int ((i1 &&& (2147483647 : Int32)) % (6 : Int32)))] [])) rfl (hb hby d1_12)
    refine Go.st (T' := T1) (g' := (mkF m 15 #[.val (.int i1), .val (.int ((i1 &&& (2147483647 : Int32)) % (6 : Int32)))] [(.ref w0)])) st1 ?_
    refine Go.retA X1 hx Bd.returns hlk rfl rfl rfl (hb hby d1_15) (by decide) (by decide) ?_
    rw [e1]
    exact ⟨by rw [hr, if_pos hc9], N0, rfl⟩
  · refine Go.st (T' := s₁) (g' := (mkF m 16 #[.val (.int i1), .val (.int ((i1 &&& (2147483647 : Int32)) % (6 : Int32)))] [])) (fun t_ k_ => XS.ifYes X0.here hx rfl (pc0 := 9) (pc' := 16) rfl (hb hby d1_9) rfl ((if0 _ _).trans (feq hc9).2) (by decide) (by decide) k_) ?_
    refine Go.st (T' := s₁) (g' := (mkF m 17 #[.val (.int i1), .val (.int ((i1 &&& (2147483647 : Int32)) % (6 : Int32)))] [(.int ((i1 &&& (2147483647 : Int32)) % (6 : Int32)))])) (fun t_ k_ => XS.iloadN X0.here hx rfl (hb hby d1_16) rfl  k_) ?_
    refine Go.st (T' := s₁) (g' := (mkF m 18 #[.val (.int i1), .val (.int ((i1 &&& (2147483647 : Int32)) % (6 : Int32)))] [(.int (1 : Int32)), (.int ((i1 &&& (2147483647 : Int32)) % (6 : Int32)))])) (fun t_ k_ => XS.iconst X0.here hx rfl (hb hby d1_17) k_) ?_
    by_cases hc18 : ((i1 &&& (2147483647 : Int32)) % (6 : Int32)) = (1 : Int32)
    · refine Go.st (T' := s₁) (g' := (mkF m 21 #[.val (.int i1), .val (.int ((i1 &&& (2147483647 : Int32)) % (6 : Int32)))] [])) (fun t_ k_ => XS.icmpNo X0.here hx rfl (hb hby d1_18) rfl (teq hc18).2 k_) ?_
      obtain ⟨T2, X2, e2, st2⟩ := getS2 X0 hx hZ hown (host := "") (Or.inl (hw _ (List.mem_of_getElem? (i := 76) rfl))) Via.refl e0 S_1 (g := (mkF m 21 #[.val (.int i1), .val (.int ((i1 &&& (2147483647 : Int32)) % (6 : Int32)))] [])) rfl (hb hby d1_21)
      refine Go.st (T' := T2) (g' := (mkF m 24 #[.val (.int i1), .val (.int ((i1 &&& (2147483647 : Int32)) % (6 : Int32)))] [(.ref w1)])) st2 ?_
      refine Go.retA X2 hx Bd.returns hlk rfl rfl rfl (hb hby d1_24) (by decide) (by decide) ?_
      rw [e2]
      exact ⟨by rw [hr, if_neg hc9, if_pos hc18], N0, rfl⟩
    · refine Go.st (T' := s₁) (g' := (mkF m 25 #[.val (.int i1), .val (.int ((i1 &&& (2147483647 : Int32)) % (6 : Int32)))] [])) (fun t_ k_ => XS.icmpYes X0.here hx rfl (pc0 := 18) (pc' := 25) rfl (hb hby d1_18) rfl (feq hc18).2 (by decide) (by decide) k_) ?_
      refine Go.st (T' := s₁) (g' := (mkF m 26 #[.val (.int i1), .val (.int ((i1 &&& (2147483647 : Int32)) % (6 : Int32)))] [(.int ((i1 &&& (2147483647 : Int32)) % (6 : Int32)))])) (fun t_ k_ => XS.iloadN X0.here hx rfl (hb hby d1_25) rfl  k_) ?_
      refine Go.st (T' := s₁) (g' := (mkF m 27 #[.val (.int i1), .val (.int ((i1 &&& (2147483647 : Int32)) % (6 : Int32)))] [(.int (2 : Int32)), (.int ((i1 &&& (2147483647 : Int32)) % (6 : Int32)))])) (fun t_ k_ => XS.iconst X0.here hx rfl (hb hby d1_26) k_) ?_
      by_cases hc27 : ((i1 &&& (2147483647 : Int32)) % (6 : Int32)) = (2 : Int32)
      · refine Go.st (T' := s₁) (g' := (mkF m 30 #[.val (.int i1), .val (.int ((i1 &&& (2147483647 : Int32)) % (6 : Int32)))] [])) (fun t_ k_ => XS.icmpNo X0.here hx rfl (hb hby d1_27) rfl (teq hc27).2 k_) ?_
        obtain ⟨T3, X3, e3, st3⟩ := getS2 X0 hx hZ hown (host := "") (Or.inl (hw _ (List.mem_of_getElem? (i := 74) rfl))) Via.refl e0 S_2 (g := (mkF m 30 #[.val (.int i1), .val (.int ((i1 &&& (2147483647 : Int32)) % (6 : Int32)))] [])) rfl (hb hby d1_30)
        refine Go.st (T' := T3) (g' := (mkF m 33 #[.val (.int i1), .val (.int ((i1 &&& (2147483647 : Int32)) % (6 : Int32)))] [(.ref w2)])) st3 ?_
        refine Go.retA X3 hx Bd.returns hlk rfl rfl rfl (hb hby d1_33) (by decide) (by decide) ?_
        rw [e3]
        exact ⟨by rw [hr, if_neg hc9, if_neg hc18, if_pos hc27], N0, rfl⟩
      · refine Go.st (T' := s₁) (g' := (mkF m 34 #[.val (.int i1), .val (.int ((i1 &&& (2147483647 : Int32)) % (6 : Int32)))] [])) (fun t_ k_ => XS.icmpYes X0.here hx rfl (pc0 := 27) (pc' := 34) rfl (hb hby d1_27) rfl (feq hc27).2 (by decide) (by decide) k_) ?_
        refine Go.st (T' := s₁) (g' := (mkF m 35 #[.val (.int i1), .val (.int ((i1 &&& (2147483647 : Int32)) % (6 : Int32)))] [(.int ((i1 &&& (2147483647 : Int32)) % (6 : Int32)))])) (fun t_ k_ => XS.iloadN X0.here hx rfl (hb hby d1_34) rfl  k_) ?_
        refine Go.st (T' := s₁) (g' := (mkF m 36 #[.val (.int i1), .val (.int ((i1 &&& (2147483647 : Int32)) % (6 : Int32)))] [(.int (3 : Int32)), (.int ((i1 &&& (2147483647 : Int32)) % (6 : Int32)))])) (fun t_ k_ => XS.iconst X0.here hx rfl (hb hby d1_35) k_) ?_
        by_cases hc36 : ((i1 &&& (2147483647 : Int32)) % (6 : Int32)) = (3 : Int32)
        · refine Go.st (T' := s₁) (g' := (mkF m 39 #[.val (.int i1), .val (.int ((i1 &&& (2147483647 : Int32)) % (6 : Int32)))] [])) (fun t_ k_ => XS.icmpNo X0.here hx rfl (hb hby d1_36) rfl (teq hc36).2 k_) ?_
          obtain ⟨T4, X4, e4, st4⟩ := getS2 X0 hx hZ hown (host := "") (Or.inl (hw _ (List.mem_of_getElem? (i := 72) rfl))) Via.refl e0 S_3 (g := (mkF m 39 #[.val (.int i1), .val (.int ((i1 &&& (2147483647 : Int32)) % (6 : Int32)))] [])) rfl (hb hby d1_39)
          refine Go.st (T' := T4) (g' := (mkF m 42 #[.val (.int i1), .val (.int ((i1 &&& (2147483647 : Int32)) % (6 : Int32)))] [(.ref w3)])) st4 ?_
          refine Go.retA X4 hx Bd.returns hlk rfl rfl rfl (hb hby d1_42) (by decide) (by decide) ?_
          rw [e4]
          exact ⟨by rw [hr, if_neg hc9, if_neg hc18, if_neg hc27, if_pos hc36], N0, rfl⟩
        · refine Go.st (T' := s₁) (g' := (mkF m 43 #[.val (.int i1), .val (.int ((i1 &&& (2147483647 : Int32)) % (6 : Int32)))] [])) (fun t_ k_ => XS.icmpYes X0.here hx rfl (pc0 := 36) (pc' := 43) rfl (hb hby d1_36) rfl (feq hc36).2 (by decide) (by decide) k_) ?_
          refine Go.st (T' := s₁) (g' := (mkF m 44 #[.val (.int i1), .val (.int ((i1 &&& (2147483647 : Int32)) % (6 : Int32)))] [(.int ((i1 &&& (2147483647 : Int32)) % (6 : Int32)))])) (fun t_ k_ => XS.iloadN X0.here hx rfl (hb hby d1_43) rfl  k_) ?_
          refine Go.st (T' := s₁) (g' := (mkF m 45 #[.val (.int i1), .val (.int ((i1 &&& (2147483647 : Int32)) % (6 : Int32)))] [(.int (4 : Int32)), (.int ((i1 &&& (2147483647 : Int32)) % (6 : Int32)))])) (fun t_ k_ => XS.iconst X0.here hx rfl (hb hby d1_44) k_) ?_
          by_cases hc45 : ((i1 &&& (2147483647 : Int32)) % (6 : Int32)) = (4 : Int32)
          · refine Go.st (T' := s₁) (g' := (mkF m 48 #[.val (.int i1), .val (.int ((i1 &&& (2147483647 : Int32)) % (6 : Int32)))] [])) (fun t_ k_ => XS.icmpNo X0.here hx rfl (hb hby d1_45) rfl (teq hc45).2 k_) ?_
            obtain ⟨T5, X5, e5, st5⟩ := getS2 X0 hx hZ hown (host := "") (Or.inl (hw _ (List.mem_of_getElem? (i := 80) rfl))) Via.refl e0 S_4 (g := (mkF m 48 #[.val (.int i1), .val (.int ((i1 &&& (2147483647 : Int32)) % (6 : Int32)))] [])) rfl (hb hby d1_48)
            refine Go.st (T' := T5) (g' := (mkF m 51 #[.val (.int i1), .val (.int ((i1 &&& (2147483647 : Int32)) % (6 : Int32)))] [(.ref w4)])) st5 ?_
            refine Go.retA X5 hx Bd.returns hlk rfl rfl rfl (hb hby d1_51) (by decide) (by decide) ?_
            rw [e5]
            exact ⟨by rw [hr, if_neg hc9, if_neg hc18, if_neg hc27, if_neg hc36, if_pos hc45], N0, rfl⟩
          · refine Go.st (T' := s₁) (g' := (mkF m 52 #[.val (.int i1), .val (.int ((i1 &&& (2147483647 : Int32)) % (6 : Int32)))] [])) (fun t_ k_ => XS.icmpYes X0.here hx rfl (pc0 := 45) (pc' := 52) rfl (hb hby d1_45) rfl (feq hc45).2 (by decide) (by decide) k_) ?_
            obtain ⟨T6, X6, e6, st6⟩ := getS2 X0 hx hZ hown (host := "") (Or.inl (hw _ (List.mem_of_getElem? (i := 78) rfl))) Via.refl e0 S_5 (g := (mkF m 52 #[.val (.int i1), .val (.int ((i1 &&& (2147483647 : Int32)) % (6 : Int32)))] [])) rfl (hb hby d1_52)
            refine Go.st (T' := T6) (g' := (mkF m 55 #[.val (.int i1), .val (.int ((i1 &&& (2147483647 : Int32)) % (6 : Int32)))] [(.ref w5)])) st6 ?_
            refine Go.retA X6 hx Bd.returns hlk rfl rfl rfl (hb hby d1_55) (by decide) (by decide) ?_
            rw [e6]
            exact ⟨by rw [hr, if_neg hc9, if_neg hc18, if_neg hc27, if_neg hc36, if_neg hc45], N0, rfl⟩
theorem pn_1 : plainName "java/lang/Record" = true := by first | (simp [plainName, overriddenIn]; done) | decide +kernel
theorem d4_0 : decode jdk_30_method_1_code 0 = .ok (.aload_n 0, 1) := by decide +kernel
theorem d4_1 : decode jdk_30_method_1_code 1 = .ok (.invokespecial 1, 3) := by decide +kernel
theorem d4_4 : decode jdk_30_method_1_code 4 = .ok (.return_, 1) := by decide +kernel
theorem ef_4 (m : MethodId) (a1 : Addr) : entryFrame m #[(.ref a1)] 1 = mkF m 0 #[.val (.ref a1)] [] := by first | (simp [entryFrame, mkF, argsToLocals, Value.category]; done) | rfl
def Q4 (Z : State) (a1 : Addr) (h0 : Heap) (n0 : Nat) (v : Option Value) (h : Heap) (L : List Loc) : Prop := v = none ∧ Fr n0 L ∧ h = h0
set_option maxRecDepth 65536 in
set_option maxHeartbeats 40000000 in
theorem rm4 (l : Launch) (Z : State) (a0 : Array Value) (hw : ∀ d ∈ tables_1, d.before a0 Z = true) (ws : List Jvm.Cond) (a1 : Addr) (h0 : Heap) (n0 : Nat) (Z0 : n0 ≤ h0.size)  :
    MetFree l (⟨"java/lang/Record", "<init>", "()V"⟩ : MethodName) (head1 (Jvm.Cond.code (⟨"java/lang/Record", "<init>", "()V"⟩ : MethodName) jdk_30_method_1_code 1 none :: ws) ({ frames := 1, cells := 0, slots := 0, locals := 12 } : Room)) (fun a U => a = #[(.ref a1)] ∧ Z.Warmed39 U.vm ∧ U.heap = h0) (fun _ _ _ _ _ => True) (fun _ U o U' => ∃ v L, o = .returned v ∧ Q4 Z a1 h0 n0 v U'.heap L ∧ FrameEnd U o U' L ({ frames := 1, cells := 0, slots := 0, locals := 12 } : Room).cells ({ frames := 1, cells := 0, slots := 0, locals := 12 } : Room).slots) := by
  refine MetFree.of_bodySF (plainFor_of_name pn_1) hisR ?_
  intro p e s m args below meth c s₁ Bd hml0 hP hK
  obtain ⟨rfl, hZ, hh⟩ := hP
  have hx := Bd.exec
  have hby := Bd.bytes
  have hml : c.maxLocals = 1 := hml0
  have hown : s.vm.findClass "java/lang/Record" = some m.cls := findClass_of_methodNamed Bd.named
  have hnm := (name_of_methodNamed Bd.named Bd.method).1
  have hlk : meth.locks = false := BodyLoose.notSynchronized Bd
  have X0 : Stand p l e ({ frames := 1, cells := 0, slots := 0, locals := 12 } : Room) s m #[(.ref a1)] below meth c s₁ [] 0 0 := Stand.of_body Bd
  have e0 : s₁.heap = h0 := by rw [← hh, Bd.state]; rfl
  have N0 := Fr.nil n0
  suffices hgo : Go p e below s (Q4 Z a1 h0 n0) ({ frames := 1, cells := 0, slots := 0, locals := 12 } : Room).cells ({ frames := 1, cells := 0, slots := 0, locals := 12 } : Room).slots s₁ (mkF m 0 #[.val (.ref a1)] []) by
    obtain ⟨s₂, o, k1, k2⟩ := hgo
    exact ⟨s₂, o, castTop (ef_4 m a1) k1, k2⟩
  refine Go.st (T' := s₁) (g' := (mkF m 1 #[.val (.ref a1)] [(.ref a1)])) (fun t_ k_ => XS.aloadN X0.here hx rfl (hb hby d4_0) rfl rfl k_) ?_
  obtain ⟨T1, X1, e1, st1⟩ := initO X0 hx hZ hown (hw _ (List.mem_of_getElem? (i := 22) rfl)) (hw _ (List.mem_of_getElem? (i := 23) rfl)) (hw _ (List.mem_of_getElem? (i := 24) rfl)) e0 (g := (mkF m 1 #[.val (.ref a1)] [(.ref a1)])) rfl (by rw [hml]; rfl) rfl (hb hby d4_1) (by decide) (W := 0) (by show 2 * 0 + _ ≤ _; exact Nat.le_of_eq rfl) (by decide)
  refine Go.st (T' := T1) (g' := (mkF m 4 #[.val (.ref a1)] [])) st1 ?_
  refine Go.ret0 X1 hx Bd.returns hlk (hb hby d4_4) (by decide) (by decide) ?_
  rw [e1]
  exact ⟨rfl, N0, rfl⟩
theorem pn_2 : plainName "com/example/sturdy_sign_on/sturdysignon/Validation" = true := by first | (simp [plainName, overriddenIn]; done) | decide +kernel
theorem pd_0 : parseMethodDescriptor "()V" = some ⟨[], none⟩ := by decide +kernel
theorem d3_0 : decode prog_13_method_1_code 0 = .ok (.aload_n 0, 1) := by decide +kernel
theorem d3_1 : decode prog_13_method_1_code 1 = .ok (.invokespecial 1, 3) := by decide +kernel
theorem d3_4 : decode prog_13_method_1_code 4 = .ok (.aload_n 0, 1) := by decide +kernel
theorem d3_5 : decode prog_13_method_1_code 5 = .ok (.aload_n 1, 1) := by decide +kernel
theorem d3_6 : decode prog_13_method_1_code 6 = .ok (.putfield 7, 3) := by decide +kernel
theorem d3_9 : decode prog_13_method_1_code 9 = .ok (.aload_n 0, 1) := by decide +kernel
theorem d3_10 : decode prog_13_method_1_code 10 = .ok (.aload_n 2, 1) := by decide +kernel
theorem d3_11 : decode prog_13_method_1_code 11 = .ok (.putfield 13, 3) := by decide +kernel
theorem d3_14 : decode prog_13_method_1_code 14 = .ok (.aload_n 0, 1) := by decide +kernel
theorem d3_15 : decode prog_13_method_1_code 15 = .ok (.aload_n 3, 1) := by decide +kernel
theorem d3_16 : decode prog_13_method_1_code 16 = .ok (.putfield 17, 3) := by decide +kernel
theorem d3_19 : decode prog_13_method_1_code 19 = .ok (.aload_n 0, 1) := by decide +kernel
theorem d3_20 : decode prog_13_method_1_code 20 = .ok (.aload 4, 2) := by decide +kernel
theorem d3_22 : decode prog_13_method_1_code 22 = .ok (.putfield 20, 3) := by decide +kernel
theorem d3_25 : decode prog_13_method_1_code 25 = .ok (.aload_n 0, 1) := by decide +kernel
theorem d3_26 : decode prog_13_method_1_code 26 = .ok (.aload 5, 2) := by decide +kernel
theorem d3_28 : decode prog_13_method_1_code 28 = .ok (.putfield 23, 3) := by decide +kernel
theorem d3_31 : decode prog_13_method_1_code 31 = .ok (.aload_n 0, 1) := by decide +kernel
theorem d3_32 : decode prog_13_method_1_code 32 = .ok (.aload 6, 2) := by decide +kernel
theorem d3_34 : decode prog_13_method_1_code 34 = .ok (.putfield 27, 3) := by decide +kernel
theorem d3_37 : decode prog_13_method_1_code 37 = .ok (.return_, 1) := by decide +kernel
theorem ef_3 (m : MethodId) (a1 : Addr) (c6 : Addr) : entryFrame m #[(.ref a1), .null, .null, .null, .null, .null, (.ref c6)] 7 = mkF m 0 #[.val (.ref a1), .val .null, .val .null, .val .null, .val .null, .val .null, .val (.ref c6)] [] := by first | (simp [entryFrame, mkF, argsToLocals, Value.category]; done) | rfl
def Q3 (Z : State) (a1 : Addr) (c6 : Addr) (h0 : Heap) (n0 : Nat) (v : Option Value) (h : Heap) (L : List Loc) : Prop := v = none ∧ Fr n0 L ∧ Keep h0 h [a1] ∧ Exa Z h a1 "com/example/sturdy_sign_on/sturdysignon/Validation" ∧ Fld Z h a1 "com/example/sturdy_sign_on/sturdysignon/Validation" "user" "Ljava/lang/String;" .null ∧ Fld Z h a1 "com/example/sturdy_sign_on/sturdysignon/Validation" "signIn" "Lcom/example/sturdy_sign_on/sturdysignon/Attributes;" .null ∧ Fld Z h a1 "com/example/sturdy_sign_on/sturdysignon/Validation" "attributes" "Lcom/example/sturdy_sign_on/sturdysignon/Attributes;" .null ∧ Fld Z h a1 "com/example/sturdy_sign_on/sturdysignon/Validation" "proxyGrantingTicket" "Ljava/lang/String;" .null ∧ Fld Z h a1 "com/example/sturdy_sign_on/sturdysignon/Validation" "proxies" "Ljava/util/List;" .null ∧ Fld Z h a1 "com/example/sturdy_sign_on/sturdysignon/Validation" "code" "Lcom/example/sturdy_sign_on/sturdysignon/Validation$Code;" (.ref c6)
set_option maxRecDepth 65536 in
set_option maxHeartbeats 40000000 in
theorem rm3 (l : Launch) (Z : State) (a0 : Array Value) (hw : ∀ d ∈ tables_1, d.before a0 Z = true) (ws : List Jvm.Cond) (a1 : Addr) (c6 : Addr) (h0 : Heap) (n0 : Nat) (Z0 : n0 ≤ h0.size) (E_a1 : Exa Z h0 a1 "com/example/sturdy_sign_on/sturdysignon/Validation") (g_a1 : n0 ≤ a1) (F_user : Fld Z h0 a1 "com/example/sturdy_sign_on/sturdysignon/Validation" "user" "Ljava/lang/String;" .null) (F_signIn : Fld Z h0 a1 "com/example/sturdy_sign_on/sturdysignon/Validation" "signIn" "Lcom/example/sturdy_sign_on/sturdysignon/Attributes;" .null) (F_attributes : Fld Z h0 a1 "com/example/sturdy_sign_on/sturdysignon/Validation" "attributes" "Lcom/example/sturdy_sign_on/sturdysignon/Attributes;" .null) (F_proxyGrantingTicket : Fld Z h0 a1 "com/example/sturdy_sign_on/sturdysignon/Validation" "proxyGrantingTicket" "Ljava/lang/String;" .null) (F_proxies : Fld Z h0 a1 "com/example/sturdy_sign_on/sturdysignon/Validation" "proxies" "Ljava/util/List;" .null) (F_code : Fld Z h0 a1 "com/example/sturdy_sign_on/sturdysignon/Validation" "code" "Lcom/example/sturdy_sign_on/sturdysignon/Validation$Code;" .null) :
    MetFree l (⟨"com/example/sturdy_sign_on/sturdysignon/Validation", "<init>", "(Ljava/lang/String;Lcom/example/sturdy_sign_on/sturdysignon/Attributes;Lcom/example/sturdy_sign_on/sturdysignon/Attributes;Ljava/lang/String;Ljava/util/List;Lcom/example/sturdy_sign_on/sturdysignon/Validation$Code;)V"⟩ : MethodName) (head1 (Jvm.Cond.code (⟨"com/example/sturdy_sign_on/sturdysignon/Validation", "<init>", "(Ljava/lang/String;Lcom/example/sturdy_sign_on/sturdysignon/Attributes;Lcom/example/sturdy_sign_on/sturdysignon/Attributes;Ljava/lang/String;Ljava/util/List;Lcom/example/sturdy_sign_on/sturdysignon/Validation$Code;)V"⟩ : MethodName) prog_13_method_1_code 7 none :: ws) ({ frames := 2, cells := 0, slots := 0, locals := 24 } : Room)) (fun a U => a = #[(.ref a1), .null, .null, .null, .null, .null, (.ref c6)] ∧ Z.Warmed39 U.vm ∧ U.heap = h0) (fun _ _ _ _ _ => True) (fun _ U o U' => ∃ v L, o = .returned v ∧ Q3 Z a1 c6 h0 n0 v U'.heap L ∧ FrameEnd U o U' L ({ frames := 2, cells := 0, slots := 0, locals := 24 } : Room).cells ({ frames := 2, cells := 0, slots := 0, locals := 24 } : Room).slots) := by
  refine MetFree.of_bodySF (plainFor_of_name pn_2) hisR ?_
  intro p e s m args below meth c s₁ Bd hml0 hP hK
  obtain ⟨rfl, hZ, hh⟩ := hP
  have hx := Bd.exec
  have hby := Bd.bytes
  have hml : c.maxLocals = 7 := hml0
  have hown : s.vm.findClass "com/example/sturdy_sign_on/sturdysignon/Validation" = some m.cls := findClass_of_methodNamed Bd.named
  have hnm := (name_of_methodNamed Bd.named Bd.method).1
  have hlk : meth.locks = false := BodyLoose.notSynchronized Bd
  have X0 : Stand p l e ({ frames := 2, cells := 0, slots := 0, locals := 24 } : Room) s m #[(.ref a1), .null, .null, .null, .null, .null, (.ref c6)] below meth c s₁ [] 0 0 := Stand.of_body Bd
  have e0 : s₁.heap = h0 := by rw [← hh, Bd.state]; rfl
  have N0 := Fr.nil n0
  suffices hgo : Go p e below s (Q3 Z a1 c6 h0 n0) ({ frames := 2, cells := 0, slots := 0, locals := 24 } : Room).cells ({ frames := 2, cells := 0, slots := 0, locals := 24 } : Room).slots s₁ (mkF m 0 #[.val (.ref a1), .val .null, .val .null, .val .null, .val .null, .val .null, .val (.ref c6)] []) by
    obtain ⟨s₂, o, k1, k2⟩ := hgo
    exact ⟨s₂, o, castTop (ef_3 m a1 c6) k1, k2⟩
  refine Go.st (T' := s₁) (g' := (mkF m 1 #[.val (.ref a1), .val .null, .val .null, .val .null, .val .null, .val .null, .val (.ref c6)] [(.ref a1)])) (fun t_ k_ => XS.aloadN X0.here hx rfl (hb hby d3_0) rfl rfl k_) ?_
  obtain ⟨_, _, ⟨T1, L1, k1, n1⟩, -, X1, ⟨Lc1, hQ1, l1, y1, z1⟩, st1⟩ := X0.specialBack hx (y := (⟨"java/lang/Record", "<init>", "()V"⟩ : MethodName)) rfl hown (mvT hZ (hw _ (List.mem_of_getElem? (i := 17) rfl))) (mvT hZ (hw _ (List.mem_of_getElem? (i := 18) rfl))) (mvT hZ (hw _ (List.mem_of_getElem? (i := 21) rfl))) (by decide) (backOf (W := 0) (rm4 l Z a0 hw [] a1  h0 n0 Z0 ) hZ (hw _ (List.mem_of_getElem? (i := 21) rfl)) (hw _ (List.mem_of_getElem? (i := 20) rfl)) (by decide) (by decide)) (g := (mkF m 1 #[.val (.ref a1), .val .null, .val .null, .val .null, .val .null, .val .null, .val (.ref c6)] [(.ref a1)])) rfl (by rw [hml]; rfl) (Steps.refl _) (a := a1) (argsL := []) (rest := []) (lenOf pd_0 rfl) rfl (by show 2 * 0 + _ ≤ _; exact Nat.le_of_eq rfl) (hb hby d3_1) (fun _ _ => ⟨rfl, e0, (by decide : 0 + 0 ≤ _), (by decide : 0 + 0 ≤ _)⟩)
  dsimp only [Pt.U, Pt.locs, Pt.cells, Pt.slots] at X1 l1 y1 z1 st1 hQ1
  subst l1 y1 z1
  obtain ⟨rfl, Nq1, e1⟩ := hQ1
  have N1 := Fr.app N0 Nq1
  refine Go.ts (T' := T1) (g' := (mkF m 4 #[.val (.ref a1), .val .null, .val .null, .val .null, .val .null, .val .null, .val (.ref c6)] [])) st1 ?_
  refine Go.st (T' := T1) (g' := (mkF m 5 #[.val (.ref a1), .val .null, .val .null, .val .null, .val .null, .val .null, .val (.ref c6)] [(.ref a1)])) (fun t_ k_ => XS.aloadN X1.here hx rfl (hb hby d3_4) rfl rfl k_) ?_
  refine Go.st (T' := T1) (g' := (mkF m 6 #[.val (.ref a1), .val .null, .val .null, .val .null, .val .null, .val .null, .val (.ref c6)] [.null, (.ref a1)])) (fun t_ k_ => XS.aloadN X1.here hx rfl (hb hby d3_5) rfl rfl k_) ?_
  obtain ⟨T2, h2, X2, e2, W2, st2⟩ := putF X1 hx hZ hown (host := "") (Or.inl (hw _ (List.mem_of_getElem? (i := 25) rfl))) Via.refl e1 F_user E_a1 (Or.inr ⟨(hw _ (List.mem_of_getElem? (i := 26) rfl)), rfl, hnm⟩) (hw _ (List.mem_of_getElem? (i := 13) rfl)) (ty := (.object "java/lang/String")) (by decide) rfl rfl (g := (mkF m 6 #[.val (.ref a1), .val .null, .val .null, .val .null, .val .null, .val .null, .val (.ref c6)] [.null, (.ref a1)])) rfl rfl (hb hby d3_6)
  have Fw2 := Fld.same W2 F_user
  have K2 := Keep.wr (Keep.refl h0 [a1]) W2 (Or.inl (List.mem_of_getElem? (i := 0) rfl))
  have N2 := Fr.snoc X2 N1 g_a1
  refine Go.st (T' := T2) (g' := (mkF m 9 #[.val (.ref a1), .val .null, .val .null, .val .null, .val .null, .val .null, .val (.ref c6)] [])) st2 ?_
  refine Go.st (T' := T2) (g' := (mkF m 10 #[.val (.ref a1), .val .null, .val .null, .val .null, .val .null, .val .null, .val (.ref c6)] [(.ref a1)])) (fun t_ k_ => XS.aloadN X2.here hx rfl (hb hby d3_9) rfl rfl k_) ?_
  refine Go.st (T' := T2) (g' := (mkF m 11 #[.val (.ref a1), .val .null, .val .null, .val .null, .val .null, .val .null, .val (.ref c6)] [.null, (.ref a1)])) (fun t_ k_ => XS.aloadN X2.here hx rfl (hb hby d3_10) rfl rfl k_) ?_
  obtain ⟨T3, h3, X3, e3, W3, st3⟩ := putF X2 hx hZ hown (host := "") (Or.inl (hw _ (List.mem_of_getElem? (i := 27) rfl))) Via.refl e2 (Fld.other W2 F_signIn (Or.inr (slot_ne (Or.inr (hw _ (List.mem_of_getElem? (i := 28) rfl))) (Or.inr (hw _ (List.mem_of_getElem? (i := 26) rfl))) (by decide) (t := (.object "com/example/sturdy_sign_on/sturdysignon/Attributes")) (t' := (.object "java/lang/String")) (by decide) (by decide)))) (Exa.wr W2 E_a1) (Or.inr ⟨(hw _ (List.mem_of_getElem? (i := 28) rfl)), rfl, hnm⟩) (hw _ (List.mem_of_getElem? (i := 13) rfl)) (ty := (.object "com/example/sturdy_sign_on/sturdysignon/Attributes")) (by decide) rfl rfl (g := (mkF m 11 #[.val (.ref a1), .val .null, .val .null, .val .null, .val .null, .val .null, .val (.ref c6)] [.null, (.ref a1)])) rfl rfl (hb hby d3_11)
  have Fw3 := Fld.same W3 (Fld.other W2 F_signIn (Or.inr (slot_ne (Or.inr (hw _ (List.mem_of_getElem? (i := 28) rfl))) (Or.inr (hw _ (List.mem_of_getElem? (i := 26) rfl))) (by decide) (t := (.object "com/example/sturdy_sign_on/sturdysignon/Attributes")) (t' := (.object "java/lang/String")) (by decide) (by decide))))
  have K3 := Keep.wr K2 W3 (Or.inl (List.mem_of_getElem? (i := 0) rfl))
  have N3 := Fr.snoc X3 N2 g_a1
  refine Go.st (T' := T3) (g' := (mkF m 14 #[.val (.ref a1), .val .null, .val .null, .val .null, .val .null, .val .null, .val (.ref c6)] [])) st3 ?_
  refine Go.st (T' := T3) (g' := (mkF m 15 #[.val (.ref a1), .val .null, .val .null, .val .null, .val .null, .val .null, .val (.ref c6)] [(.ref a1)])) (fun t_ k_ => XS.aloadN X3.here hx rfl (hb hby d3_14) rfl rfl k_) ?_
  refine Go.st (T' := T3) (g' := (mkF m 16 #[.val (.ref a1), .val .null, .val .null, .val .null, .val .null, .val .null, .val (.ref c6)] [.null, (.ref a1)])) (fun t_ k_ => XS.aloadN X3.here hx rfl (hb hby d3_15) rfl rfl k_) ?_
  obtain ⟨T4, h4, X4, e4, W4, st4⟩ := putF X3 hx hZ hown (host := "") (Or.inl (hw _ (List.mem_of_getElem? (i := 29) rfl))) Via.refl e3 (Fld.other W3 (Fld.other W2 F_attributes (Or.inr (slot_ne (Or.inr (hw _ (List.mem_of_getElem? (i := 30) rfl))) (Or.inr (hw _ (List.mem_of_getElem? (i := 26) rfl))) (by decide) (t := (.object "com/example/sturdy_sign_on/sturdysignon/Attributes")) (t' := (.object "java/lang/String")) (by decide) (by decide)))) (Or.inr (slot_ne (Or.inr (hw _ (List.mem_of_getElem? (i := 30) rfl))) (Or.inr (hw _ (List.mem_of_getElem? (i := 28) rfl))) (by decide) (t := (.object "com/example/sturdy_sign_on/sturdysignon/Attributes")) (t' := (.object "com/example/sturdy_sign_on/sturdysignon/Attributes")) (by decide) (by decide)))) (Exa.wr W3 (Exa.wr W2 E_a1)) (Or.inr ⟨(hw _ (List.mem_of_getElem? (i := 30) rfl)), rfl, hnm⟩) (hw _ (List.mem_of_getElem? (i := 13) rfl)) (ty := (.object "com/example/sturdy_sign_on/sturdysignon/Attributes")) (by decide) rfl rfl (g := (mkF m 16 #[.val (.ref a1), .val .null, .val .null, .val .null, .val .null, .val .null, .val (.ref c6)] [.null, (.ref a1)])) rfl rfl (hb hby d3_16)
  have Fw4 := Fld.same W4 (Fld.other W3 (Fld.other W2 F_attributes (Or.inr (slot_ne (Or.inr (hw _ (List.mem_of_getElem? (i := 30) rfl))) (Or.inr (hw _ (List.mem_of_getElem? (i := 26) rfl))) (by decide) (t := (.object "com/example/sturdy_sign_on/sturdysignon/Attributes")) (t' := (.object "java/lang/String")) (by decide) (by decide)))) (Or.inr (slot_ne (Or.inr (hw _ (List.mem_of_getElem? (i := 30) rfl))) (Or.inr (hw _ (List.mem_of_getElem? (i := 28) rfl))) (by decide) (t := (.object "com/example/sturdy_sign_on/sturdysignon/Attributes")) (t' := (.object "com/example/sturdy_sign_on/sturdysignon/Attributes")) (by decide) (by decide))))
  have K4 := Keep.wr K3 W4 (Or.inl (List.mem_of_getElem? (i := 0) rfl))
  have N4 := Fr.snoc X4 N3 g_a1
  refine Go.st (T' := T4) (g' := (mkF m 19 #[.val (.ref a1), .val .null, .val .null, .val .null, .val .null, .val .null, .val (.ref c6)] [])) st4 ?_
  refine Go.st (T' := T4) (g' := (mkF m 20 #[.val (.ref a1), .val .null, .val .null, .val .null, .val .null, .val .null, .val (.ref c6)] [(.ref a1)])) (fun t_ k_ => XS.aloadN X4.here hx rfl (hb hby d3_19) rfl rfl k_) ?_
  refine Go.st (T' := T4) (g' := (mkF m 22 #[.val (.ref a1), .val .null, .val .null, .val .null, .val .null, .val .null, .val (.ref c6)] [.null, (.ref a1)])) (fun t_ k_ => XS.aload X4.here hx rfl (hb hby d3_20) rfl rfl k_) ?_
  obtain ⟨T5, h5, X5, e5, W5, st5⟩ := putF X4 hx hZ hown (host := "") (Or.inl (hw _ (List.mem_of_getElem? (i := 31) rfl))) Via.refl e4 (Fld.other W4 (Fld.other W3 (Fld.other W2 F_proxyGrantingTicket (Or.inr (slot_ne (Or.inr (hw _ (List.mem_of_getElem? (i := 32) rfl))) (Or.inr (hw _ (List.mem_of_getElem? (i := 26) rfl))) (by decide) (t := (.object "java/lang/String")) (t' := (.object "java/lang/String")) (by decide) (by decide)))) (Or.inr (slot_ne (Or.inr (hw _ (List.mem_of_getElem? (i := 32) rfl))) (Or.inr (hw _ (List.mem_of_getElem? (i := 28) rfl))) (by decide) (t := (.object "java/lang/String")) (t' := (.object "com/example/sturdy_sign_on/sturdysignon/Attributes")) (by decide) (by decide)))) (Or.inr (slot_ne (Or.inr (hw _ (List.mem_of_getElem? (i := 32) rfl))) (Or.inr (hw _ (List.mem_of_getElem? (i := 30) rfl))) (by decide) (t := (.object "java/lang/String")) (t' := (.object "com/example/sturdy_sign_on/sturdysignon/Attributes")) (by decide) (by decide)))) (Exa.wr W4 (Exa.wr W3 (Exa.wr W2 E_a1))) (Or.inr ⟨(hw _ (List.mem_of_getElem? (i := 32) rfl)), rfl, hnm⟩) (hw _ (List.mem_of_getElem? (i := 13) rfl)) (ty := (.object "java/lang/String")) (by decide) rfl rfl (g := (mkF m 22 #[.val (.ref a1), .val .null, .val .null, .val .null, .val .null, .val .null, .val (.ref c6)] [.null, (.ref a1)])) rfl rfl (hb hby d3_22)
  have Fw5 := Fld.same W5 (Fld.other W4 (Fld.other W3 (Fld.other W2 F_proxyGrantingTicket (Or.inr (slot_ne (Or.inr (hw _ (List.mem_of_getElem? (i := 32) rfl))) (Or.inr (hw _ (List.mem_of_getElem? (i := 26) rfl))) (by decide) (t := (.object "java/lang/String")) (t' := (.object "java/lang/String")) (by decide) (by decide)))) (Or.inr (slot_ne (Or.inr (hw _ (List.mem_of_getElem? (i := 32) rfl))) (Or.inr (hw _ (List.mem_of_getElem? (i := 28) rfl))) (by decide) (t := (.object "java/lang/String")) (t' := (.object "com/example/sturdy_sign_on/sturdysignon/Attributes")) (by decide) (by decide)))) (Or.inr (slot_ne (Or.inr (hw _ (List.mem_of_getElem? (i := 32) rfl))) (Or.inr (hw _ (List.mem_of_getElem? (i := 30) rfl))) (by decide) (t := (.object "java/lang/String")) (t' := (.object "com/example/sturdy_sign_on/sturdysignon/Attributes")) (by decide) (by decide))))
  have K5 := Keep.wr K4 W5 (Or.inl (List.mem_of_getElem? (i := 0) rfl))
  have N5 := Fr.snoc X5 N4 g_a1
  refine Go.st (T' := T5) (g' := (mkF m 25 #[.val (.ref a1), .val .null, .val .null, .val .null, .val .null, .val .null, .val (.ref c6)] [])) st5 ?_
  refine Go.st (T' := T5) (g' := (mkF m 26 #[.val (.ref a1), .val .null, .val .null, .val .null, .val .null, .val .null, .val (.ref c6)] [(.ref a1)])) (fun t_ k_ => XS.aloadN X5.here hx rfl (hb hby d3_25) rfl rfl k_) ?_
  refine Go.st (T' := T5) (g' := (mkF m 28 #[.val (.ref a1), .val .null, .val .null, .val .null, .val .null, .val .null, .val (.ref c6)] [.null, (.ref a1)])) (fun t_ k_ => XS.aload X5.here hx rfl (hb hby d3_26) rfl rfl k_) ?_
  obtain ⟨T6, h6, X6, e6, W6, st6⟩ := putF X5 hx hZ hown (host := "") (Or.inl (hw _ (List.mem_of_getElem? (i := 33) rfl))) Via.refl e5 (Fld.other W5 (Fld.other W4 (Fld.other W3 (Fld.other W2 F_proxies (Or.inr (slot_ne (Or.inr (hw _ (List.mem_of_getElem? (i := 34) rfl))) (Or.inr (hw _ (List.mem_of_getElem? (i := 26) rfl))) (by decide) (t := (.object "java/util/List")) (t' := (.object "java/lang/String")) (by decide) (by decide)))) (Or.inr (slot_ne (Or.inr (hw _ (List.mem_of_getElem? (i := 34) rfl))) (Or.inr (hw _ (List.mem_of_getElem? (i := 28) rfl))) (by decide) (t := (.object "java/util/List")) (t' := (.object "com/example/sturdy_sign_on/sturdysignon/Attributes")) (by decide) (by decide)))) (Or.inr (slot_ne (Or.inr (hw _ (List.mem_of_getElem? (i := 34) rfl))) (Or.inr (hw _ (List.mem_of_getElem? (i := 30) rfl))) (by decide) (t := (.object "java/util/List")) (t' := (.object "com/example/sturdy_sign_on/sturdysignon/Attributes")) (by decide) (by decide)))) (Or.inr (slot_ne (Or.inr (hw _ (List.mem_of_getElem? (i := 34) rfl))) (Or.inr (hw _ (List.mem_of_getElem? (i := 32) rfl))) (by decide) (t := (.object "java/util/List")) (t' := (.object "java/lang/String")) (by decide) (by decide)))) (Exa.wr W5 (Exa.wr W4 (Exa.wr W3 (Exa.wr W2 E_a1)))) (Or.inr ⟨(hw _ (List.mem_of_getElem? (i := 34) rfl)), rfl, hnm⟩) (hw _ (List.mem_of_getElem? (i := 13) rfl)) (ty := (.object "java/util/List")) (by decide) rfl rfl (g := (mkF m 28 #[.val (.ref a1), .val .null, .val .null, .val .null, .val .null, .val .null, .val (.ref c6)] [.null, (.ref a1)])) rfl rfl (hb hby d3_28)
  have Fw6 := Fld.same W6 (Fld.other W5 (Fld.other W4 (Fld.other W3 (Fld.other W2 F_proxies (Or.inr (slot_ne (Or.inr (hw _ (List.mem_of_getElem? (i := 34) rfl))) (Or.inr (hw _ (List.mem_of_getElem? (i := 26) rfl))) (by decide) (t := (.object "java/util/List")) (t' := (.object "java/lang/String")) (by decide) (by decide)))) (Or.inr (slot_ne (Or.inr (hw _ (List.mem_of_getElem? (i := 34) rfl))) (Or.inr (hw _ (List.mem_of_getElem? (i := 28) rfl))) (by decide) (t := (.object "java/util/List")) (t' := (.object "com/example/sturdy_sign_on/sturdysignon/Attributes")) (by decide) (by decide)))) (Or.inr (slot_ne (Or.inr (hw _ (List.mem_of_getElem? (i := 34) rfl))) (Or.inr (hw _ (List.mem_of_getElem? (i := 30) rfl))) (by decide) (t := (.object "java/util/List")) (t' := (.object "com/example/sturdy_sign_on/sturdysignon/Attributes")) (by decide) (by decide)))) (Or.inr (slot_ne (Or.inr (hw _ (List.mem_of_getElem? (i := 34) rfl))) (Or.inr (hw _ (List.mem_of_getElem? (i := 32) rfl))) (by decide) (t := (.object "java/util/List")) (t' := (.object "java/lang/String")) (by decide) (by decide))))
  have K6 := Keep.wr K5 W6 (Or.inl (List.mem_of_getElem? (i := 0) rfl))
  have N6 := Fr.snoc X6 N5 g_a1
  refine Go.st (T' := T6) (g' := (mkF m 31 #[.val (.ref a1), .val .null, .val .null, .val .null, .val .null, .val .null, .val (.ref c6)] [])) st6 ?_
  refine Go.st (T' := T6) (g' := (mkF m 32 #[.val (.ref a1), .val .null, .val .null, .val .null, .val .null, .val .null, .val (.ref c6)] [(.ref a1)])) (fun t_ k_ => XS.aloadN X6.here hx rfl (hb hby d3_31) rfl rfl k_) ?_
  refine Go.st (T' := T6) (g' := (mkF m 34 #[.val (.ref a1), .val .null, .val .null, .val .null, .val .null, .val .null, .val (.ref c6)] [(.ref c6), (.ref a1)])) (fun t_ k_ => XS.aload X6.here hx rfl (hb hby d3_32) rfl rfl k_) ?_
  obtain ⟨T7, h7, X7, e7, W7, st7⟩ := putF X6 hx hZ hown (host := "") (Or.inl (hw _ (List.mem_of_getElem? (i := 35) rfl))) Via.refl e6 (Fld.other W6 (Fld.other W5 (Fld.other W4 (Fld.other W3 (Fld.other W2 F_code (Or.inr (slot_ne (Or.inr (hw _ (List.mem_of_getElem? (i := 36) rfl))) (Or.inr (hw _ (List.mem_of_getElem? (i := 26) rfl))) (by decide) (t := (.object "com/example/sturdy_sign_on/sturdysignon/Validation$Code")) (t' := (.object "java/lang/String")) (by decide) (by decide)))) (Or.inr (slot_ne (Or.inr (hw _ (List.mem_of_getElem? (i := 36) rfl))) (Or.inr (hw _ (List.mem_of_getElem? (i := 28) rfl))) (by decide) (t := (.object "com/example/sturdy_sign_on/sturdysignon/Validation$Code")) (t' := (.object "com/example/sturdy_sign_on/sturdysignon/Attributes")) (by decide) (by decide)))) (Or.inr (slot_ne (Or.inr (hw _ (List.mem_of_getElem? (i := 36) rfl))) (Or.inr (hw _ (List.mem_of_getElem? (i := 30) rfl))) (by decide) (t := (.object "com/example/sturdy_sign_on/sturdysignon/Validation$Code")) (t' := (.object "com/example/sturdy_sign_on/sturdysignon/Attributes")) (by decide) (by decide)))) (Or.inr (slot_ne (Or.inr (hw _ (List.mem_of_getElem? (i := 36) rfl))) (Or.inr (hw _ (List.mem_of_getElem? (i := 32) rfl))) (by decide) (t := (.object "com/example/sturdy_sign_on/sturdysignon/Validation$Code")) (t' := (.object "java/lang/String")) (by decide) (by decide)))) (Or.inr (slot_ne (Or.inr (hw _ (List.mem_of_getElem? (i := 36) rfl))) (Or.inr (hw _ (List.mem_of_getElem? (i := 34) rfl))) (by decide) (t := (.object "com/example/sturdy_sign_on/sturdysignon/Validation$Code")) (t' := (.object "java/util/List")) (by decide) (by decide)))) (Exa.wr W6 (Exa.wr W5 (Exa.wr W4 (Exa.wr W3 (Exa.wr W2 E_a1))))) (Or.inr ⟨(hw _ (List.mem_of_getElem? (i := 36) rfl)), rfl, hnm⟩) (hw _ (List.mem_of_getElem? (i := 13) rfl)) (ty := (.object "com/example/sturdy_sign_on/sturdysignon/Validation$Code")) (by decide) rfl rfl (g := (mkF m 34 #[.val (.ref a1), .val .null, .val .null, .val .null, .val .null, .val .null, .val (.ref c6)] [(.ref c6), (.ref a1)])) rfl rfl (hb hby d3_34)
  have Fw7 := Fld.same W7 (Fld.other W6 (Fld.other W5 (Fld.other W4 (Fld.other W3 (Fld.other W2 F_code (Or.inr (slot_ne (Or.inr (hw _ (List.mem_of_getElem? (i := 36) rfl))) (Or.inr (hw _ (List.mem_of_getElem? (i := 26) rfl))) (by decide) (t := (.object "com/example/sturdy_sign_on/sturdysignon/Validation$Code")) (t' := (.object "java/lang/String")) (by decide) (by decide)))) (Or.inr (slot_ne (Or.inr (hw _ (List.mem_of_getElem? (i := 36) rfl))) (Or.inr (hw _ (List.mem_of_getElem? (i := 28) rfl))) (by decide) (t := (.object "com/example/sturdy_sign_on/sturdysignon/Validation$Code")) (t' := (.object "com/example/sturdy_sign_on/sturdysignon/Attributes")) (by decide) (by decide)))) (Or.inr (slot_ne (Or.inr (hw _ (List.mem_of_getElem? (i := 36) rfl))) (Or.inr (hw _ (List.mem_of_getElem? (i := 30) rfl))) (by decide) (t := (.object "com/example/sturdy_sign_on/sturdysignon/Validation$Code")) (t' := (.object "com/example/sturdy_sign_on/sturdysignon/Attributes")) (by decide) (by decide)))) (Or.inr (slot_ne (Or.inr (hw _ (List.mem_of_getElem? (i := 36) rfl))) (Or.inr (hw _ (List.mem_of_getElem? (i := 32) rfl))) (by decide) (t := (.object "com/example/sturdy_sign_on/sturdysignon/Validation$Code")) (t' := (.object "java/lang/String")) (by decide) (by decide)))) (Or.inr (slot_ne (Or.inr (hw _ (List.mem_of_getElem? (i := 36) rfl))) (Or.inr (hw _ (List.mem_of_getElem? (i := 34) rfl))) (by decide) (t := (.object "com/example/sturdy_sign_on/sturdysignon/Validation$Code")) (t' := (.object "java/util/List")) (by decide) (by decide))))
  have K7 := Keep.wr K6 W7 (Or.inl (List.mem_of_getElem? (i := 0) rfl))
  have N7 := Fr.snoc X7 N6 g_a1
  refine Go.st (T' := T7) (g' := (mkF m 37 #[.val (.ref a1), .val .null, .val .null, .val .null, .val .null, .val .null, .val (.ref c6)] [])) st7 ?_
  refine Go.ret0 X7 hx Bd.returns hlk (hb hby d3_37) (by decide) (by decide) ?_
  rw [e7]
  exact ⟨rfl, N7, K7, (Exa.wr W7 (Exa.wr W6 (Exa.wr W5 (Exa.wr W4 (Exa.wr W3 (Exa.wr W2 E_a1)))))), (Fld.other W7 (Fld.other W6 (Fld.other W5 (Fld.other W4 (Fld.other W3 Fw2 (Or.inr (slot_ne (Or.inr (hw _ (List.mem_of_getElem? (i := 26) rfl))) (Or.inr (hw _ (List.mem_of_getElem? (i := 28) rfl))) (by decide) (t := (.object "java/lang/String")) (t' := (.object "com/example/sturdy_sign_on/sturdysignon/Attributes")) (by decide) (by decide)))) (Or.inr (slot_ne (Or.inr (hw _ (List.mem_of_getElem? (i := 26) rfl))) (Or.inr (hw _ (List.mem_of_getElem? (i := 30) rfl))) (by decide) (t := (.object "java/lang/String")) (t' := (.object "com/example/sturdy_sign_on/sturdysignon/Attributes")) (by decide) (by decide)))) (Or.inr (slot_ne (Or.inr (hw _ (List.mem_of_getElem? (i := 26) rfl))) (Or.inr (hw _ (List.mem_of_getElem? (i := 32) rfl))) (by decide) (t := (.object "java/lang/String")) (t' := (.object "java/lang/String")) (by decide) (by decide)))) (Or.inr (slot_ne (Or.inr (hw _ (List.mem_of_getElem? (i := 26) rfl))) (Or.inr (hw _ (List.mem_of_getElem? (i := 34) rfl))) (by decide) (t := (.object "java/lang/String")) (t' := (.object "java/util/List")) (by decide) (by decide)))) (Or.inr (slot_ne (Or.inr (hw _ (List.mem_of_getElem? (i := 26) rfl))) (Or.inr (hw _ (List.mem_of_getElem? (i := 36) rfl))) (by decide) (t := (.object "java/lang/String")) (t' := (.object "com/example/sturdy_sign_on/sturdysignon/Validation$Code")) (by decide) (by decide)))), (Fld.other W7 (Fld.other W6 (Fld.other W5 (Fld.other W4 Fw3 (Or.inr (slot_ne (Or.inr (hw _ (List.mem_of_getElem? (i := 28) rfl))) (Or.inr (hw _ (List.mem_of_getElem? (i := 30) rfl))) (by decide) (t := (.object "com/example/sturdy_sign_on/sturdysignon/Attributes")) (t' := (.object "com/example/sturdy_sign_on/sturdysignon/Attributes")) (by decide) (by decide)))) (Or.inr (slot_ne (Or.inr (hw _ (List.mem_of_getElem? (i := 28) rfl))) (Or.inr (hw _ (List.mem_of_getElem? (i := 32) rfl))) (by decide) (t := (.object "com/example/sturdy_sign_on/sturdysignon/Attributes")) (t' := (.object "java/lang/String")) (by decide) (by decide)))) (Or.inr (slot_ne (Or.inr (hw _ (List.mem_of_getElem? (i := 28) rfl))) (Or.inr (hw _ (List.mem_of_getElem? (i := 34) rfl))) (by decide) (t := (.object "com/example/sturdy_sign_on/sturdysignon/Attributes")) (t' := (.object "java/util/List")) (by decide) (by decide)))) (Or.inr (slot_ne (Or.inr (hw _ (List.mem_of_getElem? (i := 28) rfl))) (Or.inr (hw _ (List.mem_of_getElem? (i := 36) rfl))) (by decide) (t := (.object "com/example/sturdy_sign_on/sturdysignon/Attributes")) (t' := (.object "com/example/sturdy_sign_on/sturdysignon/Validation$Code")) (by decide) (by decide)))), (Fld.other W7 (Fld.other W6 (Fld.other W5 Fw4 (Or.inr (slot_ne (Or.inr (hw _ (List.mem_of_getElem? (i := 30) rfl))) (Or.inr (hw _ (List.mem_of_getElem? (i := 32) rfl))) (by decide) (t := (.object "com/example/sturdy_sign_on/sturdysignon/Attributes")) (t' := (.object "java/lang/String")) (by decide) (by decide)))) (Or.inr (slot_ne (Or.inr (hw _ (List.mem_of_getElem? (i := 30) rfl))) (Or.inr (hw _ (List.mem_of_getElem? (i := 34) rfl))) (by decide) (t := (.object "com/example/sturdy_sign_on/sturdysignon/Attributes")) (t' := (.object "java/util/List")) (by decide) (by decide)))) (Or.inr (slot_ne (Or.inr (hw _ (List.mem_of_getElem? (i := 30) rfl))) (Or.inr (hw _ (List.mem_of_getElem? (i := 36) rfl))) (by decide) (t := (.object "com/example/sturdy_sign_on/sturdysignon/Attributes")) (t' := (.object "com/example/sturdy_sign_on/sturdysignon/Validation$Code")) (by decide) (by decide)))), (Fld.other W7 (Fld.other W6 Fw5 (Or.inr (slot_ne (Or.inr (hw _ (List.mem_of_getElem? (i := 32) rfl))) (Or.inr (hw _ (List.mem_of_getElem? (i := 34) rfl))) (by decide) (t := (.object "java/lang/String")) (t' := (.object "java/util/List")) (by decide) (by decide)))) (Or.inr (slot_ne (Or.inr (hw _ (List.mem_of_getElem? (i := 32) rfl))) (Or.inr (hw _ (List.mem_of_getElem? (i := 36) rfl))) (by decide) (t := (.object "java/lang/String")) (t' := (.object "com/example/sturdy_sign_on/sturdysignon/Validation$Code")) (by decide) (by decide)))), (Fld.other W7 Fw6 (Or.inr (slot_ne (Or.inr (hw _ (List.mem_of_getElem? (i := 34) rfl))) (Or.inr (hw _ (List.mem_of_getElem? (i := 36) rfl))) (by decide) (t := (.object "java/util/List")) (t' := (.object "com/example/sturdy_sign_on/sturdysignon/Validation$Code")) (by decide) (by decide)))), Fw7⟩
theorem pd_1 : parseMethodDescriptor "(Ljava/lang/String;Lcom/example/sturdy_sign_on/sturdysignon/Attributes;Lcom/example/sturdy_sign_on/sturdysignon/Attributes;Ljava/lang/String;Ljava/util/List;Lcom/example/sturdy_sign_on/sturdysignon/Validation$Code;)V" = some ⟨[(.object "java/lang/String"), (.object "com/example/sturdy_sign_on/sturdysignon/Attributes"), (.object "com/example/sturdy_sign_on/sturdysignon/Attributes"), (.object "java/lang/String"), (.object "java/util/List"), (.object "com/example/sturdy_sign_on/sturdysignon/Validation$Code")], none⟩ := by decide +kernel
theorem d2_0 : decode prog_13_method_3_code 0 = .ok (.new 8, 3) := by decide +kernel
theorem d2_3 : decode prog_13_method_3_code 3 = .ok (.dup, 1) := by decide +kernel
theorem d2_4 : decode prog_13_method_3_code 4 = .ok (.aconst_null, 1) := by decide +kernel
theorem d2_5 : decode prog_13_method_3_code 5 = .ok (.aconst_null, 1) := by decide +kernel
theorem d2_6 : decode prog_13_method_3_code 6 = .ok (.aconst_null, 1) := by decide +kernel
theorem d2_7 : decode prog_13_method_3_code 7 = .ok (.aconst_null, 1) := by decide +kernel
theorem d2_8 : decode prog_13_method_3_code 8 = .ok (.aconst_null, 1) := by decide +kernel
theorem d2_9 : decode prog_13_method_3_code 9 = .ok (.aload_n 0, 1) := by decide +kernel
theorem d2_10 : decode prog_13_method_3_code 10 = .ok (.invokespecial 40, 3) := by decide +kernel
theorem d2_13 : decode prog_13_method_3_code 13 = .ok (.areturn, 1) := by decide +kernel
theorem ef_2 (m : MethodId) (c6 : Addr) : entryFrame m #[(.ref c6)] 1 = mkF m 0 #[.val (.ref c6)] [] := by first | (simp [entryFrame, mkF, argsToLocals, Value.category]; done) | rfl
def Q2 (Z : State) (c6 : Addr) (h0 : Heap) (n0 : Nat) (v : Option Value) (h : Heap) (L : List Loc) : Prop := ∃ b : Addr, v = some (.ref b) ∧ Fr n0 L ∧ Keep h0 h [] ∧ n0 ≤ b ∧ Exa Z h b "com/example/sturdy_sign_on/sturdysignon/Validation" ∧ Fld Z h b "com/example/sturdy_sign_on/sturdysignon/Validation" "user" "Ljava/lang/String;" .null ∧ Fld Z h b "com/example/sturdy_sign_on/sturdysignon/Validation" "signIn" "Lcom/example/sturdy_sign_on/sturdysignon/Attributes;" .null ∧ Fld Z h b "com/example/sturdy_sign_on/sturdysignon/Validation" "attributes" "Lcom/example/sturdy_sign_on/sturdysignon/Attributes;" .null ∧ Fld Z h b "com/example/sturdy_sign_on/sturdysignon/Validation" "proxyGrantingTicket" "Ljava/lang/String;" .null ∧ Fld Z h b "com/example/sturdy_sign_on/sturdysignon/Validation" "proxies" "Ljava/util/List;" .null ∧ Fld Z h b "com/example/sturdy_sign_on/sturdysignon/Validation" "code" "Lcom/example/sturdy_sign_on/sturdysignon/Validation$Code;" (.ref c6)
set_option maxRecDepth 65536 in
set_option maxHeartbeats 40000000 in
theorem rm2 (l : Launch) (Z : State) (a0 : Array Value) (hw : ∀ d ∈ tables_1, d.before a0 Z = true) (ws : List Jvm.Cond) (c6 : Addr) (h0 : Heap) (n0 : Nat) (Z0 : n0 ≤ h0.size)  :
    MetFree l (⟨"com/example/sturdy_sign_on/sturdysignon/Validation", "failure", "(Lcom/example/sturdy_sign_on/sturdysignon/Validation$Code;)Lcom/example/sturdy_sign_on/sturdysignon/Validation;"⟩ : MethodName) (head1 (Jvm.Cond.code (⟨"com/example/sturdy_sign_on/sturdysignon/Validation", "failure", "(Lcom/example/sturdy_sign_on/sturdysignon/Validation$Code;)Lcom/example/sturdy_sign_on/sturdysignon/Validation;"⟩ : MethodName) prog_13_method_3_code 1 (some (.object "com/example/sturdy_sign_on/sturdysignon/Validation")) :: ws) ({ frames := 3, cells := 1, slots := 6, locals := 43 } : Room)) (fun a U => a = #[(.ref c6)] ∧ Z.Warmed39 U.vm ∧ U.heap = h0) (fun _ _ _ _ _ => True) (fun _ U o U' => ∃ v L, o = .returned v ∧ Q2 Z c6 h0 n0 v U'.heap L ∧ FrameEnd U o U' L ({ frames := 3, cells := 1, slots := 6, locals := 43 } : Room).cells ({ frames := 3, cells := 1, slots := 6, locals := 43 } : Room).slots) := by
  refine MetFree.of_bodySF (plainFor_of_name pn_2) hisR ?_
  intro p e s m args below meth c s₁ Bd hml0 hP hK
  obtain ⟨rfl, hZ, hh⟩ := hP
  have hx := Bd.exec
  have hby := Bd.bytes
  have hml : c.maxLocals = 1 := hml0
  have hown : s.vm.findClass "com/example/sturdy_sign_on/sturdysignon/Validation" = some m.cls := findClass_of_methodNamed Bd.named
  have hnm := (name_of_methodNamed Bd.named Bd.method).1
  have hlk : meth.locks = false := BodyLoose.notSynchronized Bd
  have X0 : Stand p l e ({ frames := 3, cells := 1, slots := 6, locals := 43 } : Room) s m #[(.ref c6)] below meth c s₁ [] 0 0 := Stand.of_body Bd
  have e0 : s₁.heap = h0 := by rw [← hh, Bd.state]; rfl
  have N0 := Fr.nil n0
  suffices hgo : Go p e below s (Q2 Z c6 h0 n0) ({ frames := 3, cells := 1, slots := 6, locals := 43 } : Room).cells ({ frames := 3, cells := 1, slots := 6, locals := 43 } : Room).slots s₁ (mkF m 0 #[.val (.ref c6)] []) by
    obtain ⟨s₂, o, k1, k2⟩ := hgo
    exact ⟨s₂, o, castTop (ef_2 m c6) k1, k2⟩
  obtain ⟨T1, h1, X1, e1, E1, A1, D1, -, st1⟩ := newO X0 hx hZ hown (hw _ (List.mem_of_getElem? (i := 12) rfl)) (hw _ (List.mem_of_getElem? (i := 13) rfl)) (hw _ (List.mem_of_getElem? (i := 10) rfl)) e0 (g := (mkF m 0 #[.val (.ref c6)] [])) rfl (hb hby d2_0) (by decide) (by decide)
  obtain ⟨b1, q1⟩ : ∃ z, z = h0.size := ⟨_, rfl⟩
  rw [← q1] at A1 D1 st1
  have Fuser_b1 : Fld Z h1 b1 "com/example/sturdy_sign_on/sturdysignon/Validation" "user" "Ljava/lang/String;" .null := D1 (Or.inr (hw _ (List.mem_of_getElem? (i := 26) rfl))) (ty := (.object "java/lang/String")) (by decide)
  have FsignIn_b1 : Fld Z h1 b1 "com/example/sturdy_sign_on/sturdysignon/Validation" "signIn" "Lcom/example/sturdy_sign_on/sturdysignon/Attributes;" .null := D1 (Or.inr (hw _ (List.mem_of_getElem? (i := 28) rfl))) (ty := (.object "com/example/sturdy_sign_on/sturdysignon/Attributes")) (by decide)
  have Fattributes_b1 : Fld Z h1 b1 "com/example/sturdy_sign_on/sturdysignon/Validation" "attributes" "Lcom/example/sturdy_sign_on/sturdysignon/Attributes;" .null := D1 (Or.inr (hw _ (List.mem_of_getElem? (i := 30) rfl))) (ty := (.object "com/example/sturdy_sign_on/sturdysignon/Attributes")) (by decide)
  have FproxyGrantingTicket_b1 : Fld Z h1 b1 "com/example/sturdy_sign_on/sturdysignon/Validation" "proxyGrantingTicket" "Ljava/lang/String;" .null := D1 (Or.inr (hw _ (List.mem_of_getElem? (i := 32) rfl))) (ty := (.object "java/lang/String")) (by decide)
  have Fproxies_b1 : Fld Z h1 b1 "com/example/sturdy_sign_on/sturdysignon/Validation" "proxies" "Ljava/util/List;" .null := D1 (Or.inr (hw _ (List.mem_of_getElem? (i := 34) rfl))) (ty := (.object "java/util/List")) (by decide)
  have Fcode_b1 : Fld Z h1 b1 "com/example/sturdy_sign_on/sturdysignon/Validation" "code" "Lcom/example/sturdy_sign_on/sturdysignon/Validation$Code;" .null := D1 (Or.inr (hw _ (List.mem_of_getElem? (i := 36) rfl))) (ty := (.object "com/example/sturdy_sign_on/sturdysignon/Validation$Code")) (by decide)
  have g_b1 : n0 ≤ b1 := Nat.le_trans Z0 (Nat.le_of_eq q1.symm)
  have sz_b1 : h0.size ≤ b1 := Nat.le_trans ((Keep.refl h0 [])).1 (Nat.le_of_eq q1.symm)
  have K1 := Keep.ext (Keep.refl h0 []) E1
  refine Go.st (T' := T1) (g' := (mkF m 3 #[.val (.ref c6)] [(.ref b1)])) st1 ?_
  refine Go.st (T' := T1) (g' := (mkF m 4 #[.val (.ref c6)] [(.ref b1), (.ref b1)])) (fun t_ k_ => XS.dup X1.here hx rfl (hb hby d2_3) rfl rfl k_) ?_
  refine Go.st (T' := T1) (g' := (mkF m 5 #[.val (.ref c6)] [.null, (.ref b1), (.ref b1)])) (fun t_ k_ => XS.aconstNull X1.here hx rfl (hb hby d2_4) k_) ?_
  refine Go.st (T' := T1) (g' := (mkF m 6 #[.val (.ref c6)] [.null, .null, (.ref b1), (.ref b1)])) (fun t_ k_ => XS.aconstNull X1.here hx rfl (hb hby d2_5) k_) ?_
  refine Go.st (T' := T1) (g' := (mkF m 7 #[.val (.ref c6)] [.null, .null, .null, (.ref b1), (.ref b1)])) (fun t_ k_ => XS.aconstNull X1.here hx rfl (hb hby d2_6) k_) ?_
  refine Go.st (T' := T1) (g' := (mkF m 8 #[.val (.ref c6)] [.null, .null, .null, .null, (.ref b1), (.ref b1)])) (fun t_ k_ => XS.aconstNull X1.here hx rfl (hb hby d2_7) k_) ?_
  refine Go.st (T' := T1) (g' := (mkF m 9 #[.val (.ref c6)] [.null, .null, .null, .null, .null, (.ref b1), (.ref b1)])) (fun t_ k_ => XS.aconstNull X1.here hx rfl (hb hby d2_8) k_) ?_
  refine Go.st (T' := T1) (g' := (mkF m 10 #[.val (.ref c6)] [(.ref c6), .null, .null, .null, .null, .null, (.ref b1), (.ref b1)])) (fun t_ k_ => XS.aloadN X1.here hx rfl (hb hby d2_9) rfl rfl k_) ?_
  obtain ⟨_, _, ⟨T2, L2, k2, n2⟩, -, X2, ⟨Lc2, hQ2, l2, y2, z2⟩, st2⟩ := X1.specialBack hx (y := (⟨"com/example/sturdy_sign_on/sturdysignon/Validation", "<init>", "(Ljava/lang/String;Lcom/example/sturdy_sign_on/sturdysignon/Attributes;Lcom/example/sturdy_sign_on/sturdysignon/Attributes;Ljava/lang/String;Ljava/util/List;Lcom/example/sturdy_sign_on/sturdysignon/Validation$Code;)V"⟩ : MethodName)) rfl hown (mvT hZ (hw _ (List.mem_of_getElem? (i := 14) rfl))) (mvT hZ (hw _ (List.mem_of_getElem? (i := 15) rfl))) (mvT hZ (hw _ (List.mem_of_getElem? (i := 16) rfl))) (by decide) (backOf (W := 1) (rm3 l Z a0 hw [] b1 c6  h1 n0 (Nat.le_trans Z0 E1.1) A1 g_b1 Fuser_b1 FsignIn_b1 Fattributes_b1 FproxyGrantingTicket_b1 Fproxies_b1 Fcode_b1) hZ (hw _ (List.mem_of_getElem? (i := 16) rfl)) (hw _ (List.mem_of_getElem? (i := 10) rfl)) (by decide) (by decide)) (g := (mkF m 10 #[.val (.ref c6)] [(.ref c6), .null, .null, .null, .null, .null, (.ref b1), (.ref b1)])) rfl (by rw [hml]; rfl) (Steps.refl _) (a := b1) (argsL := [.null, .null, .null, .null, .null, (.ref c6)]) (rest := [(.ref b1)]) (lenOf pd_1 rfl) rfl (by show 2 * 0 + _ ≤ _; exact Nat.le_of_eq rfl) (hb hby d2_10) (fun _ _ => ⟨rfl, e1, (by decide : 1 + 0 ≤ _), (by decide : 6 + 0 ≤ _)⟩)
  dsimp only [Pt.U, Pt.locs, Pt.cells, Pt.slots] at X2 l2 y2 z2 st2 hQ2
  subst l2 y2 z2
  obtain ⟨rfl, Nq2, Kq2, Eq2, F0q2, F1q2, F2q2, F3q2, F4q2, F5q2⟩ := hQ2
  have N2 := Fr.app N0 Nq2
  refine Go.ts (T' := T2) (g' := (mkF m 13 #[.val (.ref c6)] [(.ref b1)])) st2 ?_
  refine Go.retA X2 hx Bd.returns hlk rfl rfl rfl (hb hby d2_13) (by decide) (by decide) ?_
  exact ⟨b1, rfl, N2, (Keep.trans K1 Kq2 (allS (Or.inr sz_b1) all0)), g_b1, Eq2, F0q2, F1q2, F2q2, F3q2, F4q2, F5q2⟩
theorem d6_0 : decode prog_13_method_14_code 0 = .ok (.aload_n 0, 1) := by decide +kernel
theorem d6_1 : decode prog_13_method_14_code 1 = .ok (.getfield 27, 3) := by decide +kernel
theorem d6_4 : decode prog_13_method_14_code 4 = .ok (.areturn, 1) := by decide +kernel
theorem ef_6 (m : MethodId) (a1 : Addr) : entryFrame m #[(.ref a1)] 1 = mkF m 0 #[.val (.ref a1)] [] := by first | (simp [entryFrame, mkF, argsToLocals, Value.category]; done) | rfl
def Q6 (Z : State) (a1 : Addr) (c6 : Addr) (h0 : Heap) (n0 : Nat) (v : Option Value) (h : Heap) (L : List Loc) : Prop := v = some (.ref c6) ∧ Fr n0 L ∧ h = h0
set_option maxRecDepth 65536 in
set_option maxHeartbeats 40000000 in
theorem rm6 (l : Launch) (Z : State) (a0 : Array Value) (hw : ∀ d ∈ tables_1, d.before a0 Z = true) (ws : List Jvm.Cond) (a1 : Addr) (c6 : Addr) (h0 : Heap) (n0 : Nat) (Z0 : n0 ≤ h0.size) (F_code : Fld Z h0 a1 "com/example/sturdy_sign_on/sturdysignon/Validation" "code" "Lcom/example/sturdy_sign_on/sturdysignon/Validation$Code;" (.ref c6)) :
    MetFree l (⟨"com/example/sturdy_sign_on/sturdysignon/Validation", "code", "()Lcom/example/sturdy_sign_on/sturdysignon/Validation$Code;"⟩ : MethodName) (head1 (Jvm.Cond.code (⟨"com/example/sturdy_sign_on/sturdysignon/Validation", "code", "()Lcom/example/sturdy_sign_on/sturdysignon/Validation$Code;"⟩ : MethodName) prog_13_method_14_code 1 (some (.object "com/example/sturdy_sign_on/sturdysignon/Validation$Code")) :: ws) ({ frames := 0, cells := 0, slots := 0, locals := 0 } : Room)) (fun a U => a = #[(.ref a1)] ∧ Z.Warmed39 U.vm ∧ U.heap = h0) (fun _ _ _ _ _ => True) (fun _ U o U' => ∃ v L, o = .returned v ∧ Q6 Z a1 c6 h0 n0 v U'.heap L ∧ FrameEnd U o U' L ({ frames := 0, cells := 0, slots := 0, locals := 0 } : Room).cells ({ frames := 0, cells := 0, slots := 0, locals := 0 } : Room).slots) := by
  refine MetFree.of_bodySF (plainFor_of_name pn_2) hisR ?_
  intro p e s m args below meth c s₁ Bd hml0 hP hK
  obtain ⟨rfl, hZ, hh⟩ := hP
  have hx := Bd.exec
  have hby := Bd.bytes
  have hml : c.maxLocals = 1 := hml0
  have hown : s.vm.findClass "com/example/sturdy_sign_on/sturdysignon/Validation" = some m.cls := findClass_of_methodNamed Bd.named
  have hnm := (name_of_methodNamed Bd.named Bd.method).1
  have hlk : meth.locks = false := BodyLoose.notSynchronized Bd
  have X0 : Stand p l e ({ frames := 0, cells := 0, slots := 0, locals := 0 } : Room) s m #[(.ref a1)] below meth c s₁ [] 0 0 := Stand.of_body Bd
  have e0 : s₁.heap = h0 := by rw [← hh, Bd.state]; rfl
  have N0 := Fr.nil n0
  suffices hgo : Go p e below s (Q6 Z a1 c6 h0 n0) ({ frames := 0, cells := 0, slots := 0, locals := 0 } : Room).cells ({ frames := 0, cells := 0, slots := 0, locals := 0 } : Room).slots s₁ (mkF m 0 #[.val (.ref a1)] []) by
    obtain ⟨s₂, o, k1, k2⟩ := hgo
    exact ⟨s₂, o, castTop (ef_6 m a1) k1, k2⟩
  refine Go.st (T' := s₁) (g' := (mkF m 1 #[.val (.ref a1)] [(.ref a1)])) (fun t_ k_ => XS.aloadN X0.here hx rfl (hb hby d6_0) rfl rfl k_) ?_
  obtain ⟨T1, X1, e1, st1⟩ := getF X0 hx hZ hown (host := "") (Or.inl (hw _ (List.mem_of_getElem? (i := 35) rfl))) Via.refl e0 F_code (g := (mkF m 1 #[.val (.ref a1)] [(.ref a1)])) rfl rfl (hb hby d6_1)
  refine Go.st (T' := T1) (g' := (mkF m 4 #[.val (.ref a1)] [(.ref c6)])) st1 ?_
  refine Go.retA X1 hx Bd.returns hlk rfl rfl rfl (hb hby d6_4) (by decide) (by decide) ?_
  rw [e1]
  exact ⟨rfl, N0, rfl⟩
theorem d8_0 : decode prog_13_method_9_code 0 = .ok (.aload_n 0, 1) := by decide +kernel
theorem d8_1 : decode prog_13_method_9_code 1 = .ok (.getfield 7, 3) := by decide +kernel
theorem d8_4 : decode prog_13_method_9_code 4 = .ok (.areturn, 1) := by decide +kernel
theorem ef_8 (m : MethodId) (a1 : Addr) : entryFrame m #[(.ref a1)] 1 = mkF m 0 #[.val (.ref a1)] [] := by first | (simp [entryFrame, mkF, argsToLocals, Value.category]; done) | rfl
def Q8 (Z : State) (a1 : Addr) (h0 : Heap) (n0 : Nat) (v : Option Value) (h : Heap) (L : List Loc) : Prop := v = some .null ∧ Fr n0 L ∧ h = h0
set_option maxRecDepth 65536 in
set_option maxHeartbeats 40000000 in
theorem rm8 (l : Launch) (Z : State) (a0 : Array Value) (hw : ∀ d ∈ tables_1, d.before a0 Z = true) (ws : List Jvm.Cond) (a1 : Addr) (h0 : Heap) (n0 : Nat) (Z0 : n0 ≤ h0.size) (F_user : Fld Z h0 a1 "com/example/sturdy_sign_on/sturdysignon/Validation" "user" "Ljava/lang/String;" .null) :
    MetFree l (⟨"com/example/sturdy_sign_on/sturdysignon/Validation", "user", "()Ljava/lang/String;"⟩ : MethodName) (head1 (Jvm.Cond.code (⟨"com/example/sturdy_sign_on/sturdysignon/Validation", "user", "()Ljava/lang/String;"⟩ : MethodName) prog_13_method_9_code 1 (some (.object "java/lang/String")) :: ws) ({ frames := 0, cells := 0, slots := 0, locals := 0 } : Room)) (fun a U => a = #[(.ref a1)] ∧ Z.Warmed39 U.vm ∧ U.heap = h0) (fun _ _ _ _ _ => True) (fun _ U o U' => ∃ v L, o = .returned v ∧ Q8 Z a1 h0 n0 v U'.heap L ∧ FrameEnd U o U' L ({ frames := 0, cells := 0, slots := 0, locals := 0 } : Room).cells ({ frames := 0, cells := 0, slots := 0, locals := 0 } : Room).slots) := by
  refine MetFree.of_bodySF (plainFor_of_name pn_2) hisR ?_
  intro p e s m args below meth c s₁ Bd hml0 hP hK
  obtain ⟨rfl, hZ, hh⟩ := hP
  have hx := Bd.exec
  have hby := Bd.bytes
  have hml : c.maxLocals = 1 := hml0
  have hown : s.vm.findClass "com/example/sturdy_sign_on/sturdysignon/Validation" = some m.cls := findClass_of_methodNamed Bd.named
  have hnm := (name_of_methodNamed Bd.named Bd.method).1
  have hlk : meth.locks = false := BodyLoose.notSynchronized Bd
  have X0 : Stand p l e ({ frames := 0, cells := 0, slots := 0, locals := 0 } : Room) s m #[(.ref a1)] below meth c s₁ [] 0 0 := Stand.of_body Bd
  have e0 : s₁.heap = h0 := by rw [← hh, Bd.state]; rfl
  have N0 := Fr.nil n0
  suffices hgo : Go p e below s (Q8 Z a1 h0 n0) ({ frames := 0, cells := 0, slots := 0, locals := 0 } : Room).cells ({ frames := 0, cells := 0, slots := 0, locals := 0 } : Room).slots s₁ (mkF m 0 #[.val (.ref a1)] []) by
    obtain ⟨s₂, o, k1, k2⟩ := hgo
    exact ⟨s₂, o, castTop (ef_8 m a1) k1, k2⟩
  refine Go.st (T' := s₁) (g' := (mkF m 1 #[.val (.ref a1)] [(.ref a1)])) (fun t_ k_ => XS.aloadN X0.here hx rfl (hb hby d8_0) rfl rfl k_) ?_
  obtain ⟨T1, X1, e1, st1⟩ := getF X0 hx hZ hown (host := "") (Or.inl (hw _ (List.mem_of_getElem? (i := 25) rfl))) Via.refl e0 F_user (g := (mkF m 1 #[.val (.ref a1)] [(.ref a1)])) rfl rfl (hb hby d8_1)
  refine Go.st (T' := T1) (g' := (mkF m 4 #[.val (.ref a1)] [.null])) st1 ?_
  refine Go.retA X1 hx Bd.returns hlk rfl rfl rfl (hb hby d8_4) (by decide) (by decide) ?_
  rw [e1]
  exact ⟨rfl, N0, rfl⟩
theorem d9_0 : decode prog_13_method_10_code 0 = .ok (.aload_n 0, 1) := by decide +kernel
theorem d9_1 : decode prog_13_method_10_code 1 = .ok (.getfield 13, 3) := by decide +kernel
theorem d9_4 : decode prog_13_method_10_code 4 = .ok (.areturn, 1) := by decide +kernel
theorem ef_9 (m : MethodId) (a1 : Addr) : entryFrame m #[(.ref a1)] 1 = mkF m 0 #[.val (.ref a1)] [] := by first | (simp [entryFrame, mkF, argsToLocals, Value.category]; done) | rfl
def Q9 (Z : State) (a1 : Addr) (h0 : Heap) (n0 : Nat) (v : Option Value) (h : Heap) (L : List Loc) : Prop := v = some .null ∧ Fr n0 L ∧ h = h0
set_option maxRecDepth 65536 in
set_option maxHeartbeats 40000000 in
theorem rm9 (l : Launch) (Z : State) (a0 : Array Value) (hw : ∀ d ∈ tables_1, d.before a0 Z = true) (ws : List Jvm.Cond) (a1 : Addr) (h0 : Heap) (n0 : Nat) (Z0 : n0 ≤ h0.size) (F_signIn : Fld Z h0 a1 "com/example/sturdy_sign_on/sturdysignon/Validation" "signIn" "Lcom/example/sturdy_sign_on/sturdysignon/Attributes;" .null) :
    MetFree l (⟨"com/example/sturdy_sign_on/sturdysignon/Validation", "signIn", "()Lcom/example/sturdy_sign_on/sturdysignon/Attributes;"⟩ : MethodName) (head1 (Jvm.Cond.code (⟨"com/example/sturdy_sign_on/sturdysignon/Validation", "signIn", "()Lcom/example/sturdy_sign_on/sturdysignon/Attributes;"⟩ : MethodName) prog_13_method_10_code 1 (some (.object "com/example/sturdy_sign_on/sturdysignon/Attributes")) :: ws) ({ frames := 0, cells := 0, slots := 0, locals := 0 } : Room)) (fun a U => a = #[(.ref a1)] ∧ Z.Warmed39 U.vm ∧ U.heap = h0) (fun _ _ _ _ _ => True) (fun _ U o U' => ∃ v L, o = .returned v ∧ Q9 Z a1 h0 n0 v U'.heap L ∧ FrameEnd U o U' L ({ frames := 0, cells := 0, slots := 0, locals := 0 } : Room).cells ({ frames := 0, cells := 0, slots := 0, locals := 0 } : Room).slots) := by
  refine MetFree.of_bodySF (plainFor_of_name pn_2) hisR ?_
  intro p e s m args below meth c s₁ Bd hml0 hP hK
  obtain ⟨rfl, hZ, hh⟩ := hP
  have hx := Bd.exec
  have hby := Bd.bytes
  have hml : c.maxLocals = 1 := hml0
  have hown : s.vm.findClass "com/example/sturdy_sign_on/sturdysignon/Validation" = some m.cls := findClass_of_methodNamed Bd.named
  have hnm := (name_of_methodNamed Bd.named Bd.method).1
  have hlk : meth.locks = false := BodyLoose.notSynchronized Bd
  have X0 : Stand p l e ({ frames := 0, cells := 0, slots := 0, locals := 0 } : Room) s m #[(.ref a1)] below meth c s₁ [] 0 0 := Stand.of_body Bd
  have e0 : s₁.heap = h0 := by rw [← hh, Bd.state]; rfl
  have N0 := Fr.nil n0
  suffices hgo : Go p e below s (Q9 Z a1 h0 n0) ({ frames := 0, cells := 0, slots := 0, locals := 0 } : Room).cells ({ frames := 0, cells := 0, slots := 0, locals := 0 } : Room).slots s₁ (mkF m 0 #[.val (.ref a1)] []) by
    obtain ⟨s₂, o, k1, k2⟩ := hgo
    exact ⟨s₂, o, castTop (ef_9 m a1) k1, k2⟩
  refine Go.st (T' := s₁) (g' := (mkF m 1 #[.val (.ref a1)] [(.ref a1)])) (fun t_ k_ => XS.aloadN X0.here hx rfl (hb hby d9_0) rfl rfl k_) ?_
  obtain ⟨T1, X1, e1, st1⟩ := getF X0 hx hZ hown (host := "") (Or.inl (hw _ (List.mem_of_getElem? (i := 27) rfl))) Via.refl e0 F_signIn (g := (mkF m 1 #[.val (.ref a1)] [(.ref a1)])) rfl rfl (hb hby d9_1)
  refine Go.st (T' := T1) (g' := (mkF m 4 #[.val (.ref a1)] [.null])) st1 ?_
  refine Go.retA X1 hx Bd.returns hlk rfl rfl rfl (hb hby d9_4) (by decide) (by decide) ?_
  rw [e1]
  exact ⟨rfl, N0, rfl⟩
theorem d10_0 : decode prog_13_method_11_code 0 = .ok (.aload_n 0, 1) := by decide +kernel
theorem d10_1 : decode prog_13_method_11_code 1 = .ok (.getfield 17, 3) := by decide +kernel
theorem d10_4 : decode prog_13_method_11_code 4 = .ok (.areturn, 1) := by decide +kernel
theorem ef_10 (m : MethodId) (a1 : Addr) : entryFrame m #[(.ref a1)] 1 = mkF m 0 #[.val (.ref a1)] [] := by first | (simp [entryFrame, mkF, argsToLocals, Value.category]; done) | rfl
def Q10 (Z : State) (a1 : Addr) (h0 : Heap) (n0 : Nat) (v : Option Value) (h : Heap) (L : List Loc) : Prop := v = some .null ∧ Fr n0 L ∧ h = h0
set_option maxRecDepth 65536 in
set_option maxHeartbeats 40000000 in
theorem rm10 (l : Launch) (Z : State) (a0 : Array Value) (hw : ∀ d ∈ tables_1, d.before a0 Z = true) (ws : List Jvm.Cond) (a1 : Addr) (h0 : Heap) (n0 : Nat) (Z0 : n0 ≤ h0.size) (F_attributes : Fld Z h0 a1 "com/example/sturdy_sign_on/sturdysignon/Validation" "attributes" "Lcom/example/sturdy_sign_on/sturdysignon/Attributes;" .null) :
    MetFree l (⟨"com/example/sturdy_sign_on/sturdysignon/Validation", "attributes", "()Lcom/example/sturdy_sign_on/sturdysignon/Attributes;"⟩ : MethodName) (head1 (Jvm.Cond.code (⟨"com/example/sturdy_sign_on/sturdysignon/Validation", "attributes", "()Lcom/example/sturdy_sign_on/sturdysignon/Attributes;"⟩ : MethodName) prog_13_method_11_code 1 (some (.object "com/example/sturdy_sign_on/sturdysignon/Attributes")) :: ws) ({ frames := 0, cells := 0, slots := 0, locals := 0 } : Room)) (fun a U => a = #[(.ref a1)] ∧ Z.Warmed39 U.vm ∧ U.heap = h0) (fun _ _ _ _ _ => True) (fun _ U o U' => ∃ v L, o = .returned v ∧ Q10 Z a1 h0 n0 v U'.heap L ∧ FrameEnd U o U' L ({ frames := 0, cells := 0, slots := 0, locals := 0 } : Room).cells ({ frames := 0, cells := 0, slots := 0, locals := 0 } : Room).slots) := by
  refine MetFree.of_bodySF (plainFor_of_name pn_2) hisR ?_
  intro p e s m args below meth c s₁ Bd hml0 hP hK
  obtain ⟨rfl, hZ, hh⟩ := hP
  have hx := Bd.exec
  have hby := Bd.bytes
  have hml : c.maxLocals = 1 := hml0
  have hown : s.vm.findClass "com/example/sturdy_sign_on/sturdysignon/Validation" = some m.cls := findClass_of_methodNamed Bd.named
  have hnm := (name_of_methodNamed Bd.named Bd.method).1
  have hlk : meth.locks = false := BodyLoose.notSynchronized Bd
  have X0 : Stand p l e ({ frames := 0, cells := 0, slots := 0, locals := 0 } : Room) s m #[(.ref a1)] below meth c s₁ [] 0 0 := Stand.of_body Bd
  have e0 : s₁.heap = h0 := by rw [← hh, Bd.state]; rfl
  have N0 := Fr.nil n0
  suffices hgo : Go p e below s (Q10 Z a1 h0 n0) ({ frames := 0, cells := 0, slots := 0, locals := 0 } : Room).cells ({ frames := 0, cells := 0, slots := 0, locals := 0 } : Room).slots s₁ (mkF m 0 #[.val (.ref a1)] []) by
    obtain ⟨s₂, o, k1, k2⟩ := hgo
    exact ⟨s₂, o, castTop (ef_10 m a1) k1, k2⟩
  refine Go.st (T' := s₁) (g' := (mkF m 1 #[.val (.ref a1)] [(.ref a1)])) (fun t_ k_ => XS.aloadN X0.here hx rfl (hb hby d10_0) rfl rfl k_) ?_
  obtain ⟨T1, X1, e1, st1⟩ := getF X0 hx hZ hown (host := "") (Or.inl (hw _ (List.mem_of_getElem? (i := 29) rfl))) Via.refl e0 F_attributes (g := (mkF m 1 #[.val (.ref a1)] [(.ref a1)])) rfl rfl (hb hby d10_1)
  refine Go.st (T' := T1) (g' := (mkF m 4 #[.val (.ref a1)] [.null])) st1 ?_
  refine Go.retA X1 hx Bd.returns hlk rfl rfl rfl (hb hby d10_4) (by decide) (by decide) ?_
  rw [e1]
  exact ⟨rfl, N0, rfl⟩
theorem d11_0 : decode prog_13_method_12_code 0 = .ok (.aload_n 0, 1) := by decide +kernel
theorem d11_1 : decode prog_13_method_12_code 1 = .ok (.getfield 20, 3) := by decide +kernel
theorem d11_4 : decode prog_13_method_12_code 4 = .ok (.areturn, 1) := by decide +kernel
theorem ef_11 (m : MethodId) (a1 : Addr) : entryFrame m #[(.ref a1)] 1 = mkF m 0 #[.val (.ref a1)] [] := by first | (simp [entryFrame, mkF, argsToLocals, Value.category]; done) | rfl
def Q11 (Z : State) (a1 : Addr) (h0 : Heap) (n0 : Nat) (v : Option Value) (h : Heap) (L : List Loc) : Prop := v = some .null ∧ Fr n0 L ∧ h = h0
set_option maxRecDepth 65536 in
set_option maxHeartbeats 40000000 in
theorem rm11 (l : Launch) (Z : State) (a0 : Array Value) (hw : ∀ d ∈ tables_1, d.before a0 Z = true) (ws : List Jvm.Cond) (a1 : Addr) (h0 : Heap) (n0 : Nat) (Z0 : n0 ≤ h0.size) (F_proxyGrantingTicket : Fld Z h0 a1 "com/example/sturdy_sign_on/sturdysignon/Validation" "proxyGrantingTicket" "Ljava/lang/String;" .null) :
    MetFree l (⟨"com/example/sturdy_sign_on/sturdysignon/Validation", "proxyGrantingTicket", "()Ljava/lang/String;"⟩ : MethodName) (head1 (Jvm.Cond.code (⟨"com/example/sturdy_sign_on/sturdysignon/Validation", "proxyGrantingTicket", "()Ljava/lang/String;"⟩ : MethodName) prog_13_method_12_code 1 (some (.object "java/lang/String")) :: ws) ({ frames := 0, cells := 0, slots := 0, locals := 0 } : Room)) (fun a U => a = #[(.ref a1)] ∧ Z.Warmed39 U.vm ∧ U.heap = h0) (fun _ _ _ _ _ => True) (fun _ U o U' => ∃ v L, o = .returned v ∧ Q11 Z a1 h0 n0 v U'.heap L ∧ FrameEnd U o U' L ({ frames := 0, cells := 0, slots := 0, locals := 0 } : Room).cells ({ frames := 0, cells := 0, slots := 0, locals := 0 } : Room).slots) := by
  refine MetFree.of_bodySF (plainFor_of_name pn_2) hisR ?_
  intro p e s m args below meth c s₁ Bd hml0 hP hK
  obtain ⟨rfl, hZ, hh⟩ := hP
  have hx := Bd.exec
  have hby := Bd.bytes
  have hml : c.maxLocals = 1 := hml0
  have hown : s.vm.findClass "com/example/sturdy_sign_on/sturdysignon/Validation" = some m.cls := findClass_of_methodNamed Bd.named
  have hnm := (name_of_methodNamed Bd.named Bd.method).1
  have hlk : meth.locks = false := BodyLoose.notSynchronized Bd
  have X0 : Stand p l e ({ frames := 0, cells := 0, slots := 0, locals := 0 } : Room) s m #[(.ref a1)] below meth c s₁ [] 0 0 := Stand.of_body Bd
  have e0 : s₁.heap = h0 := by rw [← hh, Bd.state]; rfl
  have N0 := Fr.nil n0
  suffices hgo : Go p e below s (Q11 Z a1 h0 n0) ({ frames := 0, cells := 0, slots := 0, locals := 0 } : Room).cells ({ frames := 0, cells := 0, slots := 0, locals := 0 } : Room).slots s₁ (mkF m 0 #[.val (.ref a1)] []) by
    obtain ⟨s₂, o, k1, k2⟩ := hgo
    exact ⟨s₂, o, castTop (ef_11 m a1) k1, k2⟩
  refine Go.st (T' := s₁) (g' := (mkF m 1 #[.val (.ref a1)] [(.ref a1)])) (fun t_ k_ => XS.aloadN X0.here hx rfl (hb hby d11_0) rfl rfl k_) ?_
  obtain ⟨T1, X1, e1, st1⟩ := getF X0 hx hZ hown (host := "") (Or.inl (hw _ (List.mem_of_getElem? (i := 31) rfl))) Via.refl e0 F_proxyGrantingTicket (g := (mkF m 1 #[.val (.ref a1)] [(.ref a1)])) rfl rfl (hb hby d11_1)
  refine Go.st (T' := T1) (g' := (mkF m 4 #[.val (.ref a1)] [.null])) st1 ?_
  refine Go.retA X1 hx Bd.returns hlk rfl rfl rfl (hb hby d11_4) (by decide) (by decide) ?_
  rw [e1]
  exact ⟨rfl, N0, rfl⟩
theorem d12_0 : decode prog_13_method_13_code 0 = .ok (.aload_n 0, 1) := by decide +kernel
theorem d12_1 : decode prog_13_method_13_code 1 = .ok (.getfield 23, 3) := by decide +kernel
theorem d12_4 : decode prog_13_method_13_code 4 = .ok (.areturn, 1) := by decide +kernel
theorem ef_12 (m : MethodId) (a1 : Addr) : entryFrame m #[(.ref a1)] 1 = mkF m 0 #[.val (.ref a1)] [] := by first | (simp [entryFrame, mkF, argsToLocals, Value.category]; done) | rfl
def Q12 (Z : State) (a1 : Addr) (h0 : Heap) (n0 : Nat) (v : Option Value) (h : Heap) (L : List Loc) : Prop := v = some .null ∧ Fr n0 L ∧ h = h0
set_option maxRecDepth 65536 in
set_option maxHeartbeats 40000000 in
theorem rm12 (l : Launch) (Z : State) (a0 : Array Value) (hw : ∀ d ∈ tables_1, d.before a0 Z = true) (ws : List Jvm.Cond) (a1 : Addr) (h0 : Heap) (n0 : Nat) (Z0 : n0 ≤ h0.size) (F_proxies : Fld Z h0 a1 "com/example/sturdy_sign_on/sturdysignon/Validation" "proxies" "Ljava/util/List;" .null) :
    MetFree l (⟨"com/example/sturdy_sign_on/sturdysignon/Validation", "proxies", "()Ljava/util/List;"⟩ : MethodName) (head1 (Jvm.Cond.code (⟨"com/example/sturdy_sign_on/sturdysignon/Validation", "proxies", "()Ljava/util/List;"⟩ : MethodName) prog_13_method_13_code 1 (some (.object "java/util/List")) :: ws) ({ frames := 0, cells := 0, slots := 0, locals := 0 } : Room)) (fun a U => a = #[(.ref a1)] ∧ Z.Warmed39 U.vm ∧ U.heap = h0) (fun _ _ _ _ _ => True) (fun _ U o U' => ∃ v L, o = .returned v ∧ Q12 Z a1 h0 n0 v U'.heap L ∧ FrameEnd U o U' L ({ frames := 0, cells := 0, slots := 0, locals := 0 } : Room).cells ({ frames := 0, cells := 0, slots := 0, locals := 0 } : Room).slots) := by
  refine MetFree.of_bodySF (plainFor_of_name pn_2) hisR ?_
  intro p e s m args below meth c s₁ Bd hml0 hP hK
  obtain ⟨rfl, hZ, hh⟩ := hP
  have hx := Bd.exec
  have hby := Bd.bytes
  have hml : c.maxLocals = 1 := hml0
  have hown : s.vm.findClass "com/example/sturdy_sign_on/sturdysignon/Validation" = some m.cls := findClass_of_methodNamed Bd.named
  have hnm := (name_of_methodNamed Bd.named Bd.method).1
  have hlk : meth.locks = false := BodyLoose.notSynchronized Bd
  have X0 : Stand p l e ({ frames := 0, cells := 0, slots := 0, locals := 0 } : Room) s m #[(.ref a1)] below meth c s₁ [] 0 0 := Stand.of_body Bd
  have e0 : s₁.heap = h0 := by rw [← hh, Bd.state]; rfl
  have N0 := Fr.nil n0
  suffices hgo : Go p e below s (Q12 Z a1 h0 n0) ({ frames := 0, cells := 0, slots := 0, locals := 0 } : Room).cells ({ frames := 0, cells := 0, slots := 0, locals := 0 } : Room).slots s₁ (mkF m 0 #[.val (.ref a1)] []) by
    obtain ⟨s₂, o, k1, k2⟩ := hgo
    exact ⟨s₂, o, castTop (ef_12 m a1) k1, k2⟩
  refine Go.st (T' := s₁) (g' := (mkF m 1 #[.val (.ref a1)] [(.ref a1)])) (fun t_ k_ => XS.aloadN X0.here hx rfl (hb hby d12_0) rfl rfl k_) ?_
  obtain ⟨T1, X1, e1, st1⟩ := getF X0 hx hZ hown (host := "") (Or.inl (hw _ (List.mem_of_getElem? (i := 33) rfl))) Via.refl e0 F_proxies (g := (mkF m 1 #[.val (.ref a1)] [(.ref a1)])) rfl rfl (hb hby d12_1)
  refine Go.st (T' := T1) (g' := (mkF m 4 #[.val (.ref a1)] [.null])) st1 ?_
  refine Go.retA X1 hx Bd.returns hlk rfl rfl rfl (hb hby d12_4) (by decide) (by decide) ?_
  rw [e1]
  exact ⟨rfl, N0, rfl⟩
theorem d7_0 : decode prog_13_method_4_code 0 = .ok (.aload_n 0, 1) := by decide +kernel
theorem d7_1 : decode prog_13_method_4_code 1 = .ok (.getfield 27, 3) := by decide +kernel
theorem d7_4 : decode prog_13_method_4_code 4 = .ok (.ifnonnull 7, 3) := by decide +kernel
theorem d7_11 : decode prog_13_method_4_code 11 = .ok (.iconst 0, 1) := by decide +kernel
theorem d7_12 : decode prog_13_method_4_code 12 = .ok (.ireturn, 1) := by decide +kernel
theorem ef_7 (m : MethodId) (a1 : Addr) : entryFrame m #[(.ref a1)] 1 = mkF m 0 #[.val (.ref a1)] [] := by first | (simp [entryFrame, mkF, argsToLocals, Value.category]; done) | rfl
def Q7 (Z : State) (a1 : Addr) (c6 : Addr) (h0 : Heap) (n0 : Nat) (v : Option Value) (h : Heap) (L : List Loc) : Prop := v = some (.int 0) ∧ Fr n0 L ∧ h = h0
set_option maxRecDepth 65536 in
set_option maxHeartbeats 40000000 in
theorem rm7 (l : Launch) (Z : State) (a0 : Array Value) (hw : ∀ d ∈ tables_1, d.before a0 Z = true) (ws : List Jvm.Cond) (a1 : Addr) (c6 : Addr) (h0 : Heap) (n0 : Nat) (Z0 : n0 ≤ h0.size) (F_code : Fld Z h0 a1 "com/example/sturdy_sign_on/sturdysignon/Validation" "code" "Lcom/example/sturdy_sign_on/sturdysignon/Validation$Code;" (.ref c6)) :
    MetFree l (⟨"com/example/sturdy_sign_on/sturdysignon/Validation", "succeeded", "()Z"⟩ : MethodName) (head1 (Jvm.Cond.code (⟨"com/example/sturdy_sign_on/sturdysignon/Validation", "succeeded", "()Z"⟩ : MethodName) prog_13_method_4_code 1 (some .boolean) :: ws) ({ frames := 0, cells := 0, slots := 0, locals := 0 } : Room)) (fun a U => a = #[(.ref a1)] ∧ Z.Warmed39 U.vm ∧ U.heap = h0) (fun _ _ _ _ _ => True) (fun _ U o U' => ∃ v L, o = .returned v ∧ Q7 Z a1 c6 h0 n0 v U'.heap L ∧ FrameEnd U o U' L ({ frames := 0, cells := 0, slots := 0, locals := 0 } : Room).cells ({ frames := 0, cells := 0, slots := 0, locals := 0 } : Room).slots) := by
  refine MetFree.of_bodySF (plainFor_of_name pn_2) hisR ?_
  intro p e s m args below meth c s₁ Bd hml0 hP hK
  obtain ⟨rfl, hZ, hh⟩ := hP
  have hx := Bd.exec
  have hby := Bd.bytes
  have hml : c.maxLocals = 1 := hml0
  have hown : s.vm.findClass "com/example/sturdy_sign_on/sturdysignon/Validation" = some m.cls := findClass_of_methodNamed Bd.named
  have hnm := (name_of_methodNamed Bd.named Bd.method).1
  have hlk : meth.locks = false := BodyLoose.notSynchronized Bd
  have X0 : Stand p l e ({ frames := 0, cells := 0, slots := 0, locals := 0 } : Room) s m #[(.ref a1)] below meth c s₁ [] 0 0 := Stand.of_body Bd
  have e0 : s₁.heap = h0 := by rw [← hh, Bd.state]; rfl
  have N0 := Fr.nil n0
  suffices hgo : Go p e below s (Q7 Z a1 c6 h0 n0) ({ frames := 0, cells := 0, slots := 0, locals := 0 } : Room).cells ({ frames := 0, cells := 0, slots := 0, locals := 0 } : Room).slots s₁ (mkF m 0 #[.val (.ref a1)] []) by
    obtain ⟨s₂, o, k1, k2⟩ := hgo
    exact ⟨s₂, o, castTop (ef_7 m a1) k1, k2⟩
  refine Go.st (T' := s₁) (g' := (mkF m 1 #[.val (.ref a1)] [(.ref a1)])) (fun t_ k_ => XS.aloadN X0.here hx rfl (hb hby d7_0) rfl rfl k_) ?_
  obtain ⟨T1, X1, e1, st1⟩ := getF X0 hx hZ hown (host := "") (Or.inl (hw _ (List.mem_of_getElem? (i := 35) rfl))) Via.refl e0 F_code (g := (mkF m 1 #[.val (.ref a1)] [(.ref a1)])) rfl rfl (hb hby d7_1)
  refine Go.st (T' := T1) (g' := (mkF m 4 #[.val (.ref a1)] [(.ref c6)])) st1 ?_
  refine Go.st (T' := T1) (g' := (mkF m 11 #[.val (.ref a1)] [])) (fun t_ k_ => XS.ifnonnullYes X1.here hx rfl (pc0 := 4) (pc' := 11) rfl (hb hby d7_4) rfl (by decide) (by decide) k_) ?_
  refine Go.st (T' := T1) (g' := (mkF m 12 #[.val (.ref a1)] [(.int (0 : Int32))])) (fun t_ k_ => XS.iconst X1.here hx rfl (hb hby d7_11) k_) ?_
  refine Go.retB X1 hx Bd.returns hlk (t := .boolean) (by simp) (hb hby d7_12) (by decide) (by decide) ?_
  rw [e1]
  exact ⟨rfl, N0, rfl⟩
theorem pd_2 : parseMethodDescriptor "(I)Lcom/example/sturdy_sign_on/sturdysignon/Validation$Code;" = some ⟨[.int], some (.object "com/example/sturdy_sign_on/sturdysignon/Validation$Code")⟩ := by decide +kernel
theorem pd_3 : parseMethodDescriptor "(Lcom/example/sturdy_sign_on/sturdysignon/Validation$Code;)Lcom/example/sturdy_sign_on/sturdysignon/Validation;" = some ⟨[(.object "com/example/sturdy_sign_on/sturdysignon/Validation$Code")], some (.object "com/example/sturdy_sign_on/sturdysignon/Validation")⟩ := by decide +kernel
theorem pd_4 : parseMethodDescriptor "()Lcom/example/sturdy_sign_on/sturdysignon/Validation$Code;" = some ⟨[], some (.object "com/example/sturdy_sign_on/sturdysignon/Validation$Code")⟩ := by decide +kernel
theorem pd_5 : parseMethodDescriptor "()Z" = some ⟨[], some .boolean⟩ := by decide +kernel
theorem pd_6 : parseMethodDescriptor "()Ljava/lang/String;" = some ⟨[], some (.object "java/lang/String")⟩ := by decide +kernel
theorem pd_7 : parseMethodDescriptor "()Lcom/example/sturdy_sign_on/sturdysignon/Attributes;" = some ⟨[], some (.object "com/example/sturdy_sign_on/sturdysignon/Attributes")⟩ := by decide +kernel
theorem pd_8 : parseMethodDescriptor "()Ljava/util/List;" = some ⟨[], some (.object "java/util/List")⟩ := by decide +kernel
theorem ef_0 (m : MethodId) (p1 : Int32) : entryFrame m #[(.int p1)] maxLocals = mkF m 0 #[.val (.int p1), .unset, .unset] [] := by first | (simp [entryFrame, mkF, argsToLocals, Value.category, maxLocals]; done) | rfl
def Q0 (Z : State) (p1 : Int32) (w0 : Addr) (w1 : Addr) (w2 : Addr) (w3 : Addr) (w4 : Addr) (w5 : Addr) (h0 : Heap) (n0 : Nat) (v : Option Value) (h : Heap) (L : List Loc) : Prop := v = some (.int 1) ∧ Fr n0 L
set_option maxRecDepth 65536 in
set_option maxHeartbeats 40000000 in
theorem rm0 (l : Launch) (Z : State) (a0 : Array Value) (hw : ∀ d ∈ tables_1, d.before a0 Z = true) (ws : List Jvm.Cond) (p1 : Int32) (w0 : Addr) (w1 : Addr) (w2 : Addr) (w3 : Addr) (w4 : Addr) (w5 : Addr) (h0 : Heap) (n0 : Nat) (Z0 : n0 ≤ h0.size) (S_0 : Sta Z h0 "com/example/sturdy_sign_on/sturdysignon/Validation$Code" "INVALID_REQUEST" "Lcom/example/sturdy_sign_on/sturdysignon/Validation$Code;" (.ref w0)) (S_1 : Sta Z h0 "com/example/sturdy_sign_on/sturdysignon/Validation$Code" "INVALID_TICKET" "Lcom/example/sturdy_sign_on/sturdysignon/Validation$Code;" (.ref w1)) (S_2 : Sta Z h0 "com/example/sturdy_sign_on/sturdysignon/Validation$Code" "PROXY_TICKET" "Lcom/example/sturdy_sign_on/sturdysignon/Validation$Code;" (.ref w2)) (S_3 : Sta Z h0 "com/example/sturdy_sign_on/sturdysignon/Validation$Code" "INVALID_SERVICE" "Lcom/example/sturdy_sign_on/sturdysignon/Validation$Code;" (.ref w3)) (S_4 : Sta Z h0 "com/example/sturdy_sign_on/sturdysignon/Validation$Code" "UNAUTHORIZED_SERVICE_PROXY" "Lcom/example/sturdy_sign_on/sturdysignon/Validation$Code;" (.ref w4)) (S_5 : Sta Z h0 "com/example/sturdy_sign_on/sturdysignon/Validation$Code" "INVALID_PROXY_CALLBACK" "Lcom/example/sturdy_sign_on/sturdysignon/Validation$Code;" (.ref w5)) :
    MetFree l x (head1 (Jvm.Cond.code x code maxLocals ret :: ws) room_1) (fun a U => a = #[(.int p1)] ∧ Z.Warmed39 U.vm ∧ U.heap = h0) (fun _ _ _ _ _ => True) (fun _ U o U' => ∃ v L, o = .returned v ∧ Q0 Z p1 w0 w1 w2 w3 w4 w5 h0 n0 v U'.heap L ∧ FrameEnd U o U' L room_1.cells room_1.slots) := by
  refine MetFree.of_bodySF (plainFor_of_name pn_0) hisR ?_
  intro p e s m args below meth c s₁ Bd hml0 hP hK
  obtain ⟨rfl, hZ, hh⟩ := hP
  have hx := Bd.exec
  have hby := Bd.bytes
  have hml : c.maxLocals = 3 := hml0
  have hown : s.vm.findClass "com/example/sturdy_sign_on/sturdysignon/ValidationFailurePinLaw" = some m.cls := findClass_of_methodNamed Bd.named
  have hnm := (name_of_methodNamed Bd.named Bd.method).1
  have hlk : meth.locks = false := BodyLoose.notSynchronized Bd
  have X0 : Stand p l e room_1 s m #[(.int p1)] below meth c s₁ [] 0 0 := Stand.of_body Bd
  have e0 : s₁.heap = h0 := by rw [← hh, Bd.state]; rfl
  have N0 := Fr.nil n0
  suffices hgo : Go p e below s (Q0 Z p1 w0 w1 w2 w3 w4 w5 h0 n0) room_1.cells room_1.slots s₁ (mkF m 0 #[.val (.int p1), .unset, .unset] []) by
    obtain ⟨s₂, o, k1, k2⟩ := hgo
    exact ⟨s₂, o, castTop (ef_0 m p1) k1, k2⟩
  obtain ⟨r, hr⟩ : ∃ r, r = if ((p1 &&& (2147483647 : Int32)) % (6 : Int32)) = (0 : Int32) then w0 else if ((p1 &&& (2147483647 : Int32)) % (6 : Int32)) = (1 : Int32) then w1 else if ((p1 &&& (2147483647 : Int32)) % (6 : Int32)) = (2 : Int32) then w2 else if ((p1 &&& (2147483647 : Int32)) % (6 : Int32)) = (3 : Int32) then w3 else if ((p1 &&& (2147483647 : Int32)) % (6 : Int32)) = (4 : Int32) then w4 else w5 := ⟨_, rfl⟩
  refine Go.st (T' := s₁) (g' := (mkF m 1 #[.val (.int p1), .unset, .unset] [(.int p1)])) (fun t_ k_ => XS.iloadN X0.here hx rfl (hb hby at_0) rfl  k_) ?_
  obtain ⟨_, _, ⟨T1, L1, k1, n1⟩, -, X1, ⟨Lc1, hQ1, l1, y1, z1⟩, st1⟩ := Jvm.LawKit.callS X0 hx (y := (⟨"com/example/sturdy_sign_on/sturdysignon/ValidationFailurePinLaw", "pick", "(I)Lcom/example/sturdy_sign_on/sturdysignon/Validation$Code;"⟩ : MethodName)) hown (mvT hZ (hw _ (List.mem_of_getElem? (i := 0) rfl))) (mvT hZ (hw _ (List.mem_of_getElem? (i := 1) rfl))) (mvT hZ (hw _ (List.mem_of_getElem? (i := 2) rfl))) (mvT hZ (hw _ (List.mem_of_getElem? (i := 3) rfl))) (by decide) (backOf (W := 0) (rm1 l Z a0 hw [] p1 w0 w1 w2 w3 w4 w5 r h0 n0 Z0 S_0 S_1 S_2 S_3 S_4 S_5 hr) hZ (hw _ (List.mem_of_getElem? (i := 3) rfl)) (hw _ (List.mem_of_getElem? (i := 2) rfl)) (by decide) (by decide)) (g := (mkF m 1 #[.val (.int p1), .unset, .unset] [(.int p1)])) rfl (by rw [hml]; rfl) (argsL := [(.int p1)]) (rest := []) (lenOf pd_2 rfl) rfl (by show 2 * 0 + _ ≤ _; exact Nat.le_of_eq rfl) (hb hby at_1) (fun _ _ => ⟨rfl, e0, (by decide : 0 + 0 ≤ _), (by decide : 0 + 0 ≤ _)⟩)
  dsimp only [Pt.U, Pt.locs, Pt.cells, Pt.slots] at X1 l1 y1 z1 st1 hQ1
  subst l1 y1 z1
  obtain ⟨rfl, Nq1, e1⟩ := hQ1
  have N1 := Fr.app N0 Nq1
  refine Go.st (T' := T1) (g' := (mkF m 4 #[.val (.int p1), .unset, .unset] [(.ref r)])) st1 ?_
  refine Go.st (T' := T1) (g' := (mkF m 5 #[.val (.int p1), .val (.ref r), .unset] [])) (fun t_ k_ => XS.astoreN X1.here hx rfl (hb hby at_4) rfl rfl (l' := #[.val (.int p1), .val (.ref r), .unset]) rfl k_) ?_
  refine Go.st (T' := T1) (g' := (mkF m 6 #[.val (.int p1), .val (.ref r), .unset] [(.ref r)])) (fun t_ k_ => XS.aloadN X1.here hx rfl (hb hby at_5) rfl rfl k_) ?_
  obtain ⟨_, _, ⟨T2, L2, k2, n2⟩, -, X2, ⟨Lc2, hQ2, l2, y2, z2⟩, st2⟩ := Jvm.LawKit.callS X1 hx (y := (⟨"com/example/sturdy_sign_on/sturdysignon/Validation", "failure", "(Lcom/example/sturdy_sign_on/sturdysignon/Validation$Code;)Lcom/example/sturdy_sign_on/sturdysignon/Validation;"⟩ : MethodName)) hown (mvT hZ (hw _ (List.mem_of_getElem? (i := 8) rfl))) (mvT hZ (hw _ (List.mem_of_getElem? (i := 9) rfl))) (mvT hZ (hw _ (List.mem_of_getElem? (i := 10) rfl))) (mvT hZ (hw _ (List.mem_of_getElem? (i := 11) rfl))) (by decide) (backOf (W := 0) (rm2 l Z a0 hw [] r  h0 n0 Z0 ) hZ (hw _ (List.mem_of_getElem? (i := 11) rfl)) (hw _ (List.mem_of_getElem? (i := 10) rfl)) (by decide) (by decide)) (g := (mkF m 6 #[.val (.int p1), .val (.ref r), .unset] [(.ref r)])) rfl (by rw [hml]; rfl) (argsL := [(.ref r)]) (rest := []) (lenOf pd_3 rfl) rfl (by show 2 * 0 + _ ≤ _; exact Nat.le_of_eq rfl) (hb hby at_6) (fun _ _ => ⟨rfl, e1, (by decide : 0 + 1 ≤ _), (by decide : 0 + 6 ≤ _)⟩)
  dsimp only [Pt.U, Pt.locs, Pt.cells, Pt.slots] at X2 l2 y2 z2 st2 hQ2
  subst l2 y2 z2
  obtain ⟨b2, rfl, Nq2, Kq2, gb2, Eq2, F0q2, F1q2, F2q2, F3q2, F4q2, F5q2⟩ := hQ2
  have N2 := Fr.app N1 Nq2
  refine Go.st (T' := T2) (g' := (mkF m 9 #[.val (.int p1), .val (.ref r), .unset] [(.ref b2)])) st2 ?_
  refine Go.st (T' := T2) (g' := (mkF m 10 #[.val (.int p1), .val (.ref r), .val (.ref b2)] [])) (fun t_ k_ => XS.astoreN X2.here hx rfl (hb hby at_9) rfl rfl (l' := #[.val (.int p1), .val (.ref r), .val (.ref b2)]) rfl k_) ?_
  refine Go.st (T' := T2) (g' := (mkF m 11 #[.val (.int p1), .val (.ref r), .val (.ref b2)] [(.ref b2)])) (fun t_ k_ => XS.aloadN X2.here hx rfl (hb hby at_10) rfl rfl k_) ?_
  refine Go.st (T' := T2) (g' := (mkF m 16 #[.val (.int p1), .val (.ref r), .val (.ref b2)] [])) (fun t_ k_ => XS.ifnonnullYes X2.here hx rfl (pc0 := 11) (pc' := 16) rfl (hb hby at_11) rfl (by decide) (by decide) k_) ?_
  refine Go.st (T' := T2) (g' := (mkF m 17 #[.val (.int p1), .val (.ref r), .val (.ref b2)] [(.ref b2)])) (fun t_ k_ => XS.aloadN X2.here hx rfl (hb hby at_16) rfl rfl k_) ?_
  obtain ⟨cq3, kq3, q3a, q3b, q3c⟩ := isOf hZ rfl Eq2
  obtain ⟨_, _, ⟨T3, L3, k3, n3⟩, -, X3, ⟨Lc3, hQ3, l3, y3, z3⟩, st3⟩ := X2.virtualBack hx (y := (⟨"com/example/sturdy_sign_on/sturdysignon/Validation", "code", "()Lcom/example/sturdy_sign_on/sturdysignon/Validation$Code;"⟩ : MethodName)) (z := (⟨"com/example/sturdy_sign_on/sturdysignon/Validation", "code", "()Lcom/example/sturdy_sign_on/sturdysignon/Validation$Code;"⟩ : MethodName)) hown (mvT hZ (hw _ (List.mem_of_getElem? (i := 37) rfl))) (mvT hZ (hw _ (List.mem_of_getElem? (i := 38) rfl))) (notFace_of_selects (args := #[]) (mvT hZ (hw _ (List.mem_of_getElem? (i := 40) rfl)))) (mvT hZ (hw _ (List.mem_of_getElem? (i := 40) rfl))) (mvT hZ (hw _ (List.mem_of_getElem? (i := 39) rfl))) (by decide) (backOf (W := 0) (rm6 l Z a0 hw [] b2 r T2.heap n0 (Nat.le_trans Z0 Kq2.1) F5q2) hZ (hw _ (List.mem_of_getElem? (i := 41) rfl)) (hw _ (List.mem_of_getElem? (i := 10) rfl)) (by decide) (by decide)) q3a q3c (g := (mkF m 17 #[.val (.int p1), .val (.ref r), .val (.ref b2)] [(.ref b2)])) rfl (by rw [hml]; rfl) (Steps.refl _) (argsL := []) (rest := []) (lenOf pd_4 rfl) rfl (by show 2 * 0 + _ ≤ _; exact Nat.le_of_eq rfl) (hb hby at_17) (fun _ _ => ⟨rfl, rfl, (by decide : 1 + 0 ≤ _), (by decide : 6 + 0 ≤ _)⟩)
  dsimp only [Pt.U, Pt.locs, Pt.cells, Pt.slots] at X3 l3 y3 z3 st3 hQ3
  subst l3 y3 z3
  obtain ⟨rfl, Nq3, e3⟩ := hQ3
  have N3 := Fr.app N2 Nq3
  refine Go.ts (T' := T3) (g' := (mkF m 20 #[.val (.int p1), .val (.ref r), .val (.ref b2)] [(.ref r)])) st3 ?_
  refine Go.st (T' := T3) (g' := (mkF m 21 #[.val (.int p1), .val (.ref r), .val (.ref b2)] [(.ref r), (.ref r)])) (fun t_ k_ => XS.aloadN X3.here hx rfl (hb hby at_20) rfl rfl k_) ?_
  refine Go.st (T' := T3) (g' := (mkF m 24 #[.val (.int p1), .val (.ref r), .val (.ref b2)] [])) (fun t_ k_ => Jvm.RoadKit.acmp (g := (mkF m 21 #[.val (.int p1), .val (.ref r), .val (.ref b2)] [(.ref r), (.ref r)])) X3 hx rfl rfl rfl (pc0 := 21) (pc' := 24) (same := true) rfl (hb hby at_21) rfl (decide_eq_true rfl) (by decide) (by decide) k_) ?_
  refine Go.st (T' := T3) (g' := (mkF m 25 #[.val (.int p1), .val (.ref r), .val (.ref b2)] [(.ref b2)])) (fun t_ k_ => XS.aloadN X3.here hx rfl (hb hby at_24) rfl rfl k_) ?_
  obtain ⟨cq4, kq4, q4a, q4b, q4c⟩ := isOf hZ e3 Eq2
  obtain ⟨_, _, ⟨T4, L4, k4, n4⟩, -, X4, ⟨Lc4, hQ4, l4, y4, z4⟩, st4⟩ := X3.virtualBack hx (y := (⟨"com/example/sturdy_sign_on/sturdysignon/Validation", "succeeded", "()Z"⟩ : MethodName)) (z := (⟨"com/example/sturdy_sign_on/sturdysignon/Validation", "succeeded", "()Z"⟩ : MethodName)) hown (mvT hZ (hw _ (List.mem_of_getElem? (i := 42) rfl))) (mvT hZ (hw _ (List.mem_of_getElem? (i := 43) rfl))) (notFace_of_selects (args := #[]) (mvT hZ (hw _ (List.mem_of_getElem? (i := 45) rfl)))) (mvT hZ (hw _ (List.mem_of_getElem? (i := 45) rfl))) (mvT hZ (hw _ (List.mem_of_getElem? (i := 44) rfl))) (by decide) (backOf (W := 0) (rm7 l Z a0 hw [] b2 r T2.heap n0 (Nat.le_trans Z0 Kq2.1) F5q2) hZ (hw _ (List.mem_of_getElem? (i := 46) rfl)) (hw _ (List.mem_of_getElem? (i := 10) rfl)) (by decide) (by decide)) q4a q4c (g := (mkF m 25 #[.val (.int p1), .val (.ref r), .val (.ref b2)] [(.ref b2)])) rfl (by rw [hml]; rfl) (Steps.refl _) (argsL := []) (rest := []) (lenOf pd_5 rfl) rfl (by show 2 * 0 + _ ≤ _; exact Nat.le_of_eq rfl) (hb hby at_25) (fun _ _ => ⟨rfl, e3, (by decide : 1 + 0 ≤ _), (by decide : 6 + 0 ≤ _)⟩)
  dsimp only [Pt.U, Pt.locs, Pt.cells, Pt.slots] at X4 l4 y4 z4 st4 hQ4
  subst l4 y4 z4
  obtain ⟨rfl, Nq4, e4⟩ := hQ4
  have N4 := Fr.app N3 Nq4
  refine Go.ts (T' := T4) (g' := (mkF m 28 #[.val (.int p1), .val (.ref r), .val (.ref b2)] [(.int (0 : Int32))])) st4 ?_
  refine Go.st (T' := T4) (g' := (mkF m 31 #[.val (.int p1), .val (.ref r), .val (.ref b2)] [])) (fun t_ k_ => XS.ifNo X4.here hx rfl (hb hby at_28) rfl ((if0 _ _).trans (teq (by decide)).2) k_) ?_
  refine Go.st (T' := T4) (g' := (mkF m 32 #[.val (.int p1), .val (.ref r), .val (.ref b2)] [(.ref b2)])) (fun t_ k_ => XS.aloadN X4.here hx rfl (hb hby at_31) rfl rfl k_) ?_
  obtain ⟨cq5, kq5, q5a, q5b, q5c⟩ := isOf hZ e4 Eq2
  obtain ⟨_, _, ⟨T5, L5, k5, n5⟩, -, X5, ⟨Lc5, hQ5, l5, y5, z5⟩, st5⟩ := X4.virtualBack hx (y := (⟨"com/example/sturdy_sign_on/sturdysignon/Validation", "user", "()Ljava/lang/String;"⟩ : MethodName)) (z := (⟨"com/example/sturdy_sign_on/sturdysignon/Validation", "user", "()Ljava/lang/String;"⟩ : MethodName)) hown (mvT hZ (hw _ (List.mem_of_getElem? (i := 47) rfl))) (mvT hZ (hw _ (List.mem_of_getElem? (i := 48) rfl))) (notFace_of_selects (args := #[]) (mvT hZ (hw _ (List.mem_of_getElem? (i := 50) rfl)))) (mvT hZ (hw _ (List.mem_of_getElem? (i := 50) rfl))) (mvT hZ (hw _ (List.mem_of_getElem? (i := 49) rfl))) (by decide) (backOf (W := 0) (rm8 l Z a0 hw [] b2  T2.heap n0 (Nat.le_trans Z0 Kq2.1) F0q2) hZ (hw _ (List.mem_of_getElem? (i := 51) rfl)) (hw _ (List.mem_of_getElem? (i := 10) rfl)) (by decide) (by decide)) q5a q5c (g := (mkF m 32 #[.val (.int p1), .val (.ref r), .val (.ref b2)] [(.ref b2)])) rfl (by rw [hml]; rfl) (Steps.refl _) (argsL := []) (rest := []) (lenOf pd_6 rfl) rfl (by show 2 * 0 + _ ≤ _; exact Nat.le_of_eq rfl) (hb hby at_32) (fun _ _ => ⟨rfl, e4, (by decide : 1 + 0 ≤ _), (by decide : 6 + 0 ≤ _)⟩)
  dsimp only [Pt.U, Pt.locs, Pt.cells, Pt.slots] at X5 l5 y5 z5 st5 hQ5
  subst l5 y5 z5
  obtain ⟨rfl, Nq5, e5⟩ := hQ5
  have N5 := Fr.app N4 Nq5
  refine Go.ts (T' := T5) (g' := (mkF m 35 #[.val (.int p1), .val (.ref r), .val (.ref b2)] [.null])) st5 ?_
  refine Go.st (T' := T5) (g' := (mkF m 38 #[.val (.int p1), .val (.ref r), .val (.ref b2)] [])) (fun t_ k_ => XS.ifnonnullNo X5.here hx rfl (hb hby at_35) rfl k_) ?_
  refine Go.st (T' := T5) (g' := (mkF m 39 #[.val (.int p1), .val (.ref r), .val (.ref b2)] [(.ref b2)])) (fun t_ k_ => XS.aloadN X5.here hx rfl (hb hby at_38) rfl rfl k_) ?_
  obtain ⟨cq6, kq6, q6a, q6b, q6c⟩ := isOf hZ e5 Eq2
  obtain ⟨_, _, ⟨T6, L6, k6, n6⟩, -, X6, ⟨Lc6, hQ6, l6, y6, z6⟩, st6⟩ := X5.virtualBack hx (y := (⟨"com/example/sturdy_sign_on/sturdysignon/Validation", "signIn", "()Lcom/example/sturdy_sign_on/sturdysignon/Attributes;"⟩ : MethodName)) (z := (⟨"com/example/sturdy_sign_on/sturdysignon/Validation", "signIn", "()Lcom/example/sturdy_sign_on/sturdysignon/Attributes;"⟩ : MethodName)) hown (mvT hZ (hw _ (List.mem_of_getElem? (i := 52) rfl))) (mvT hZ (hw _ (List.mem_of_getElem? (i := 53) rfl))) (notFace_of_selects (args := #[]) (mvT hZ (hw _ (List.mem_of_getElem? (i := 55) rfl)))) (mvT hZ (hw _ (List.mem_of_getElem? (i := 55) rfl))) (mvT hZ (hw _ (List.mem_of_getElem? (i := 54) rfl))) (by decide) (backOf (W := 0) (rm9 l Z a0 hw [] b2  T2.heap n0 (Nat.le_trans Z0 Kq2.1) F1q2) hZ (hw _ (List.mem_of_getElem? (i := 56) rfl)) (hw _ (List.mem_of_getElem? (i := 10) rfl)) (by decide) (by decide)) q6a q6c (g := (mkF m 39 #[.val (.int p1), .val (.ref r), .val (.ref b2)] [(.ref b2)])) rfl (by rw [hml]; rfl) (Steps.refl _) (argsL := []) (rest := []) (lenOf pd_7 rfl) rfl (by show 2 * 0 + _ ≤ _; exact Nat.le_of_eq rfl) (hb hby at_39) (fun _ _ => ⟨rfl, e5, (by decide : 1 + 0 ≤ _), (by decide : 6 + 0 ≤ _)⟩)
  dsimp only [Pt.U, Pt.locs, Pt.cells, Pt.slots] at X6 l6 y6 z6 st6 hQ6
  subst l6 y6 z6
  obtain ⟨rfl, Nq6, e6⟩ := hQ6
  have N6 := Fr.app N5 Nq6
  refine Go.ts (T' := T6) (g' := (mkF m 42 #[.val (.int p1), .val (.ref r), .val (.ref b2)] [.null])) st6 ?_
  refine Go.st (T' := T6) (g' := (mkF m 45 #[.val (.int p1), .val (.ref r), .val (.ref b2)] [])) (fun t_ k_ => XS.ifnonnullNo X6.here hx rfl (hb hby at_42) rfl k_) ?_
  refine Go.st (T' := T6) (g' := (mkF m 46 #[.val (.int p1), .val (.ref r), .val (.ref b2)] [(.ref b2)])) (fun t_ k_ => XS.aloadN X6.here hx rfl (hb hby at_45) rfl rfl k_) ?_
  obtain ⟨cq7, kq7, q7a, q7b, q7c⟩ := isOf hZ e6 Eq2
  obtain ⟨_, _, ⟨T7, L7, k7, n7⟩, -, X7, ⟨Lc7, hQ7, l7, y7, z7⟩, st7⟩ := X6.virtualBack hx (y := (⟨"com/example/sturdy_sign_on/sturdysignon/Validation", "attributes", "()Lcom/example/sturdy_sign_on/sturdysignon/Attributes;"⟩ : MethodName)) (z := (⟨"com/example/sturdy_sign_on/sturdysignon/Validation", "attributes", "()Lcom/example/sturdy_sign_on/sturdysignon/Attributes;"⟩ : MethodName)) hown (mvT hZ (hw _ (List.mem_of_getElem? (i := 57) rfl))) (mvT hZ (hw _ (List.mem_of_getElem? (i := 58) rfl))) (notFace_of_selects (args := #[]) (mvT hZ (hw _ (List.mem_of_getElem? (i := 60) rfl)))) (mvT hZ (hw _ (List.mem_of_getElem? (i := 60) rfl))) (mvT hZ (hw _ (List.mem_of_getElem? (i := 59) rfl))) (by decide) (backOf (W := 0) (rm10 l Z a0 hw [] b2  T2.heap n0 (Nat.le_trans Z0 Kq2.1) F2q2) hZ (hw _ (List.mem_of_getElem? (i := 61) rfl)) (hw _ (List.mem_of_getElem? (i := 10) rfl)) (by decide) (by decide)) q7a q7c (g := (mkF m 46 #[.val (.int p1), .val (.ref r), .val (.ref b2)] [(.ref b2)])) rfl (by rw [hml]; rfl) (Steps.refl _) (argsL := []) (rest := []) (lenOf pd_7 rfl) rfl (by show 2 * 0 + _ ≤ _; exact Nat.le_of_eq rfl) (hb hby at_46) (fun _ _ => ⟨rfl, e6, (by decide : 1 + 0 ≤ _), (by decide : 6 + 0 ≤ _)⟩)
  dsimp only [Pt.U, Pt.locs, Pt.cells, Pt.slots] at X7 l7 y7 z7 st7 hQ7
  subst l7 y7 z7
  obtain ⟨rfl, Nq7, e7⟩ := hQ7
  have N7 := Fr.app N6 Nq7
  refine Go.ts (T' := T7) (g' := (mkF m 49 #[.val (.int p1), .val (.ref r), .val (.ref b2)] [.null])) st7 ?_
  refine Go.st (T' := T7) (g' := (mkF m 52 #[.val (.int p1), .val (.ref r), .val (.ref b2)] [])) (fun t_ k_ => XS.ifnonnullNo X7.here hx rfl (hb hby at_49) rfl k_) ?_
  refine Go.st (T' := T7) (g' := (mkF m 53 #[.val (.int p1), .val (.ref r), .val (.ref b2)] [(.ref b2)])) (fun t_ k_ => XS.aloadN X7.here hx rfl (hb hby at_52) rfl rfl k_) ?_
  obtain ⟨cq8, kq8, q8a, q8b, q8c⟩ := isOf hZ e7 Eq2
  obtain ⟨_, _, ⟨T8, L8, k8, n8⟩, -, X8, ⟨Lc8, hQ8, l8, y8, z8⟩, st8⟩ := X7.virtualBack hx (y := (⟨"com/example/sturdy_sign_on/sturdysignon/Validation", "proxyGrantingTicket", "()Ljava/lang/String;"⟩ : MethodName)) (z := (⟨"com/example/sturdy_sign_on/sturdysignon/Validation", "proxyGrantingTicket", "()Ljava/lang/String;"⟩ : MethodName)) hown (mvT hZ (hw _ (List.mem_of_getElem? (i := 62) rfl))) (mvT hZ (hw _ (List.mem_of_getElem? (i := 63) rfl))) (notFace_of_selects (args := #[]) (mvT hZ (hw _ (List.mem_of_getElem? (i := 65) rfl)))) (mvT hZ (hw _ (List.mem_of_getElem? (i := 65) rfl))) (mvT hZ (hw _ (List.mem_of_getElem? (i := 64) rfl))) (by decide) (backOf (W := 0) (rm11 l Z a0 hw [] b2  T2.heap n0 (Nat.le_trans Z0 Kq2.1) F3q2) hZ (hw _ (List.mem_of_getElem? (i := 66) rfl)) (hw _ (List.mem_of_getElem? (i := 10) rfl)) (by decide) (by decide)) q8a q8c (g := (mkF m 53 #[.val (.int p1), .val (.ref r), .val (.ref b2)] [(.ref b2)])) rfl (by rw [hml]; rfl) (Steps.refl _) (argsL := []) (rest := []) (lenOf pd_6 rfl) rfl (by show 2 * 0 + _ ≤ _; exact Nat.le_of_eq rfl) (hb hby at_53) (fun _ _ => ⟨rfl, e7, (by decide : 1 + 0 ≤ _), (by decide : 6 + 0 ≤ _)⟩)
  dsimp only [Pt.U, Pt.locs, Pt.cells, Pt.slots] at X8 l8 y8 z8 st8 hQ8
  subst l8 y8 z8
  obtain ⟨rfl, Nq8, e8⟩ := hQ8
  have N8 := Fr.app N7 Nq8
  refine Go.ts (T' := T8) (g' := (mkF m 56 #[.val (.int p1), .val (.ref r), .val (.ref b2)] [.null])) st8 ?_
  refine Go.st (T' := T8) (g' := (mkF m 59 #[.val (.int p1), .val (.ref r), .val (.ref b2)] [])) (fun t_ k_ => XS.ifnonnullNo X8.here hx rfl (hb hby at_56) rfl k_) ?_
  refine Go.st (T' := T8) (g' := (mkF m 60 #[.val (.int p1), .val (.ref r), .val (.ref b2)] [(.ref b2)])) (fun t_ k_ => XS.aloadN X8.here hx rfl (hb hby at_59) rfl rfl k_) ?_
  obtain ⟨cq9, kq9, q9a, q9b, q9c⟩ := isOf hZ e8 Eq2
  obtain ⟨_, _, ⟨T9, L9, k9, n9⟩, -, X9, ⟨Lc9, hQ9, l9, y9, z9⟩, st9⟩ := X8.virtualBack hx (y := (⟨"com/example/sturdy_sign_on/sturdysignon/Validation", "proxies", "()Ljava/util/List;"⟩ : MethodName)) (z := (⟨"com/example/sturdy_sign_on/sturdysignon/Validation", "proxies", "()Ljava/util/List;"⟩ : MethodName)) hown (mvT hZ (hw _ (List.mem_of_getElem? (i := 67) rfl))) (mvT hZ (hw _ (List.mem_of_getElem? (i := 68) rfl))) (notFace_of_selects (args := #[]) (mvT hZ (hw _ (List.mem_of_getElem? (i := 70) rfl)))) (mvT hZ (hw _ (List.mem_of_getElem? (i := 70) rfl))) (mvT hZ (hw _ (List.mem_of_getElem? (i := 69) rfl))) (by decide) (backOf (W := 0) (rm12 l Z a0 hw [] b2  T2.heap n0 (Nat.le_trans Z0 Kq2.1) F4q2) hZ (hw _ (List.mem_of_getElem? (i := 71) rfl)) (hw _ (List.mem_of_getElem? (i := 10) rfl)) (by decide) (by decide)) q9a q9c (g := (mkF m 60 #[.val (.int p1), .val (.ref r), .val (.ref b2)] [(.ref b2)])) rfl (by rw [hml]; rfl) (Steps.refl _) (argsL := []) (rest := []) (lenOf pd_8 rfl) rfl (by show 2 * 0 + _ ≤ _; exact Nat.le_of_eq rfl) (hb hby at_60) (fun _ _ => ⟨rfl, e8, (by decide : 1 + 0 ≤ _), (by decide : 6 + 0 ≤ _)⟩)
  dsimp only [Pt.U, Pt.locs, Pt.cells, Pt.slots] at X9 l9 y9 z9 st9 hQ9
  subst l9 y9 z9
  obtain ⟨rfl, Nq9, e9⟩ := hQ9
  have N9 := Fr.app N8 Nq9
  refine Go.ts (T' := T9) (g' := (mkF m 63 #[.val (.int p1), .val (.ref r), .val (.ref b2)] [.null])) st9 ?_
  refine Go.st (T' := T9) (g' := (mkF m 66 #[.val (.int p1), .val (.ref r), .val (.ref b2)] [])) (fun t_ k_ => XS.ifnonnullNo X9.here hx rfl (hb hby at_63) rfl k_) ?_
  refine Go.st (T' := T9) (g' := (mkF m 67 #[.val (.int p1), .val (.ref r), .val (.ref b2)] [(.int (1 : Int32))])) (fun t_ k_ => XS.iconst X9.here hx rfl (hb hby at_66) k_) ?_
  refine Go.st (T' := T9) (g' := (mkF m 71 #[.val (.int p1), .val (.ref r), .val (.ref b2)] [(.int (1 : Int32))])) (fun t_ k_ => XS.goto X9.here hx rfl (pc0 := 67) (pc' := 71) rfl (hb hby at_67) (by decide) (by decide) k_) ?_
  refine Go.retB X9 hx Bd.returns hlk (t := .boolean) (by simp) (hb hby at_71) (by decide) (by decide) ?_
  rw [e9]
  exact ⟨rfl, N9⟩
set_option maxRecDepth 65536 in
set_option maxHeartbeats 40000000 in
theorem comes_1 {Post : Tables → Env → Array Value → State → Outcome → State → Prop} (hpost : ∀ tb e args s v u, (limb_1_1.after args s (.returned v) u = true ∧ limb_1_2.after args s (.returned v) u = true ∧ True) → FrameEnd s (.returned v) u (Jvm.fieldLocs frame_1_writes args s ++ Jvm.arrayLocs frame_1_arrays args s ++ Jvm.staticLocs frame_1_statics s) 16 128 → Post tb e args s (.returned v) u) :
    ArmFor flags0 classFile x code maxLocals ret World_1 tables_1 room_1 Calls_1 rest_1 Pre_1 Post := by
  intro l hfl _ _ p e ha hc hk s m args below hf hA hF happ hP
  obtain ⟨hcalls, hrest, hpre⟩ := hP
  obtain ⟨-, -, -, hnamed, -, -, -, hat⟩ := (Spec.applies_iff hf).mp happ
  obtain ⟨hg, hn⟩ := and_e (Cond.before_iff.mp (show (Jvm.Cond.and given_1 narrow_1).before args s = true from hpre))
  obtain ⟨ga0, gar0⟩ := and_e hg
  obtain ⟨v0, rfl⟩ : ∃ v0 : Value, args = #[v0] := by
    have hs : args.size = 1 := by simpa [Cond.value, given_1] using ga0
    obtain ⟨L⟩ := args
    match L, hs with
    | [v0], _ => exact ⟨v0, rfl⟩
  have hw := fun d (hd : d ∈ tables_1) => atoms_spec (ws := Jvm.Cond.code x code maxLocals ret :: tables_1) hat d (List.mem_cons_of_mem _ hd)
  have hfit : Fit s := fun {y c} hc i hi => by
    obtain ⟨ha, rfl⟩ := Array.getElem?_eq_some_iff.mp hc
    have q := List.all_eq_true.mp ((Array.all_eq_true_iff_forall_mem.mp hF) _ (Array.getElem_mem ha)) i (List.mem_range.mpr hi)
    simpa [Array.getElem?_eq_getElem hi] using q
  obtain ⟨i0, ei0⟩ := is_v gar0
  obtain rfl : v0 = (.int i0) := Option.some.inj ei0
  obtain ⟨na0, nar0⟩ := and_e hn
  obtain ⟨na1, nar1⟩ := and_e nar0
  obtain ⟨na2, nar2⟩ := and_e nar1
  obtain ⟨na3, nar3⟩ := and_e nar2
  obtain ⟨na4, nar4⟩ := and_e nar3
  obtain ⟨w_INVALID_REQUEST, ev_INVALID_REQUEST⟩ := exa_v na0
  have S_INVALID_REQUEST := Sta.start ev_INVALID_REQUEST (Or.inr ⟨(hw _ (List.mem_of_getElem? (i := 6) rfl)), (hw _ (List.mem_of_getElem? (i := 7) rfl))⟩)
  have E_INVALID_REQUEST := exa_at ev_INVALID_REQUEST na0
  obtain ⟨w_INVALID_SERVICE, ev_INVALID_SERVICE⟩ := exa_v na1
  have S_INVALID_SERVICE := Sta.start ev_INVALID_SERVICE (Or.inr ⟨(hw _ (List.mem_of_getElem? (i := 6) rfl)), (hw _ (List.mem_of_getElem? (i := 73) rfl))⟩)
  have E_INVALID_SERVICE := exa_at ev_INVALID_SERVICE na1
  obtain ⟨w_PROXY_TICKET, ev_PROXY_TICKET⟩ := exa_v na2
  have S_PROXY_TICKET := Sta.start ev_PROXY_TICKET (Or.inr ⟨(hw _ (List.mem_of_getElem? (i := 6) rfl)), (hw _ (List.mem_of_getElem? (i := 75) rfl))⟩)
  have E_PROXY_TICKET := exa_at ev_PROXY_TICKET na2
  obtain ⟨w_INVALID_TICKET, ev_INVALID_TICKET⟩ := exa_v na3
  have S_INVALID_TICKET := Sta.start ev_INVALID_TICKET (Or.inr ⟨(hw _ (List.mem_of_getElem? (i := 6) rfl)), (hw _ (List.mem_of_getElem? (i := 77) rfl))⟩)
  have E_INVALID_TICKET := exa_at ev_INVALID_TICKET na3
  obtain ⟨w_INVALID_PROXY_CALLBACK, ev_INVALID_PROXY_CALLBACK⟩ := exa_v na4
  have S_INVALID_PROXY_CALLBACK := Sta.start ev_INVALID_PROXY_CALLBACK (Or.inr ⟨(hw _ (List.mem_of_getElem? (i := 6) rfl)), (hw _ (List.mem_of_getElem? (i := 79) rfl))⟩)
  have E_INVALID_PROXY_CALLBACK := exa_at ev_INVALID_PROXY_CALLBACK na4
  obtain ⟨w_UNAUTHORIZED_SERVICE_PROXY, ev_UNAUTHORIZED_SERVICE_PROXY⟩ := exa_v nar4
  have S_UNAUTHORIZED_SERVICE_PROXY := Sta.start ev_UNAUTHORIZED_SERVICE_PROXY (Or.inr ⟨(hw _ (List.mem_of_getElem? (i := 6) rfl)), (hw _ (List.mem_of_getElem? (i := 81) rfl))⟩)
  have E_UNAUTHORIZED_SERVICE_PROXY := exa_at ev_UNAUTHORIZED_SERVICE_PROXY nar4
  obtain ⟨n, o, h1, h2, h3, _, L, rfl, ⟨rfl, N⟩, hq⟩ := rm0 l s _ hw tables_1 i0 w_INVALID_REQUEST w_INVALID_TICKET w_PROXY_TICKET w_INVALID_SERVICE w_UNAUTHORIZED_SERVICE_PROXY w_INVALID_PROXY_CALLBACK s.heap s.heap.size (Nat.le_refl _) S_INVALID_REQUEST S_INVALID_TICKET S_PROXY_TICKET S_INVALID_SERVICE S_UNAUTHORIZED_SERVICE_PROXY S_INVALID_PROXY_CALLBACK p e ha hc hk s m _ below hf ((Spec.applies_iff_loose hf).mp happ).1 ⟨rfl, State.Warmed39.refl s, rfl⟩ trivial
  refine ⟨n, _, h1, h2, h3, hpost _ _ _ _ _ _ ⟨Cond.after_iff.mpr rfl, Cond.after_iff.mpr (eq_i res_at (Term.int_eval (1)) rfl), trivial⟩ ⟨hq.1, hq.2.1, (hq.2.2.sift fun y hy => Or.inr (N y hy)).mono (by decide) (by decide)⟩⟩
theorem main_1_1 : Claimed_1_1 := comes_1 fun _ _ _ _ _ _ h hF => ⟨h.1, hF⟩
theorem main_1_2 : Claimed_1_2 := comes_1 fun _ _ _ _ _ _ h hF => ⟨h.2.1, hF⟩
end Jvm.Pilot.@@N@@
namespace Jvm.Pilot.@@N@@
open Jvm Jvm.ClassFile Sem Op Lib Jvm.Free Jvm.Stand Jvm.Pilot.@@N@@.Jvm.D
/-! MADE BY PROGRAM (witnessworld.py) out of the Statement's table words and the real class files: 14 classes; the members and pool entries that the words name. The judged class is class 1, her method 2. -/
namespace start1
open Jvm.ClassFile
def u (s : String) : CpInfo := .utf8 (stringToUtf16 s)
/-- a pool by its gaps: so many unusable entries, then the entry; so many at the end -/
def gap : Nat → List CpInfo → List CpInfo
  | 0, r => r
  | n + 1, r => .unusable :: gap n r
def poolList (es : List (Nat × CpInfo)) (last : Nat) : List CpInfo := es.foldr (fun e r => gap e.1 (e.2 :: r)) (gap last [])
def pool (es : List (Nat × CpInfo)) (last : Nat) : Array CpInfo := ⟨poolList es last⟩
def fileOf (pool : Array CpInfo) (this : Nat) (attrs : Array Attribute := #[]) (ms : Array MethodInfo := #[]) (fl : Nat := 33) (sup : Nat := 0) (ifs : Array Nat := #[]) (fds : Array FieldInfo := #[]) : ClassFile where
  minorVersion := 0
  majorVersion := 65
  constantPool := pool
  accessFlags := fl
  thisClass := this
  superClass := sup
  interfaces := ifs
  fields := fds
  methods := ms
  attributes := attrs
def plain (name : String) (sup : Option ClassId) : Class where
  name := name
  kind := .ordinary
  loader := none
  accessFlags := 33
  super := sup
  interfaces := #[]
  cf := none
  fields := #[]
  methods := #[]
  instanceTypes := #[]
  staticTypes := #[]
  resolved := #[]
  callSites := []
  init := .initialized
  statics := none
  mirror := none

def pool0 : Array CpInfo := pool [(5, u "<init>"), (0, u "()V"), (1, .class_ 10), (1, u "java/lang/Object")] 113

def k0c0 : Code := { maxStack := 0, maxLocals := 1, code := object_method_1_code, exceptionTable := #[], attributes := #[] }
def k0m0 : Method := { name := "<init>", desc := "()V", sig := { parameters := [], returnType := none }, accessFlags := 1, code := some k0c0 }
/-- java/lang/Object -/
def k0 : Class := { plain "java/lang/Object" none with
  accessFlags := 33
  interfaces := #[]
  cf := some (fileOf pool0 8 #[] #[{ accessFlags := 1, nameIndex := 5, descriptorIndex := 6, attributes := #[] }] 33 0 #[] #[])
  fields := #[]
  methods := #[k0m0]
  instanceTypes := #[]
  staticTypes := #[]
  resolved := Array.replicate 124 none
  statics := none }

def pool1 : Array CpInfo := pool [(2, .class_ 4), (1, u "java/lang/Object"), (0, u "<init>"), (0, u "()V"), (0, .integer 2147483647), (0, .fieldref 9 10), (0, .class_ 11), (0, .nameAndType 12 13), (0, u "com/example/sturdy_sign_on/sturdysignon/Validation$Code"), (0, u "INVALID_REQUEST"), (0, u "Lcom/example/sturdy_sign_on/sturdysignon/Validation$Code;"), (0, .fieldref 9 15), (0, .nameAndType 16 13), (0, u "INVALID_TICKET"), (0, .fieldref 9 18), (0, .nameAndType 19 13), (0, u "PROXY_TICKET"), (0, .fieldref 9 21), (0, .nameAndType 22 13), (0, u "INVALID_SERVICE"), (0, .fieldref 9 24), (0, .nameAndType 25 13), (0, u "UNAUTHORIZED_SERVICE_PROXY"), (0, .fieldref 9 27), (0, .nameAndType 28 13), (0, u "INVALID_PROXY_CALLBACK"), (0, .methodref 30 31), (0, .class_ 32), (0, .nameAndType 33 34), (0, u "com/example/sturdy_sign_on/sturdysignon/ValidationFailurePinLaw"), (0, u "pick"), (0, u "(I)Lcom/example/sturdy_sign_on/sturdysignon/Validation$Code;"), (0, .methodref 36 37), (0, .class_ 38), (0, .nameAndType 39 40), (0, u "com/example/sturdy_sign_on/sturdysignon/Validation"), (0, u "failure"), (0, u "(Lcom/example/sturdy_sign_on/sturdysignon/Validation$Code;)Lcom/example/sturdy_sign_on/sturdysignon/Validation;"), (0, .methodref 36 42), (0, .nameAndType 43 44), (0, u "code"), (0, u "()Lcom/example/sturdy_sign_on/sturdysignon/Validation$Code;"), (0, .methodref 36 46), (0, .nameAndType 47 48), (0, u "succeeded"), (0, u "()Z"), (0, .methodref 36 50), (0, .nameAndType 51 52), (0, u "user"), (0, u "()Ljava/lang/String;"), (0, .methodref 36 54), (0, .nameAndType 55 56), (0, u "signIn"), (0, u "()Lcom/example/sturdy_sign_on/sturdysignon/Attributes;"), (0, .methodref 36 58), (0, .nameAndType 59 56), (0, u "attributes"), (0, .methodref 36 61), (0, .nameAndType 62 52), (0, u "proxyGrantingTicket"), (0, .methodref 36 64), (0, .nameAndType 65 66), (0, u "proxies"), (0, u "()Ljava/util/List;"), (3, u "law"), (0, u "(I)Z")] 3

def k1m0 : Method := { name := "<init>", desc := "()V", sig := { parameters := [], returnType := none }, accessFlags := 2, code := none }
def k1c1 : Code := { maxStack := 2, maxLocals := 2, code := method_2_code, exceptionTable := #[], attributes := #[] }
def k1m1 : Method := { name := "pick", desc := "(I)Lcom/example/sturdy_sign_on/sturdysignon/Validation$Code;", sig := { parameters := [.int], returnType := some (.object "com/example/sturdy_sign_on/sturdysignon/Validation$Code") }, accessFlags := 10, code := some k1c1 }
def k1c2 : Code := { maxStack := 2, maxLocals := 3, code := code, exceptionTable := #[], attributes := #[] }
def k1m2 : Method := { name := "law", desc := "(I)Z", sig := { parameters := [.int], returnType := some .boolean }, accessFlags := 9, code := some k1c2 }
/-- com/example/sturdy_sign_on/sturdysignon/ValidationFailurePinLaw -/
def k1 : Class := { plain "com/example/sturdy_sign_on/sturdysignon/ValidationFailurePinLaw" (some 0) with
  accessFlags := 49
  interfaces := #[]
  cf := some (fileOf pool1 30 #[] #[{ accessFlags := 2, nameIndex := 5, descriptorIndex := 6, attributes := #[] }, { accessFlags := 10, nameIndex := 33, descriptorIndex := 34, attributes := #[] }, { accessFlags := 9, nameIndex := 70, descriptorIndex := 71, attributes := #[] }] 49 2 #[] #[])
  fields := #[]
  methods := #[k1m0, k1m1, k1m2]
  instanceTypes := #[]
  staticTypes := #[]
  resolved := Array.replicate 75 none
  statics := none }

def pool2 : Array CpInfo := pool [(1, .class_ 2), (0, u "java/lang/constant/Constable"), (0, .class_ 4), (0, u "java/lang/Object")] 6

/-- java/lang/constant/Constable -/
def k2 : Class := { plain "java/lang/constant/Constable" (some 0) with
  accessFlags := 1537
  interfaces := #[]
  cf := some (fileOf pool2 1 #[] #[] 1537 3 #[] #[])
  fields := #[]
  methods := #[]
  instanceTypes := #[]
  staticTypes := #[]
  resolved := Array.replicate 11 none
  statics := none }

def pool3 : Array CpInfo := pool [(1, .class_ 2), (0, u "java/lang/Comparable"), (0, .class_ 4), (0, u "java/lang/Object")] 7

/-- java/lang/Comparable -/
def k3 : Class := { plain "java/lang/Comparable" (some 0) with
  accessFlags := 1537
  interfaces := #[]
  cf := some (fileOf pool3 1 #[] #[] 1537 3 #[] #[])
  fields := #[]
  methods := #[]
  instanceTypes := #[]
  staticTypes := #[]
  resolved := Array.replicate 12 none
  statics := none }

def pool4 : Array CpInfo := pool [(1, .class_ 2), (0, u "java/io/Serializable"), (0, .class_ 4), (0, u "java/lang/Object")] 2

/-- java/io/Serializable -/
def k4 : Class := { plain "java/io/Serializable" (some 0) with
  accessFlags := 1537
  interfaces := #[]
  cf := some (fileOf pool4 1 #[] #[] 1537 3 #[] #[])
  fields := #[]
  methods := #[]
  instanceTypes := #[]
  staticTypes := #[]
  resolved := Array.replicate 7 none
  statics := none }

def pool5 : Array CpInfo := pool [(2, .class_ 4), (1, u "java/lang/Enum"), (0, u "name"), (0, u "Ljava/lang/String;"), (2, u "ordinal"), (0, u "I"), (1, .class_ 14), (1, u "java/lang/Object"), (4, u "hash"), (86, .class_ 108), (1, u "java/lang/Enum$EnumDesc"), (2, .class_ 112), (0, u "java/lang/constant/Constable"), (0, .class_ 114), (0, u "java/lang/Comparable"), (0, .class_ 116), (0, u "java/io/Serializable")] 87

/-- java/lang/Enum -/
def k5 : Class := { plain "java/lang/Enum" (some 0) with
  accessFlags := 1057
  interfaces := #[2, 3, 4]
  cf := some (fileOf pool5 2 #[.nestMembers #[106]] #[] 1057 12 #[111, 113, 115] #[{ accessFlags := 18, nameIndex := 5, descriptorIndex := 6, attributes := #[] }, { accessFlags := 18, nameIndex := 9, descriptorIndex := 10, attributes := #[] }, { accessFlags := 2, nameIndex := 19, descriptorIndex := 10, attributes := #[] }])
  fields := #[{ name := "name", type := (.object "java/lang/String"), accessFlags := 18, slot := 0, constantValue := 0 }, { name := "ordinal", type := .int, accessFlags := 18, slot := 1, constantValue := 0 }, { name := "hash", type := .int, accessFlags := 2, slot := 2, constantValue := 0 }]
  methods := #[]
  instanceTypes := #[(.object "java/lang/String"), .int, .int]
  staticTypes := #[]
  resolved := Array.replicate 204 none
  statics := none }

def pool6 : Array CpInfo := pool [(1, .class_ 2), (0, u "com/example/sturdy_sign_on/sturdysignon/Validation$Code"), (2, u "INVALID_REQUEST"), (0, u "Lcom/example/sturdy_sign_on/sturdysignon/Validation$Code;"), (2, u "INVALID_TICKET"), (2, u "PROXY_TICKET"), (2, u "INVALID_SERVICE"), (2, u "UNAUTHORIZED_SERVICE_PROXY"), (2, u "INVALID_PROXY_CALLBACK"), (2, u "$VALUES"), (0, u "[Lcom/example/sturdy_sign_on/sturdysignon/Validation$Code;"), (6, .class_ 34), (1, u "java/lang/Enum"), (12, u "protocolCode"), (0, u "Ljava/lang/String;"), (2, u "reason"), (42, .class_ 95), (0, u "com/example/sturdy_sign_on/sturdysignon/Validation")] 1

/-- com/example/sturdy_sign_on/sturdysignon/Validation$Code -/
def k6 : Class := { plain "com/example/sturdy_sign_on/sturdysignon/Validation$Code" (some 5) with
  accessFlags := 16432
  interfaces := #[]
  cf := some (fileOf pool6 1 #[.nestHost 94] #[] 16432 32 #[] #[{ accessFlags := 16409, nameIndex := 5, descriptorIndex := 6, attributes := #[] }, { accessFlags := 16409, nameIndex := 9, descriptorIndex := 6, attributes := #[] }, { accessFlags := 16409, nameIndex := 12, descriptorIndex := 6, attributes := #[] }, { accessFlags := 16409, nameIndex := 15, descriptorIndex := 6, attributes := #[] }, { accessFlags := 16409, nameIndex := 18, descriptorIndex := 6, attributes := #[] }, { accessFlags := 16409, nameIndex := 21, descriptorIndex := 6, attributes := #[] }, { accessFlags := 18, nameIndex := 47, descriptorIndex := 48, attributes := #[] }, { accessFlags := 18, nameIndex := 51, descriptorIndex := 48, attributes := #[] }, { accessFlags := 4122, nameIndex := 24, descriptorIndex := 25, attributes := #[] }])
  fields := #[{ name := "INVALID_REQUEST", type := (.object "com/example/sturdy_sign_on/sturdysignon/Validation$Code"), accessFlags := 16409, slot := 0, constantValue := 0 }, { name := "INVALID_TICKET", type := (.object "com/example/sturdy_sign_on/sturdysignon/Validation$Code"), accessFlags := 16409, slot := 1, constantValue := 0 }, { name := "PROXY_TICKET", type := (.object "com/example/sturdy_sign_on/sturdysignon/Validation$Code"), accessFlags := 16409, slot := 2, constantValue := 0 }, { name := "INVALID_SERVICE", type := (.object "com/example/sturdy_sign_on/sturdysignon/Validation$Code"), accessFlags := 16409, slot := 3, constantValue := 0 }, { name := "UNAUTHORIZED_SERVICE_PROXY", type := (.object "com/example/sturdy_sign_on/sturdysignon/Validation$Code"), accessFlags := 16409, slot := 4, constantValue := 0 }, { name := "INVALID_PROXY_CALLBACK", type := (.object "com/example/sturdy_sign_on/sturdysignon/Validation$Code"), accessFlags := 16409, slot := 5, constantValue := 0 }, { name := "protocolCode", type := (.object "java/lang/String"), accessFlags := 18, slot := 3, constantValue := 0 }, { name := "reason", type := (.object "java/lang/String"), accessFlags := 18, slot := 4, constantValue := 0 }, { name := "$VALUES", type := (.array (.object "com/example/sturdy_sign_on/sturdysignon/Validation$Code")), accessFlags := 4122, slot := 6, constantValue := 0 }]
  methods := #[]
  instanceTypes := #[(.object "java/lang/String"), .int, .int, (.object "java/lang/String"), (.object "java/lang/String")]
  staticTypes := #[(.object "com/example/sturdy_sign_on/sturdysignon/Validation$Code"), (.object "com/example/sturdy_sign_on/sturdysignon/Validation$Code"), (.object "com/example/sturdy_sign_on/sturdysignon/Validation$Code"), (.object "com/example/sturdy_sign_on/sturdysignon/Validation$Code"), (.object "com/example/sturdy_sign_on/sturdysignon/Validation$Code"), (.object "com/example/sturdy_sign_on/sturdysignon/Validation$Code"), (.array (.object "com/example/sturdy_sign_on/sturdysignon/Validation$Code"))]
  resolved := Array.replicate 97 none
  statics := some 0 }

def pool7 : Array CpInfo := pool [(1, .methodref 2 3), (0, .class_ 4), (0, .nameAndType 5 6), (0, u "java/lang/Object"), (0, u "<init>"), (0, u "()V"), (0, .class_ 8), (0, u "java/lang/Record")] 13

def k7c0 : Code := { maxStack := 1, maxLocals := 1, code := jdk_30_method_1_code, exceptionTable := #[], attributes := #[] }
def k7m0 : Method := { name := "<init>", desc := "()V", sig := { parameters := [], returnType := none }, accessFlags := 4, code := some k7c0 }
/-- java/lang/Record -/
def k7 : Class := { plain "java/lang/Record" (some 0) with
  accessFlags := 1057
  interfaces := #[]
  cf := some (fileOf pool7 7 #[] #[{ accessFlags := 4, nameIndex := 5, descriptorIndex := 6, attributes := #[] }] 1057 2 #[] #[])
  fields := #[]
  methods := #[k7m0]
  instanceTypes := #[]
  staticTypes := #[]
  resolved := Array.replicate 22 none
  statics := none }

def pool8 : Array CpInfo := pool [(1, .methodref 2 3), (0, .class_ 4), (0, .nameAndType 5 6), (0, u "java/lang/Record"), (0, u "<init>"), (0, u "()V"), (0, .fieldref 8 9), (0, .class_ 10), (0, .nameAndType 11 12), (0, u "com/example/sturdy_sign_on/sturdysignon/Validation"), (0, u "user"), (0, u "Ljava/lang/String;"), (0, .fieldref 8 14), (0, .nameAndType 15 16), (0, u "signIn"), (0, u "Lcom/example/sturdy_sign_on/sturdysignon/Attributes;"), (0, .fieldref 8 18), (0, .nameAndType 19 16), (0, u "attributes"), (0, .fieldref 8 21), (0, .nameAndType 22 12), (0, u "proxyGrantingTicket"), (0, .fieldref 8 24), (0, .nameAndType 25 26), (0, u "proxies"), (0, u "Ljava/util/List;"), (0, .fieldref 8 28), (0, .nameAndType 29 30), (0, u "code"), (0, u "Lcom/example/sturdy_sign_on/sturdysignon/Validation$Code;"), (9, .methodref 8 41), (0, .nameAndType 5 42), (0, u "(Ljava/lang/String;Lcom/example/sturdy_sign_on/sturdysignon/Attributes;Lcom/example/sturdy_sign_on/sturdysignon/Attributes;Ljava/lang/String;Ljava/util/List;Lcom/example/sturdy_sign_on/sturdysignon/Validation$Code;)V"), (10, u "()Ljava/lang/String;"), (57, u "SIGN_IN_NAMES"), (0, u "Ljava/util/Set;"), (10, u "failure"), (0, u "(Lcom/example/sturdy_sign_on/sturdysignon/Validation$Code;)Lcom/example/sturdy_sign_on/sturdysignon/Validation;"), (0, u "succeeded"), (0, u "()Z"), (3, u "()Lcom/example/sturdy_sign_on/sturdysignon/Attributes;"), (0, u "()Ljava/util/List;"), (1, u "()Lcom/example/sturdy_sign_on/sturdysignon/Validation$Code;"), (4, .class_ 139), (0, u "com/example/sturdy_sign_on/sturdysignon/Validation$Code")] 23

def k8c0 : Code := { maxStack := 2, maxLocals := 7, code := prog_13_method_1_code, exceptionTable := #[], attributes := #[] }
def k8m0 : Method := { name := "<init>", desc := "(Ljava/lang/String;Lcom/example/sturdy_sign_on/sturdysignon/Attributes;Lcom/example/sturdy_sign_on/sturdysignon/Attributes;Ljava/lang/String;Ljava/util/List;Lcom/example/sturdy_sign_on/sturdysignon/Validation$Code;)V", sig := { parameters := [(.object "java/lang/String"), (.object "com/example/sturdy_sign_on/sturdysignon/Attributes"), (.object "com/example/sturdy_sign_on/sturdysignon/Attributes"), (.object "java/lang/String"), (.object "java/util/List"), (.object "com/example/sturdy_sign_on/sturdysignon/Validation$Code")], returnType := none }, accessFlags := 0, code := some k8c0 }
def k8c1 : Code := { maxStack := 8, maxLocals := 1, code := prog_13_method_3_code, exceptionTable := #[], attributes := #[] }
def k8m1 : Method := { name := "failure", desc := "(Lcom/example/sturdy_sign_on/sturdysignon/Validation$Code;)Lcom/example/sturdy_sign_on/sturdysignon/Validation;", sig := { parameters := [(.object "com/example/sturdy_sign_on/sturdysignon/Validation$Code")], returnType := some (.object "com/example/sturdy_sign_on/sturdysignon/Validation") }, accessFlags := 8, code := some k8c1 }
def k8c2 : Code := { maxStack := 1, maxLocals := 1, code := prog_13_method_4_code, exceptionTable := #[], attributes := #[] }
def k8m2 : Method := { name := "succeeded", desc := "()Z", sig := { parameters := [], returnType := some .boolean }, accessFlags := 0, code := some k8c2 }
def k8c3 : Code := { maxStack := 1, maxLocals := 1, code := prog_13_method_9_code, exceptionTable := #[], attributes := #[] }
def k8m3 : Method := { name := "user", desc := "()Ljava/lang/String;", sig := { parameters := [], returnType := some (.object "java/lang/String") }, accessFlags := 1, code := some k8c3 }
def k8c4 : Code := { maxStack := 1, maxLocals := 1, code := prog_13_method_10_code, exceptionTable := #[], attributes := #[] }
def k8m4 : Method := { name := "signIn", desc := "()Lcom/example/sturdy_sign_on/sturdysignon/Attributes;", sig := { parameters := [], returnType := some (.object "com/example/sturdy_sign_on/sturdysignon/Attributes") }, accessFlags := 1, code := some k8c4 }
def k8c5 : Code := { maxStack := 1, maxLocals := 1, code := prog_13_method_11_code, exceptionTable := #[], attributes := #[] }
def k8m5 : Method := { name := "attributes", desc := "()Lcom/example/sturdy_sign_on/sturdysignon/Attributes;", sig := { parameters := [], returnType := some (.object "com/example/sturdy_sign_on/sturdysignon/Attributes") }, accessFlags := 1, code := some k8c5 }
def k8c6 : Code := { maxStack := 1, maxLocals := 1, code := prog_13_method_12_code, exceptionTable := #[], attributes := #[] }
def k8m6 : Method := { name := "proxyGrantingTicket", desc := "()Ljava/lang/String;", sig := { parameters := [], returnType := some (.object "java/lang/String") }, accessFlags := 1, code := some k8c6 }
def k8c7 : Code := { maxStack := 1, maxLocals := 1, code := prog_13_method_13_code, exceptionTable := #[], attributes := #[] }
def k8m7 : Method := { name := "proxies", desc := "()Ljava/util/List;", sig := { parameters := [], returnType := some (.object "java/util/List") }, accessFlags := 1, code := some k8c7 }
def k8c8 : Code := { maxStack := 1, maxLocals := 1, code := prog_13_method_14_code, exceptionTable := #[], attributes := #[] }
def k8m8 : Method := { name := "code", desc := "()Lcom/example/sturdy_sign_on/sturdysignon/Validation$Code;", sig := { parameters := [], returnType := some (.object "com/example/sturdy_sign_on/sturdysignon/Validation$Code") }, accessFlags := 1, code := some k8c8 }
/-- com/example/sturdy_sign_on/sturdysignon/Validation -/
def k8 : Class := { plain "com/example/sturdy_sign_on/sturdysignon/Validation" (some 7) with
  accessFlags := 48
  interfaces := #[]
  cf := some (fileOf pool8 8 #[.nestMembers #[138]] #[{ accessFlags := 0, nameIndex := 5, descriptorIndex := 42, attributes := #[] }, { accessFlags := 8, nameIndex := 123, descriptorIndex := 124, attributes := #[] }, { accessFlags := 0, nameIndex := 125, descriptorIndex := 126, attributes := #[] }, { accessFlags := 1, nameIndex := 11, descriptorIndex := 53, attributes := #[] }, { accessFlags := 1, nameIndex := 15, descriptorIndex := 130, attributes := #[] }, { accessFlags := 1, nameIndex := 19, descriptorIndex := 130, attributes := #[] }, { accessFlags := 1, nameIndex := 22, descriptorIndex := 53, attributes := #[] }, { accessFlags := 1, nameIndex := 25, descriptorIndex := 131, attributes := #[] }, { accessFlags := 1, nameIndex := 29, descriptorIndex := 133, attributes := #[] }] 48 2 #[] #[{ accessFlags := 18, nameIndex := 11, descriptorIndex := 12, attributes := #[] }, { accessFlags := 18, nameIndex := 15, descriptorIndex := 16, attributes := #[] }, { accessFlags := 18, nameIndex := 19, descriptorIndex := 16, attributes := #[] }, { accessFlags := 18, nameIndex := 22, descriptorIndex := 12, attributes := #[] }, { accessFlags := 18, nameIndex := 25, descriptorIndex := 26, attributes := #[] }, { accessFlags := 18, nameIndex := 29, descriptorIndex := 30, attributes := #[] }, { accessFlags := 24, nameIndex := 111, descriptorIndex := 112, attributes := #[] }])
  fields := #[{ name := "user", type := (.object "java/lang/String"), accessFlags := 18, slot := 0, constantValue := 0 }, { name := "signIn", type := (.object "com/example/sturdy_sign_on/sturdysignon/Attributes"), accessFlags := 18, slot := 1, constantValue := 0 }, { name := "attributes", type := (.object "com/example/sturdy_sign_on/sturdysignon/Attributes"), accessFlags := 18, slot := 2, constantValue := 0 }, { name := "proxyGrantingTicket", type := (.object "java/lang/String"), accessFlags := 18, slot := 3, constantValue := 0 }, { name := "proxies", type := (.object "java/util/List"), accessFlags := 18, slot := 4, constantValue := 0 }, { name := "code", type := (.object "com/example/sturdy_sign_on/sturdysignon/Validation$Code"), accessFlags := 18, slot := 5, constantValue := 0 }, { name := "SIGN_IN_NAMES", type := (.object "java/util/Set"), accessFlags := 24, slot := 0, constantValue := 0 }]
  methods := #[k8m0, k8m1, k8m2, k8m3, k8m4, k8m5, k8m6, k8m7, k8m8]
  instanceTypes := #[(.object "java/lang/String"), (.object "com/example/sturdy_sign_on/sturdysignon/Attributes"), (.object "com/example/sturdy_sign_on/sturdysignon/Attributes"), (.object "java/lang/String"), (.object "java/util/List"), (.object "com/example/sturdy_sign_on/sturdysignon/Validation$Code")]
  staticTypes := #[(.object "java/util/Set")]
  resolved := Array.replicate 163 none
  statics := none }

def pool9 : Array CpInfo := pool [(1, u "java/lang/Cloneable"), (0, .class_ 1), (0, u "java/lang/Object"), (0, .class_ 3)] 3

/-- java/lang/Cloneable -/
def k9 : Class := { plain "java/lang/Cloneable" (some 0) with
  accessFlags := 1537
  interfaces := #[]
  cf := some (fileOf pool9 2 #[] #[] 1537 4 #[] #[])
  fields := #[]
  methods := #[]
  instanceTypes := #[]
  staticTypes := #[]
  resolved := Array.replicate 8 none
  statics := none }

/-- the primitive byte -/
def k10 : Class := { plain "byte" none with kind := .primitive 'B', accessFlags := 0x411 }
/-- [B -/
def k11 : Class := { plain "[B" (some 0) with kind := .array 10 .byte, interfaces := #[9, 4], accessFlags := 1041 }

/-- the primitive int -/
def k12 : Class := { plain "int" none with kind := .primitive 'I', accessFlags := 0x411 }
/-- [I -/
def k13 : Class := { plain "[I" (some 0) with kind := .array 12 .int, interfaces := #[9, 4], accessFlags := 1041 }

def heap : Heap := #[{ cls := 6, slots := #[.ref 1, .ref 2, .ref 3, .ref 4, .ref 5, .ref 6, .null], vm := .statics 6 },
  { cls := 6, slots := #[.null, .int 0, .int 0, .null, .null], vm := .none },
  { cls := 6, slots := #[.null, .int 1, .int 0, .null, .null], vm := .none },
  { cls := 6, slots := #[.null, .int 2, .int 0, .null, .null], vm := .none },
  { cls := 6, slots := #[.null, .int 3, .int 0, .null, .null], vm := .none },
  { cls := 6, slots := #[.null, .int 4, .int 0, .null, .null], vm := .none },
  { cls := 6, slots := #[.null, .int 5, .int 0, .null, .null], vm := .none }]
def classes : Array Class := #[k0, k1, k2, k3, k4, k5, k6, k7, k8, k9, k10, k11, k12, k13]
def interned : List (Array UInt16 × Addr) := []
def slotsUsed : Nat := 37
def theMethod : MethodId := ⟨1, 2⟩
def args0 : Array Value := #[.int 5]
def aboutOver (below : List Frame) : State where
  vm := { classes := classes, interned := interned.toArray }
  heap := heap
  slotsUsed := slotsUsed
  threads := #[{ frames := .invoking theMethod args0 :: below }]
def below0 : List Frame := [.native { method := ⟨0, 0⟩, args := #[] }]
def about1 : State := aboutOver below0
def p0 : Program := .bare "" "" ""
def e0 : Env := launch0.env 0 0 0
theorem w_frames : about1.frames = Frame.invoking theMethod args0 :: below0 := rfl
set_option maxRecDepth 65536 in
theorem w_args : argsFit about1.vm theMethod args0 = true := by decide +kernel
set_option maxRecDepth 65536 in
theorem w_heap : heapFits about1 = true := by decide +kernel
set_option maxRecDepth 65536 in
theorem w_runnable : about1.curStatus? = some .runnable := by decide +kernel
set_option maxRecDepth 65536 in
theorem w_alone : about1.alone = true := by decide +kernel
set_option maxRecDepth 65536 in
theorem w_named : about1.methodNamed? x = some theMethod := by decide +kernel
set_option maxRecDepth 65536 in
theorem w_hears : about1.hears theMethod below0 = true := by decide +kernel
set_option maxRecDepth 65536 in
theorem w_ripe : about1.ripe theMethod args0 below0 = true := by decide +kernel
theorem w_running : about1.status = .running := rfl
set_option maxRecDepth 65536 in
theorem w_room : about1.hasRoom e0.platform room_1 = true :=
  launch0.hasRoom_least _ room_1 (by decide +kernel) (by decide +kernel) (by decide +kernel) (by decide +kernel) (by decide +kernel) (by decide +kernel)
theorem allAtoms_all (ts : List Jvm.Cond) (a : Array Jvm.Value) (st : Jvm.State) : (allAtoms ts).before a st = ts.all (fun c => c.before a st) := by
  induction ts with
  | nil => rfl
  | cons c t ih =>
    show (Jvm.Cond.and c (allAtoms t)).before a st = _
    rw [Jvm.Cond.before_and, ih, List.all_cons]
def words1 : List Jvm.Cond := Jvm.Cond.code x code maxLocals ret :: tables_1
/-- a 'code' word, met by the world's own term for the bytes: nothing is compared byte by byte -/
theorem code_word {y : MethodName} {bytes : ByteArray} {mx : Nat} {rt : Option FieldType} {a : Array Value} {s : State} {m : MethodId} {meth : Method} {c : Code} (h1 : s.methodNamed? y = some m) (h2 : s.vm.method? m = some meth) (h3 : meth.code = some c) (h4 : c.code = bytes)
    (h5 : (c.maxLocals == mx && c.exceptionTable.isEmpty && decide (c.maxStack ≤ mostOperands) && decide (meth.sig.returnType = rt) && !meth.locks && decide (parseMethodDescriptor y.desc = some meth.sig)) = true) : (Jvm.Cond.code y bytes mx rt).before a s = true := by
  simp only [Bool.and_eq_true, beq_iff_eq, Bool.not_eq_true', decide_eq_true_eq] at h5
  obtain ⟨⟨⟨⟨⟨g1, g2⟩, g3⟩, g4⟩, g5⟩, g6⟩ := h5
  simp [Cond.before, Cond.holds, Cond.value, h1, h2, h3, h4, g1, g2, g3, g4, g5, g6]
def isCode : Jvm.Cond → Bool
  | .code _ _ _ _ => true
  | _ => false
theorem all_split {L : List Jvm.Cond} {P : Jvm.Cond → Bool} (h1 : L.all (fun c => isCode c || P c) = true) (h2 : ∀ c ∈ L.filter isCode, P c = true) : L.all P = true := by
  refine List.all_eq_true.mpr fun c hc => ?_
  have h := List.all_eq_true.mp h1 c hc
  rcases Bool.eq_false_or_eq_true (isCode c) with hi | hi
  · exact h2 c (List.mem_filter.mpr ⟨hc, hi⟩)
  · simpa [hi] using h
set_option maxRecDepth 65536 in
theorem w_c0 : (Jvm.Cond.code x code maxLocals ret).before args0 about1 = true := code_word (m := ⟨1, 2⟩) (meth := k1m2) (c := k1c2) (by decide +kernel) rfl rfl rfl (by decide +kernel)
set_option maxRecDepth 65536 in
theorem w_c1 : (Jvm.Cond.code ({ cls := "com/example/sturdy_sign_on/sturdysignon/ValidationFailurePinLaw", name := "pick", desc := "(I)Lcom/example/sturdy_sign_on/sturdysignon/Validation$Code;" } : Jvm.MethodName) method_2_code (2 : Nat) (Option.some (Jvm.ClassFile.FieldType.object "com/example/sturdy_sign_on/sturdysignon/Validation$Code"))).before args0 about1 = true := code_word (m := ⟨1, 1⟩) (meth := k1m1) (c := k1c1) (by decide +kernel) rfl rfl rfl (by decide +kernel)
set_option maxRecDepth 65536 in
theorem w_c2 : (Jvm.Cond.code ({ cls := "com/example/sturdy_sign_on/sturdysignon/Validation", name := "failure", desc := "(Lcom/example/sturdy_sign_on/sturdysignon/Validation$Code;)Lcom/example/sturdy_sign_on/sturdysignon/Validation;" } : Jvm.MethodName) prog_13_method_3_code (1 : Nat) (Option.some (Jvm.ClassFile.FieldType.object "com/example/sturdy_sign_on/sturdysignon/Validation"))).before args0 about1 = true := code_word (m := ⟨8, 1⟩) (meth := k8m1) (c := k8c1) (by decide +kernel) rfl rfl rfl (by decide +kernel)
set_option maxRecDepth 65536 in
theorem w_c3 : (Jvm.Cond.code ({ cls := "com/example/sturdy_sign_on/sturdysignon/Validation", name := "<init>", desc := "(Ljava/lang/String;Lcom/example/sturdy_sign_on/sturdysignon/Attributes;Lcom/example/sturdy_sign_on/sturdysignon/Attributes;Ljava/lang/String;Ljava/util/List;Lcom/example/sturdy_sign_on/sturdysignon/Validation$Code;)V" } : Jvm.MethodName) prog_13_method_1_code (7 : Nat) (Option.none : Option Jvm.ClassFile.FieldType)).before args0 about1 = true := code_word (m := ⟨8, 0⟩) (meth := k8m0) (c := k8c0) (by decide +kernel) rfl rfl rfl (by decide +kernel)
set_option maxRecDepth 65536 in
theorem w_c4 : (Jvm.Cond.code ({ cls := "java/lang/Record", name := "<init>", desc := "()V" } : Jvm.MethodName) jdk_30_method_1_code (1 : Nat) (Option.none : Option Jvm.ClassFile.FieldType)).before args0 about1 = true := code_word (m := ⟨7, 0⟩) (meth := k7m0) (c := k7c0) (by decide +kernel) rfl rfl rfl (by decide +kernel)
set_option maxRecDepth 65536 in
theorem w_c5 : (Jvm.Cond.code ({ cls := "java/lang/Object", name := "<init>", desc := "()V" } : Jvm.MethodName) object_method_1_code (1 : Nat) (Option.none : Option Jvm.ClassFile.FieldType)).before args0 about1 = true := code_word (m := ⟨0, 0⟩) (meth := k0m0) (c := k0c0) (by decide +kernel) rfl rfl rfl (by decide +kernel)
set_option maxRecDepth 65536 in
theorem w_c6 : (Jvm.Cond.code ({ cls := "com/example/sturdy_sign_on/sturdysignon/Validation", name := "code", desc := "()Lcom/example/sturdy_sign_on/sturdysignon/Validation$Code;" } : Jvm.MethodName) prog_13_method_14_code (1 : Nat) (Option.some (Jvm.ClassFile.FieldType.object "com/example/sturdy_sign_on/sturdysignon/Validation$Code"))).before args0 about1 = true := code_word (m := ⟨8, 8⟩) (meth := k8m8) (c := k8c8) (by decide +kernel) rfl rfl rfl (by decide +kernel)
set_option maxRecDepth 65536 in
theorem w_c7 : (Jvm.Cond.code ({ cls := "com/example/sturdy_sign_on/sturdysignon/Validation", name := "succeeded", desc := "()Z" } : Jvm.MethodName) prog_13_method_4_code (1 : Nat) (Option.some Jvm.ClassFile.FieldType.boolean)).before args0 about1 = true := code_word (m := ⟨8, 2⟩) (meth := k8m2) (c := k8c2) (by decide +kernel) rfl rfl rfl (by decide +kernel)
set_option maxRecDepth 65536 in
theorem w_c8 : (Jvm.Cond.code ({ cls := "com/example/sturdy_sign_on/sturdysignon/Validation", name := "user", desc := "()Ljava/lang/String;" } : Jvm.MethodName) prog_13_method_9_code (1 : Nat) (Option.some (Jvm.ClassFile.FieldType.object "java/lang/String"))).before args0 about1 = true := code_word (m := ⟨8, 3⟩) (meth := k8m3) (c := k8c3) (by decide +kernel) rfl rfl rfl (by decide +kernel)
set_option maxRecDepth 65536 in
theorem w_c9 : (Jvm.Cond.code ({ cls := "com/example/sturdy_sign_on/sturdysignon/Validation", name := "signIn", desc := "()Lcom/example/sturdy_sign_on/sturdysignon/Attributes;" } : Jvm.MethodName) prog_13_method_10_code (1 : Nat) (Option.some (Jvm.ClassFile.FieldType.object "com/example/sturdy_sign_on/sturdysignon/Attributes"))).before args0 about1 = true := code_word (m := ⟨8, 4⟩) (meth := k8m4) (c := k8c4) (by decide +kernel) rfl rfl rfl (by decide +kernel)
set_option maxRecDepth 65536 in
theorem w_c10 : (Jvm.Cond.code ({ cls := "com/example/sturdy_sign_on/sturdysignon/Validation", name := "attributes", desc := "()Lcom/example/sturdy_sign_on/sturdysignon/Attributes;" } : Jvm.MethodName) prog_13_method_11_code (1 : Nat) (Option.some (Jvm.ClassFile.FieldType.object "com/example/sturdy_sign_on/sturdysignon/Attributes"))).before args0 about1 = true := code_word (m := ⟨8, 5⟩) (meth := k8m5) (c := k8c5) (by decide +kernel) rfl rfl rfl (by decide +kernel)
set_option maxRecDepth 65536 in
theorem w_c11 : (Jvm.Cond.code ({ cls := "com/example/sturdy_sign_on/sturdysignon/Validation", name := "proxyGrantingTicket", desc := "()Ljava/lang/String;" } : Jvm.MethodName) prog_13_method_12_code (1 : Nat) (Option.some (Jvm.ClassFile.FieldType.object "java/lang/String"))).before args0 about1 = true := code_word (m := ⟨8, 6⟩) (meth := k8m6) (c := k8c6) (by decide +kernel) rfl rfl rfl (by decide +kernel)
set_option maxRecDepth 65536 in
theorem w_c12 : (Jvm.Cond.code ({ cls := "com/example/sturdy_sign_on/sturdysignon/Validation", name := "proxies", desc := "()Ljava/util/List;" } : Jvm.MethodName) prog_13_method_13_code (1 : Nat) (Option.some (Jvm.ClassFile.FieldType.object "java/util/List"))).before args0 about1 = true := code_word (m := ⟨8, 7⟩) (meth := k8m7) (c := k8c7) (by decide +kernel) rfl rfl rfl (by decide +kernel)
def codes1 : List Jvm.Cond := [Jvm.Cond.code x code maxLocals ret, Jvm.Cond.code ({ cls := "com/example/sturdy_sign_on/sturdysignon/ValidationFailurePinLaw", name := "pick", desc := "(I)Lcom/example/sturdy_sign_on/sturdysignon/Validation$Code;" } : Jvm.MethodName) method_2_code (2 : Nat) (Option.some (Jvm.ClassFile.FieldType.object "com/example/sturdy_sign_on/sturdysignon/Validation$Code")), Jvm.Cond.code ({ cls := "com/example/sturdy_sign_on/sturdysignon/Validation", name := "failure", desc := "(Lcom/example/sturdy_sign_on/sturdysignon/Validation$Code;)Lcom/example/sturdy_sign_on/sturdysignon/Validation;" } : Jvm.MethodName) prog_13_method_3_code (1 : Nat) (Option.some (Jvm.ClassFile.FieldType.object "com/example/sturdy_sign_on/sturdysignon/Validation")), Jvm.Cond.code ({ cls := "com/example/sturdy_sign_on/sturdysignon/Validation", name := "<init>", desc := "(Ljava/lang/String;Lcom/example/sturdy_sign_on/sturdysignon/Attributes;Lcom/example/sturdy_sign_on/sturdysignon/Attributes;Ljava/lang/String;Ljava/util/List;Lcom/example/sturdy_sign_on/sturdysignon/Validation$Code;)V" } : Jvm.MethodName) prog_13_method_1_code (7 : Nat) (Option.none : Option Jvm.ClassFile.FieldType), Jvm.Cond.code ({ cls := "java/lang/Record", name := "<init>", desc := "()V" } : Jvm.MethodName) jdk_30_method_1_code (1 : Nat) (Option.none : Option Jvm.ClassFile.FieldType), Jvm.Cond.code ({ cls := "java/lang/Object", name := "<init>", desc := "()V" } : Jvm.MethodName) object_method_1_code (1 : Nat) (Option.none : Option Jvm.ClassFile.FieldType), Jvm.Cond.code ({ cls := "com/example/sturdy_sign_on/sturdysignon/Validation", name := "code", desc := "()Lcom/example/sturdy_sign_on/sturdysignon/Validation$Code;" } : Jvm.MethodName) prog_13_method_14_code (1 : Nat) (Option.some (Jvm.ClassFile.FieldType.object "com/example/sturdy_sign_on/sturdysignon/Validation$Code")), Jvm.Cond.code ({ cls := "com/example/sturdy_sign_on/sturdysignon/Validation", name := "succeeded", desc := "()Z" } : Jvm.MethodName) prog_13_method_4_code (1 : Nat) (Option.some Jvm.ClassFile.FieldType.boolean), Jvm.Cond.code ({ cls := "com/example/sturdy_sign_on/sturdysignon/Validation", name := "user", desc := "()Ljava/lang/String;" } : Jvm.MethodName) prog_13_method_9_code (1 : Nat) (Option.some (Jvm.ClassFile.FieldType.object "java/lang/String")), Jvm.Cond.code ({ cls := "com/example/sturdy_sign_on/sturdysignon/Validation", name := "signIn", desc := "()Lcom/example/sturdy_sign_on/sturdysignon/Attributes;" } : Jvm.MethodName) prog_13_method_10_code (1 : Nat) (Option.some (Jvm.ClassFile.FieldType.object "com/example/sturdy_sign_on/sturdysignon/Attributes")), Jvm.Cond.code ({ cls := "com/example/sturdy_sign_on/sturdysignon/Validation", name := "attributes", desc := "()Lcom/example/sturdy_sign_on/sturdysignon/Attributes;" } : Jvm.MethodName) prog_13_method_11_code (1 : Nat) (Option.some (Jvm.ClassFile.FieldType.object "com/example/sturdy_sign_on/sturdysignon/Attributes")), Jvm.Cond.code ({ cls := "com/example/sturdy_sign_on/sturdysignon/Validation", name := "proxyGrantingTicket", desc := "()Ljava/lang/String;" } : Jvm.MethodName) prog_13_method_12_code (1 : Nat) (Option.some (Jvm.ClassFile.FieldType.object "java/lang/String")), Jvm.Cond.code ({ cls := "com/example/sturdy_sign_on/sturdysignon/Validation", name := "proxies", desc := "()Ljava/util/List;" } : Jvm.MethodName) prog_13_method_13_code (1 : Nat) (Option.some (Jvm.ClassFile.FieldType.object "java/util/List"))]
set_option maxRecDepth 65536 in
theorem codes_eq : words1.filter isCode = codes1 := rfl
theorem w_codes : ∀ c ∈ words1.filter isCode, c.before args0 about1 = true := by
  rw [codes_eq]
  intro c hc
  simp only [codes1, List.mem_cons, List.not_mem_nil, or_false] at hc
  rcases hc with rfl | rfl | rfl | rfl | rfl | rfl | rfl | rfl | rfl | rfl | rfl | rfl | rfl
  · exact w_c0
  · exact w_c1
  · exact w_c2
  · exact w_c3
  · exact w_c4
  · exact w_c5
  · exact w_c6
  · exact w_c7
  · exact w_c8
  · exact w_c9
  · exact w_c10
  · exact w_c11
  · exact w_c12
set_option maxRecDepth 65536 in
theorem w_t1 : (words1.take 24).all (fun c => isCode c || c.before args0 about1) = true := by decide +kernel
set_option maxRecDepth 65536 in
theorem w_t2 : ((words1.drop 24).take 24).all (fun c => isCode c || c.before args0 about1) = true := by decide +kernel
set_option maxRecDepth 65536 in
theorem w_t3 : (((words1.drop 24).drop 24).take 24).all (fun c => isCode c || c.before args0 about1) = true := by decide +kernel
set_option maxRecDepth 65536 in
theorem w_t4 : (((words1.drop 24).drop 24).drop 24).all (fun c => isCode c || c.before args0 about1) = true := by decide +kernel
theorem w_tables : (allAtoms (Jvm.Cond.code x code maxLocals ret :: tables_1)).before args0 about1 = true := by
  rw [allAtoms_all]
  show words1.all (fun c => c.before args0 about1) = true
  refine all_split ?_ w_codes
  rw [← List.take_append_drop 24 words1, List.all_append, w_t1, ← List.take_append_drop 24 (words1.drop 24), List.all_append, w_t2, ← List.take_append_drop 24 ((words1.drop 24).drop 24), List.all_append, w_t3, w_t4]
  rfl
set_option maxRecDepth 65536 in
theorem w_case : (Jvm.Cond.and given_1 narrow_1).before args0 about1 = true := by decide +kernel
theorem w_applies : (headSpec (Jvm.Cond.code x code maxLocals ret :: tables_1) room_1).applies x e0.platform about1 = true :=
  (Spec.applies_iff w_frames).mpr ⟨w_running, w_runnable, w_alone, w_named, w_hears, w_ripe, w_room, w_tables⟩
theorem atStart : AtStart classFile x code maxLocals ret World_1 tables_1 room_1 Calls_1 rest_1 Pre_1 launch0 p0 e0 about1 theMethod args0 below0 :=
  ⟨lists_1, trivial, launch0.admits_env _ _ _, launch0.least_env, fairChoices_fair.cas, fairChoices_fair.clock, w_frames, w_args, w_heap, w_applies, trivial, trivial, w_case⟩
end start1
theorem witness_1 : WitnessClaimed_1 := ⟨start1.p0, start1.e0, start1.about1, start1.theMethod, start1.args0, start1.below0, start1.atStart⟩
end Jvm.Pilot.@@N@@
