import JvmDerived
import JvmDerived.Pilot.@@N@@Statement
import JvmDerived.Pilot.@@N@@Code
set_option linter.unusedVariables false
set_option linter.unusedSimpArgs false
namespace Jvm.OwnGo
open Jvm Jvm.ClassFile Sem Op Lib Jvm.Free Jvm.Stand Jvm.LawKit Jvm.RoadKit
section Go
variable {p : Program} {l : Launch} {e : Env} {R : Room} {s : State} {m : MethodId} {args : Array Value} {below : List Frame} {meth : Method} {c : Code} {T T' : State} {locs : List Loc} {cells slots : Nat} {Q : Option Value → Heap → List Loc → Prop} {C S : Nat} {g g' : JFrame}
/-- from here the body comes to a return that Q takes -/
def Go (p : Program) (e : Env) (below : List Frame) (s : State) (Q : Option Value → Heap → List Loc → Prop) (C S : Nat) (T : State) (g : JFrame) : Prop :=
  ∃ s₂ o, Steps p.tables e below (T.setTop g) s₂ ∧ s₂.status = .running ∧ Ended s₂ below o ∧ ∃ v L, o = .returned v ∧ Q v s₂.heap L ∧ FrameEnd s o s₂ L C S
theorem Go.st (h : ∀ t, Steps p.tables e below (T'.setTop g') t → Steps p.tables e below (T.setTop g) t) (k : Go p e below s Q C S T' g') : Go p e below s Q C S T g := by
  obtain ⟨s₂, o, h1, r⟩ := k; exact ⟨s₂, o, h _ h1, r⟩
theorem Go.ts (h : Steps p.tables e below (T.setTop g) (T'.setTop g')) (k : Go p e below s Q C S T' g') : Go p e below s Q C S T g := by
  obtain ⟨s₂, o, h1, r⟩ := k; exact ⟨s₂, o, h.trans h1, r⟩
theorem Go.retw (X : Stand p l e R s m args below meth c T locs cells slots) (hx : p.tables.exec = Jvm.exec) {pc : Nat} {Ls : Array Slot} {w : Value} {t : FieldType} {i : Instr} {rest : List Value} (hret : meth.sig.returnType = some t) (hlk : meth.locks = false) (hn : narrow t w = w)
    (hi : (i = .ireturn ∧ (t = .int ∨ t = .boolean ∨ t = .byte ∨ t = .char ∨ t = .short) ∧ ∃ z, w = .int z) ∨ (i = .lreturn ∧ t = .long ∧ ∃ z, w = .long z) ∨ (i = .dreturn ∧ t = .double ∧ ∃ z, w = .double z) ∨ (i = .freturn ∧ t = .float ∧ ∃ z, w = .float z) ∨ (i = .areturn ∧ t.isReference = true ∧ w.isRef = true))
    (hd : decode c.code pc = .ok (i, 1)) (hc : cells ≤ C) (hs : slots ≤ S) (hq : Q (some w) T.heap locs) : Go p e below s Q C S T (mkF m pc Ls (w :: rest)) := by
  obtain ⟨fs, hr, hrun, hended, hW, hsame⟩ := X.leave (v := some w) (fun h => by rw [hret] at h; cases h)
  exact ⟨_, _, retOut X hx hret hn hi hd hr, hrun, hended, _, _, rfl, hq, ⟨_, rfl⟩, hW, hsame.mono hc hs⟩
theorem Go.retI (X : Stand p l e R s m args below meth c T locs cells slots) (hx : p.tables.exec = Jvm.exec) {pc : Nat} {Ls : Array Slot} {z : Int32} {rest : List Value} (hret : meth.sig.returnType = some .int) (hlk : meth.locks = false) (hd : decode c.code pc = .ok (.ireturn, 1)) (hc : cells ≤ C) (hs : slots ≤ S) (hq : Q (some (.int z)) T.heap locs) : Go p e below s Q C S T (mkF m pc Ls (.int z :: rest)) :=
  Go.retw X hx hret hlk rfl (Or.inl ⟨rfl, Or.inl rfl, _, rfl⟩) hd hc hs hq
theorem Go.retJ (X : Stand p l e R s m args below meth c T locs cells slots) (hx : p.tables.exec = Jvm.exec) {pc : Nat} {Ls : Array Slot} {z : Int64} {rest : List Value} (hret : meth.sig.returnType = some .long) (hlk : meth.locks = false) (hd : decode c.code pc = .ok (.lreturn, 1)) (hc : cells ≤ C) (hs : slots ≤ S) (hq : Q (some (.long z)) T.heap locs) : Go p e below s Q C S T (mkF m pc Ls (.long z :: rest)) :=
  Go.retw X hx hret hlk rfl (Or.inr (Or.inl ⟨rfl, rfl, _, rfl⟩)) hd hc hs hq
theorem Go.retA (X : Stand p l e R s m args below meth c T locs cells slots) (hx : p.tables.exec = Jvm.exec) {pc : Nat} {Ls : Array Slot} {w : Value} {t : FieldType} {rest : List Value} (hret : meth.sig.returnType = some t) (hlk : meth.locks = false) (hn : narrow t w = w) (ht : t.isReference = true) (hw : w.isRef = true) (hd : decode c.code pc = .ok (.areturn, 1)) (hc : cells ≤ C) (hs : slots ≤ S) (hq : Q (some w) T.heap locs) : Go p e below s Q C S T (mkF m pc Ls (w :: rest)) :=
  Go.retw X hx hret hlk hn (Or.inr (Or.inr (Or.inr (Or.inr ⟨rfl, ht, hw⟩)))) hd hc hs hq
theorem Go.retB (X : Stand p l e R s m args below meth c T locs cells slots) (hx : p.tables.exec = Jvm.exec) {pc : Nat} {Ls : Array Slot} {z : Int32} {t : FieldType} {rest : List Value} (hret : meth.sig.returnType = some t) (hlk : meth.locks = false) (ht : t = .boolean ∨ t = .byte ∨ t = .char ∨ t = .short) (hd : decode c.code pc = .ok (.ireturn, 1)) (hc : cells ≤ C) (hs : slots ≤ S) (hq : Q (some (.int (nar t z))) T.heap locs) : Go p e below s Q C S T (mkF m pc Ls (.int z :: rest)) := by
  obtain ⟨fs, hr, hrun, hended, hW, hsame⟩ := X.leave (v := some (.int (nar t z))) (fun h => by rw [hret] at h; cases h)
  exact ⟨_, _, retN X hx hret ht hd hr, hrun, hended, _, _, rfl, hq, ⟨_, rfl⟩, hW, hsame.mono hc hs⟩
theorem Go.ret0 (X : Stand p l e R s m args below meth c T locs cells slots) (hx : p.tables.exec = Jvm.exec) {pc : Nat} {Ls : Array Slot} (hret : meth.sig.returnType = none) (hlk : meth.locks = false) (hd : decode c.code pc = .ok (.return_, 1)) (hc : cells ≤ C) (hs : slots ≤ S) (hq : Q none T.heap locs) : Go p e below s Q C S T (mkF m pc Ls []) := by
  obtain ⟨fs, hr, hrun, hended, hW, hsame⟩ := X.leave (v := none) (fun _ => rfl)
  exact ⟨_, _, X.returnOut hx hret hd hr, hrun, hended, _, _, rfl, hq, ⟨_, rfl⟩, hW, hsame.mono hc hs⟩
end Go
theorem lcw_lt {x y : Int64} (h : x < y) : lcmpW x y < 0 := by rw [lcW]; exact (lc_lt _ _).mpr h
theorem lcw_nlt {x y : Int64} (h : ¬ x < y) : ¬ lcmpW x y < 0 := by rw [lcW]; exact fun q => h ((lc_lt _ _).mp q)
theorem lcw_gt {x y : Int64} (h : y < x) : 0 < lcmpW x y := by rw [lcW]; exact (lc_gt _ _).mpr h
theorem lcw_ngt {x y : Int64} (h : ¬ y < x) : ¬ 0 < lcmpW x y := by rw [lcW]; exact fun q => h ((lc_gt _ _).mp q)
theorem lcw_eq {x y : Int64} (h : x = y) : lcmpW x y = 0 := by rw [lcW]; exact (lc_eq _ _).mpr h
theorem lcw_ne {x y : Int64} (h : ¬ x = y) : ¬ lcmpW x y = 0 := by rw [lcW]; exact fun q => h ((lc_eq _ _).mp q)
section Words
variable {args : Array Value} {first s : State} {o : Option Outcome} {idx : List Nat} {a b : Term}
theorem eqI_v {n : Int32} (h : (Cond.eq a (.int n)).value args first o s idx = some true) : a.eval args first o idx s = some (.int n) := by
  simp only [Cond.value, Term.eval] at h; cases ha : a.eval args first o idx s with | none => simp [ha] at h | some x => cases x <;> simp [ha] at h ⊢; exact h
theorem eqJ_v {n : Int64} (h : (Cond.eq a (.long n)).value args first o s idx = some true) : a.eval args first o idx s = some (.long n) := by
  simp only [Cond.value, Term.eval] at h; cases ha : a.eval args first o idx s with | none => simp [ha] at h | some x => cases x <;> simp [ha] at h ⊢; exact h
theorem eqR_v {x : Addr} (hb : b.eval args first o idx s = some (.ref x)) (h : (Cond.eq a b).value args first o s idx = some true) : a.eval args first o idx s = some (.ref x) := by
  simp only [Cond.value, hb] at h; cases ha : a.eval args first o idx s with | none => simp [ha] at h | some x => cases x <;> simp [ha] at h ⊢; exact h
end Words
end Jvm.OwnGo
namespace Jvm.OwnGo
open Jvm Jvm.ClassFile Sem Op Lib Jvm.Free Jvm.Stand Jvm.LawKit Jvm.RoadKit
variable {Z : State} {a0 : Array Value}
theorem own_found {K : String} {n : Nat} (w : (Cond.instantiable K n).before a0 Z = true) : ∃ t k, Z.vm.findClass K = some t ∧ Z.vm.classes[t]? = some k ∧ k.kind = .ordinary ∧ k.isInterface = false := by
  obtain ⟨t, k, h1, h2, h3, h4, -⟩ := Cond.instantiable_spec w
  exact ⟨t, k, h1, h2, h3, (Bool.or_eq_false_iff.mp h4).1⟩
theorem own_root {O K : String} {n : Nat} (w : (Cond.noSuperclass O).before a0 Z = true) (wk : (Cond.instantiable K n).before a0 Z = true) (hn : O ≠ K) : NS Z O K := by
  obtain ⟨c, k, h1, h2, h3, -, -⟩ := Cond.noSuperclass_spec w
  obtain ⟨t, -, g1, -⟩ := own_found wk
  have ne := ids_ne h1 g1 hn
  exact ⟨c, t, h1, g1, fun fuel => by cases fuel with | zero => rfl | succ f => simp [Vm.isSubclassAux, ne, h2, h3]⟩
theorem own_no {C S K : String} {n : Nat} (w : (Cond.superclass C S).before a0 Z = true) (wk : (Cond.instantiable K n).before a0 Z = true) (N : NS Z C K) (hn : C ≠ K) : ∃ c t, Z.vm.findClass C = some c ∧ Z.vm.findClass K = some t ∧ Z.vm.assignable c t = false := by
  obtain ⟨c, t, h0, g0, n3⟩ := N
  obtain ⟨-, k, -, -, h2, -, -, h5, -, -⟩ := Cond.superclass_spec h0 w
  obtain ⟨t', k', g1, g2, g5, g7⟩ := own_found wk
  cases g0.symm.trans g1
  have ne := ids_ne h0 g0 hn
  refine ⟨c, t, h0, g0, ?_⟩
  show Z.vm.assignableAux (255 + 1) c t = false
  simp [Vm.assignableAux, ne, h2, g2, h5, g5, g7, Vm.isSubclass, n3]
theorem own_cache {s : State} {args : Array Value} {C f d LC : String} {body : Cond} {ar : Addr} {cl : Cell} (ev : (Term.static C f d).eval args s none [] s = some (.ref ar)) (A : Arr s s.heap ar cl (.object LC))
    (h : (Cond.all (.static C f d) (.and (.exactly (.elem (.static C f d) (.index 0)) LC) body)).value args s none s [] = some true) :
    ∀ j : Int32, ¬ (j < 0 ∨ cl.slots.size ≤ j.toNatClampNeg) → ∃ b : Addr, cl.slots[j.toNatClampNeg]? = some (.ref b) ∧ Exa s s.heap b LC := by
  intro j hj
  have h1 := Cond.all_elim ev (A.fin (Vm.Alike.refl _)) h j.toNatClampNeg (Nat.lt_of_not_le fun q => hj (Or.inr q))
  obtain ⟨h2, -⟩ := and_e h1
  obtain ⟨b, eb⟩ := exa_v h2
  have ev' : (Term.static C f d).eval args s none [j.toNatClampNeg] s = some (.ref ar) := ev
  exact ⟨b, (elem_in eb ev' (idx_at (fun q => hj (Or.inl q))) A.1).2, exa_at eb h2⟩
theorem own_256 {s : State} {args : Array Value} {t : Term} {ar : Addr} {cl : Cell} {ty : FieldType} (ev : t.eval args s none [] s = some (.ref ar)) (A : Arr s s.heap ar cl ty) (h : (Cond.eq (.length t) (.int 256)).before args s = true) : cl.slots.size = 256 := by
  obtain ⟨h1, h2⟩ := Jvm.Free.IntBox.length_fwd h ev A.1 A.2.1 A.2.2
  have e := len_toInt h1
  rw [h2] at e
  have e6 : (256 : Int32).toInt = 256 := by decide
  omega
end Jvm.OwnGo
namespace Jvm.Pilot.@@N@@
open Jvm Jvm.ClassFile Sem Op Lib Jvm.Free Jvm.Stand Jvm.LawKit Jvm.RoadKit Jvm.OwnGo Bundle Jvm.Pilot.@@N@@.Jvm.D
theorem pn_0 : plainName "com/example/chronoid/chronoid/id/UniqueKey" = true := by first | (simp [plainName, overriddenIn]; done) | decide +kernel
theorem d1_0 : decode prog_10_method_1_code 0 = .ok (.aload_n 0, 1) := by decide +kernel
theorem d1_1 : decode prog_10_method_1_code 1 = .ok (.invokespecial 1, 3) := by decide +kernel
theorem d1_4 : decode prog_10_method_1_code 4 = .ok (.aload_n 0, 1) := by decide +kernel
theorem d1_5 : decode prog_10_method_1_code 5 = .ok (.lload_n 1, 1) := by decide +kernel
theorem d1_6 : decode prog_10_method_1_code 6 = .ok (.putfield 7, 3) := by decide +kernel
theorem d1_9 : decode prog_10_method_1_code 9 = .ok (.aload_n 0, 1) := by decide +kernel
theorem d1_10 : decode prog_10_method_1_code 10 = .ok (.iload_n 3, 1) := by decide +kernel
theorem d1_11 : decode prog_10_method_1_code 11 = .ok (.putfield 13, 3) := by decide +kernel
theorem d1_14 : decode prog_10_method_1_code 14 = .ok (.aload_n 0, 1) := by decide +kernel
theorem d1_15 : decode prog_10_method_1_code 15 = .ok (.iload 4, 2) := by decide +kernel
theorem d1_17 : decode prog_10_method_1_code 17 = .ok (.putfield 17, 3) := by decide +kernel
theorem d1_20 : decode prog_10_method_1_code 20 = .ok (.return_, 1) := by decide +kernel
theorem ef_1 (m : MethodId) (a1 : Addr) (x1 : Int64) (y1 : Int32) (z1 : Int32) : entryFrame m #[(.ref a1), (.long x1), (.int y1), (.int z1)] 5 = mkF m 0 #[.val (.ref a1), .val (.long x1), .second, .val (.int y1), .val (.int z1)] [] := by first | (simp [entryFrame, mkF, argsToLocals, Value.category]; done) | rfl
def Q1 (Z : State) (a1 : Addr) (x1 : Int64) (y1 : Int32) (z1 : Int32) (h0 : Heap) (n0 : Nat) (v : Option Value) (h : Heap) (L : List Loc) : Prop := v = none ∧ Fr n0 L ∧ Keep h0 h [a1] ∧ Exa Z h a1 "com/example/chronoid/chronoid/id/UniqueKey" ∧ Fld Z h a1 "com/example/chronoid/chronoid/id/UniqueKey" "microseconds" "J" (.long x1) ∧ Fld Z h a1 "com/example/chronoid/chronoid/id/UniqueKey" "sequence" "I" (.int y1) ∧ Fld Z h a1 "com/example/chronoid/chronoid/id/UniqueKey" "member" "I" (.int z1)
set_option maxRecDepth 65536 in
set_option maxHeartbeats 40000000 in
theorem rm1 (l : Launch) (Z : State) (a0 : Array Value) (hw : ∀ d ∈ tables_1, d.before a0 Z = true) (ws : List Jvm.Cond) (a1 : Addr) (x1 : Int64) (y1 : Int32) (z1 : Int32) (h0 : Heap) (n0 : Nat) (Z0 : n0 ≤ h0.size) (E_a1 : Exa Z h0 a1 "com/example/chronoid/chronoid/id/UniqueKey") (g_a1 : n0 ≤ a1) (F_microseconds : Fld Z h0 a1 "com/example/chronoid/chronoid/id/UniqueKey" "microseconds" "J" (.long (0 : Int64))) (F_sequence : Fld Z h0 a1 "com/example/chronoid/chronoid/id/UniqueKey" "sequence" "I" (.int (0 : Int32))) (F_member : Fld Z h0 a1 "com/example/chronoid/chronoid/id/UniqueKey" "member" "I" (.int (0 : Int32))) :
    MetFree l (⟨"com/example/chronoid/chronoid/id/UniqueKey", "<init>", "(JII)V"⟩ : MethodName) (head1 (Jvm.Cond.code (⟨"com/example/chronoid/chronoid/id/UniqueKey", "<init>", "(JII)V"⟩ : MethodName) prog_10_method_1_code 5 none :: ws) ({ frames := 1, cells := 0, slots := 0, locals := 12 } : Room)) (fun a U => a = #[(.ref a1), (.long x1), (.int y1), (.int z1)] ∧ Z.Warmed39 U.vm ∧ U.heap = h0) (fun _ _ _ _ _ => True) (fun _ U o U' => ∃ v L, o = .returned v ∧ Q1 Z a1 x1 y1 z1 h0 n0 v U'.heap L ∧ FrameEnd U o U' L ({ frames := 1, cells := 0, slots := 0, locals := 12 } : Room).cells ({ frames := 1, cells := 0, slots := 0, locals := 12 } : Room).slots) := by
  refine MetFree.of_bodySF (plainFor_of_name pn_0) hisR ?_
  intro p e s m args below meth c s₁ Bd hml0 hP hK
  obtain ⟨rfl, hZ, hh⟩ := hP
  have hx := Bd.exec
  have hby := Bd.bytes
  have hml : c.maxLocals = 5 := hml0
  have hown : s.vm.findClass "com/example/chronoid/chronoid/id/UniqueKey" = some m.cls := findClass_of_methodNamed Bd.named
  have hnm := (name_of_methodNamed Bd.named Bd.method).1
  have hlk : meth.locks = false := BodyLoose.notSynchronized Bd
  have X0 : Stand p l e ({ frames := 1, cells := 0, slots := 0, locals := 12 } : Room) s m #[(.ref a1), (.long x1), (.int y1), (.int z1)] below meth c s₁ [] 0 0 := Stand.of_body Bd
  have e0 : s₁.heap = h0 := by rw [← hh, Bd.state]; rfl
  have N0 := Fr.nil n0
  suffices hgo : Go p e below s (Q1 Z a1 x1 y1 z1 h0 n0) ({ frames := 1, cells := 0, slots := 0, locals := 12 } : Room).cells ({ frames := 1, cells := 0, slots := 0, locals := 12 } : Room).slots s₁ (mkF m 0 #[.val (.ref a1), .val (.long x1), .second, .val (.int y1), .val (.int z1)] []) by
    obtain ⟨s₂, o, k1, k2⟩ := hgo
    exact ⟨s₂, o, castTop (ef_1 m a1 x1 y1 z1) k1, k2⟩
  refine Go.st (T' := s₁) (g' := (mkF m 1 #[.val (.ref a1), .val (.long x1), .second, .val (.int y1), .val (.int z1)] [(.ref a1)])) (fun t_ k_ => XS.aloadN X0.here hx rfl (hb hby d1_0) rfl rfl k_) ?_
  obtain ⟨T1, X1, e1, st1⟩ := initO X0 hx hZ hown (hw _ (List.mem_of_getElem? (i := 8) rfl)) (hw _ (List.mem_of_getElem? (i := 9) rfl)) (hw _ (List.mem_of_getElem? (i := 10) rfl)) e0 (g := (mkF m 1 #[.val (.ref a1), .val (.long x1), .second, .val (.int y1), .val (.int z1)] [(.ref a1)])) rfl (by rw [hml]; rfl) rfl (hb hby d1_1) (by decide) (W := 0) (by show 2 * 0 + _ ≤ _; exact Nat.le_of_eq rfl) (by decide)
  refine Go.st (T' := T1) (g' := (mkF m 4 #[.val (.ref a1), .val (.long x1), .second, .val (.int y1), .val (.int z1)] [])) st1 ?_
  refine Go.st (T' := T1) (g' := (mkF m 5 #[.val (.ref a1), .val (.long x1), .second, .val (.int y1), .val (.int z1)] [(.ref a1)])) (fun t_ k_ => XS.aloadN X1.here hx rfl (hb hby d1_4) rfl rfl k_) ?_
  refine Go.st (T' := T1) (g' := (mkF m 6 #[.val (.ref a1), .val (.long x1), .second, .val (.int y1), .val (.int z1)] [(.long x1), (.ref a1)])) (fun t_ k_ => XS.lloadN X1.here hx rfl (hb hby d1_5) rfl  k_) ?_
  obtain ⟨T2, h2, X2, e2, W2, st2⟩ := putF X1 hx hZ hown (host := "") (Or.inl (hw _ (List.mem_of_getElem? (i := 11) rfl))) Via.refl e1 F_microseconds E_a1 (Or.inr ⟨(hw _ (List.mem_of_getElem? (i := 12) rfl)), rfl, hnm⟩) (hw _ (List.mem_of_getElem? (i := 3) rfl)) (ty := .long) (by decide) rfl rfl (g := (mkF m 6 #[.val (.ref a1), .val (.long x1), .second, .val (.int y1), .val (.int z1)] [(.long x1), (.ref a1)])) rfl rfl (hb hby d1_6)
  have Fw2 := Fld.same W2 F_microseconds
  have K2 := Keep.wr (Keep.refl h0 [a1]) W2 (Or.inl (List.mem_of_getElem? (i := 0) rfl))
  have N2 := Fr.snoc X2 N0 g_a1
  refine Go.st (T' := T2) (g' := (mkF m 9 #[.val (.ref a1), .val (.long x1), .second, .val (.int y1), .val (.int z1)] [])) st2 ?_
  refine Go.st (T' := T2) (g' := (mkF m 10 #[.val (.ref a1), .val (.long x1), .second, .val (.int y1), .val (.int z1)] [(.ref a1)])) (fun t_ k_ => XS.aloadN X2.here hx rfl (hb hby d1_9) rfl rfl k_) ?_
  refine Go.st (T' := T2) (g' := (mkF m 11 #[.val (.ref a1), .val (.long x1), .second, .val (.int y1), .val (.int z1)] [(.int y1), (.ref a1)])) (fun t_ k_ => XS.iloadN X2.here hx rfl (hb hby d1_10) rfl  k_) ?_
  obtain ⟨T3, h3, X3, e3, W3, st3⟩ := putF X2 hx hZ hown (host := "") (Or.inl (hw _ (List.mem_of_getElem? (i := 13) rfl))) Via.refl e2 (Fld.other W2 F_sequence (Or.inr (slot_ne (Or.inr (hw _ (List.mem_of_getElem? (i := 14) rfl))) (Or.inr (hw _ (List.mem_of_getElem? (i := 12) rfl))) (by decide) (t := .int) (t' := .long) (by decide) (by decide)))) (Exa.wr W2 E_a1) (Or.inr ⟨(hw _ (List.mem_of_getElem? (i := 14) rfl)), rfl, hnm⟩) (hw _ (List.mem_of_getElem? (i := 3) rfl)) (ty := .int) (by decide) rfl rfl (g := (mkF m 11 #[.val (.ref a1), .val (.long x1), .second, .val (.int y1), .val (.int z1)] [(.int y1), (.ref a1)])) rfl rfl (hb hby d1_11)
  have Fw3 := Fld.same W3 (Fld.other W2 F_sequence (Or.inr (slot_ne (Or.inr (hw _ (List.mem_of_getElem? (i := 14) rfl))) (Or.inr (hw _ (List.mem_of_getElem? (i := 12) rfl))) (by decide) (t := .int) (t' := .long) (by decide) (by decide))))
  have K3 := Keep.wr K2 W3 (Or.inl (List.mem_of_getElem? (i := 0) rfl))
  have N3 := Fr.snoc X3 N2 g_a1
  refine Go.st (T' := T3) (g' := (mkF m 14 #[.val (.ref a1), .val (.long x1), .second, .val (.int y1), .val (.int z1)] [])) st3 ?_
  refine Go.st (T' := T3) (g' := (mkF m 15 #[.val (.ref a1), .val (.long x1), .second, .val (.int y1), .val (.int z1)] [(.ref a1)])) (fun t_ k_ => XS.aloadN X3.here hx rfl (hb hby d1_14) rfl rfl k_) ?_
  refine Go.st (T' := T3) (g' := (mkF m 17 #[.val (.ref a1), .val (.long x1), .second, .val (.int y1), .val (.int z1)] [(.int z1), (.ref a1)])) (fun t_ k_ => XS.iload X3.here hx rfl (hb hby d1_15) rfl  k_) ?_
  obtain ⟨T4, h4, X4, e4, W4, st4⟩ := putF X3 hx hZ hown (host := "") (Or.inl (hw _ (List.mem_of_getElem? (i := 15) rfl))) Via.refl e3 (Fld.other W3 (Fld.other W2 F_member (Or.inr (slot_ne (Or.inr (hw _ (List.mem_of_getElem? (i := 16) rfl))) (Or.inr (hw _ (List.mem_of_getElem? (i := 12) rfl))) (by decide) (t := .int) (t' := .long) (by decide) (by decide)))) (Or.inr (slot_ne (Or.inr (hw _ (List.mem_of_getElem? (i := 16) rfl))) (Or.inr (hw _ (List.mem_of_getElem? (i := 14) rfl))) (by decide) (t := .int) (t' := .int) (by decide) (by decide)))) (Exa.wr W3 (Exa.wr W2 E_a1)) (Or.inr ⟨(hw _ (List.mem_of_getElem? (i := 16) rfl)), rfl, hnm⟩) (hw _ (List.mem_of_getElem? (i := 3) rfl)) (ty := .int) (by decide) rfl rfl (g := (mkF m 17 #[.val (.ref a1), .val (.long x1), .second, .val (.int y1), .val (.int z1)] [(.int z1), (.ref a1)])) rfl rfl (hb hby d1_17)
  have Fw4 := Fld.same W4 (Fld.other W3 (Fld.other W2 F_member (Or.inr (slot_ne (Or.inr (hw _ (List.mem_of_getElem? (i := 16) rfl))) (Or.inr (hw _ (List.mem_of_getElem? (i := 12) rfl))) (by decide) (t := .int) (t' := .long) (by decide) (by decide)))) (Or.inr (slot_ne (Or.inr (hw _ (List.mem_of_getElem? (i := 16) rfl))) (Or.inr (hw _ (List.mem_of_getElem? (i := 14) rfl))) (by decide) (t := .int) (t' := .int) (by decide) (by decide))))
  have K4 := Keep.wr K3 W4 (Or.inl (List.mem_of_getElem? (i := 0) rfl))
  have N4 := Fr.snoc X4 N3 g_a1
  refine Go.st (T' := T4) (g' := (mkF m 20 #[.val (.ref a1), .val (.long x1), .second, .val (.int y1), .val (.int z1)] [])) st4 ?_
  refine Go.ret0 X4 hx Bd.returns hlk (hb hby d1_20) (by decide) (by decide) ?_
  rw [e4]
  exact ⟨rfl, N4, K4, (Exa.wr W4 (Exa.wr W3 (Exa.wr W2 E_a1))), (Fld.other W4 (Fld.other W3 Fw2 (Or.inr (slot_ne (Or.inr (hw _ (List.mem_of_getElem? (i := 12) rfl))) (Or.inr (hw _ (List.mem_of_getElem? (i := 14) rfl))) (by decide) (t := .long) (t' := .int) (by decide) (by decide)))) (Or.inr (slot_ne (Or.inr (hw _ (List.mem_of_getElem? (i := 12) rfl))) (Or.inr (hw _ (List.mem_of_getElem? (i := 16) rfl))) (by decide) (t := .long) (t' := .int) (by decide) (by decide)))), (Fld.other W4 Fw3 (Or.inr (slot_ne (Or.inr (hw _ (List.mem_of_getElem? (i := 14) rfl))) (Or.inr (hw _ (List.mem_of_getElem? (i := 16) rfl))) (by decide) (t := .int) (t' := .int) (by decide) (by decide)))), Fw4⟩
theorem d3_0 : decode prog_10_method_7_code 0 = .ok (.aload_n 1, 1) := by decide +kernel
theorem d3_1 : decode prog_10_method_7_code 1 = .ok (.instanceof 8, 3) := by decide +kernel
theorem d3_4 : decode prog_10_method_7_code 4 = .ok (.ifCond .eq 46, 3) := by decide +kernel
theorem d3_7 : decode prog_10_method_7_code 7 = .ok (.aload_n 1, 1) := by decide +kernel
theorem d3_8 : decode prog_10_method_7_code 8 = .ok (.checkcast 8, 3) := by decide +kernel
theorem d3_11 : decode prog_10_method_7_code 11 = .ok (.astore_n 2, 1) := by decide +kernel
theorem d3_12 : decode prog_10_method_7_code 12 = .ok (.aload_n 0, 1) := by decide +kernel
theorem d3_13 : decode prog_10_method_7_code 13 = .ok (.getfield 7, 3) := by decide +kernel
theorem d3_16 : decode prog_10_method_7_code 16 = .ok (.aload_n 2, 1) := by decide +kernel
theorem d3_17 : decode prog_10_method_7_code 17 = .ok (.getfield 7, 3) := by decide +kernel
theorem d3_20 : decode prog_10_method_7_code 20 = .ok (.lcmp, 1) := by decide +kernel
theorem d3_21 : decode prog_10_method_7_code 21 = .ok (.ifCond .ne 29, 3) := by decide +kernel
theorem d3_24 : decode prog_10_method_7_code 24 = .ok (.aload_n 0, 1) := by decide +kernel
theorem d3_25 : decode prog_10_method_7_code 25 = .ok (.getfield 13, 3) := by decide +kernel
theorem d3_28 : decode prog_10_method_7_code 28 = .ok (.aload_n 2, 1) := by decide +kernel
theorem d3_29 : decode prog_10_method_7_code 29 = .ok (.getfield 13, 3) := by decide +kernel
theorem d3_32 : decode prog_10_method_7_code 32 = .ok (.if_icmp .ne 18, 3) := by decide +kernel
theorem d3_35 : decode prog_10_method_7_code 35 = .ok (.aload_n 0, 1) := by decide +kernel
theorem d3_36 : decode prog_10_method_7_code 36 = .ok (.getfield 17, 3) := by decide +kernel
theorem d3_39 : decode prog_10_method_7_code 39 = .ok (.aload_n 2, 1) := by decide +kernel
theorem d3_40 : decode prog_10_method_7_code 40 = .ok (.getfield 17, 3) := by decide +kernel
theorem d3_43 : decode prog_10_method_7_code 43 = .ok (.if_icmp .ne 7, 3) := by decide +kernel
theorem d3_46 : decode prog_10_method_7_code 46 = .ok (.iconst 1, 1) := by decide +kernel
theorem d3_47 : decode prog_10_method_7_code 47 = .ok (.goto 4, 3) := by decide +kernel
theorem d3_50 : decode prog_10_method_7_code 50 = .ok (.iconst 0, 1) := by decide +kernel
theorem d3_51 : decode prog_10_method_7_code 51 = .ok (.ireturn, 1) := by decide +kernel
theorem ef_3 (m : MethodId) (a1 : Addr) (a2 : Addr) : entryFrame m #[(.ref a1), (.ref a2)] 3 = mkF m 0 #[.val (.ref a1), .val (.ref a2), .unset] [] := by first | (simp [entryFrame, mkF, argsToLocals, Value.category]; done) | rfl
def Q3 (Z : State) (a1 : Addr) (a2 : Addr) (x1 : Int64) (y1 : Int32) (z1 : Int32) (x2 : Int64) (y2 : Int32) (z2 : Int32) (r : Int32) (h0 : Heap) (n0 : Nat) (v : Option Value) (h : Heap) (L : List Loc) : Prop := v = some (.int r) ∧ Fr n0 L ∧ h = h0
set_option maxRecDepth 65536 in
set_option maxHeartbeats 40000000 in
theorem rm3 (l : Launch) (Z : State) (a0 : Array Value) (hw : ∀ d ∈ tables_1, d.before a0 Z = true) (ws : List Jvm.Cond) (a1 : Addr) (a2 : Addr) (x1 : Int64) (y1 : Int32) (z1 : Int32) (x2 : Int64) (y2 : Int32) (z2 : Int32) (r : Int32) (h0 : Heap) (n0 : Nat) (Z0 : n0 ≤ h0.size) (E_a2 : Exa Z h0 a2 "com/example/chronoid/chronoid/id/UniqueKey") (F1_microseconds : Fld Z h0 a1 "com/example/chronoid/chronoid/id/UniqueKey" "microseconds" "J" (.long x1)) (F1_sequence : Fld Z h0 a1 "com/example/chronoid/chronoid/id/UniqueKey" "sequence" "I" (.int y1)) (F1_member : Fld Z h0 a1 "com/example/chronoid/chronoid/id/UniqueKey" "member" "I" (.int z1)) (F2_microseconds : Fld Z h0 a2 "com/example/chronoid/chronoid/id/UniqueKey" "microseconds" "J" (.long x2)) (F2_sequence : Fld Z h0 a2 "com/example/chronoid/chronoid/id/UniqueKey" "sequence" "I" (.int y2)) (F2_member : Fld Z h0 a2 "com/example/chronoid/chronoid/id/UniqueKey" "member" "I" (.int z2)) (hr : r = if x1 = x2 ∧ y1 = y2 ∧ z1 = z2 then 1 else 0) :
    MetFree l (⟨"com/example/chronoid/chronoid/id/UniqueKey", "equals", "(Ljava/lang/Object;)Z"⟩ : MethodName) (head1 (Jvm.Cond.code (⟨"com/example/chronoid/chronoid/id/UniqueKey", "equals", "(Ljava/lang/Object;)Z"⟩ : MethodName) prog_10_method_7_code 3 (some .boolean) :: ws) ({ frames := 0, cells := 0, slots := 0, locals := 0 } : Room)) (fun a U => a = #[(.ref a1), (.ref a2)] ∧ Z.Warmed39 U.vm ∧ U.heap = h0) (fun _ _ _ _ _ => True) (fun _ U o U' => ∃ v L, o = .returned v ∧ Q3 Z a1 a2 x1 y1 z1 x2 y2 z2 r h0 n0 v U'.heap L ∧ FrameEnd U o U' L ({ frames := 0, cells := 0, slots := 0, locals := 0 } : Room).cells ({ frames := 0, cells := 0, slots := 0, locals := 0 } : Room).slots) := by
  refine MetFree.of_bodySF (plainFor_of_name pn_0) hisR ?_
  intro p e s m args below meth c s₁ Bd hml0 hP hK
  obtain ⟨rfl, hZ, hh⟩ := hP
  have hx := Bd.exec
  have hby := Bd.bytes
  have hml : c.maxLocals = 3 := hml0
  have hown : s.vm.findClass "com/example/chronoid/chronoid/id/UniqueKey" = some m.cls := findClass_of_methodNamed Bd.named
  have hnm := (name_of_methodNamed Bd.named Bd.method).1
  have hlk : meth.locks = false := BodyLoose.notSynchronized Bd
  have X0 : Stand p l e ({ frames := 0, cells := 0, slots := 0, locals := 0 } : Room) s m #[(.ref a1), (.ref a2)] below meth c s₁ [] 0 0 := Stand.of_body Bd
  have e0 : s₁.heap = h0 := by rw [← hh, Bd.state]; rfl
  have N0 := Fr.nil n0
  suffices hgo : Go p e below s (Q3 Z a1 a2 x1 y1 z1 x2 y2 z2 r h0 n0) ({ frames := 0, cells := 0, slots := 0, locals := 0 } : Room).cells ({ frames := 0, cells := 0, slots := 0, locals := 0 } : Room).slots s₁ (mkF m 0 #[.val (.ref a1), .val (.ref a2), .unset] []) by
    obtain ⟨s₂, o, k1, k2⟩ := hgo
    exact ⟨s₂, o, castTop (ef_3 m a1 a2) k1, k2⟩
  refine Go.st (T' := s₁) (g' := (mkF m 1 #[.val (.ref a1), .val (.ref a2), .unset] [(.ref a2)])) (fun t_ k_ => XS.aloadN X0.here hx rfl (hb hby d3_0) rfl rfl k_) ?_
  obtain ⟨T1, X1, e1, st1⟩ := instY X0 hx hZ hown (hw _ (List.mem_of_getElem? (i := 22) rfl)) e0 (Ins.self E_a2) (g := (mkF m 1 #[.val (.ref a1), .val (.ref a2), .unset] [(.ref a2)])) rfl rfl (hb hby d3_1)
  refine Go.st (T' := T1) (g' := (mkF m 4 #[.val (.ref a1), .val (.ref a2), .unset] [(.int (1 : Int32))])) st1 ?_
  refine Go.st (T' := T1) (g' := (mkF m 7 #[.val (.ref a1), .val (.ref a2), .unset] [])) (fun t_ k_ => XS.ifNo X1.here hx rfl (hb hby d3_4) rfl ((if0 _ _).trans (feq (by decide)).1) k_) ?_
  refine Go.st (T' := T1) (g' := (mkF m 8 #[.val (.ref a1), .val (.ref a2), .unset] [(.ref a2)])) (fun t_ k_ => XS.aloadN X1.here hx rfl (hb hby d3_7) rfl rfl k_) ?_
  obtain ⟨T2, X2, e2, st2⟩ := castY X1 hx hZ hown (hw _ (List.mem_of_getElem? (i := 22) rfl)) e1 (Ins.self E_a2) (g := (mkF m 8 #[.val (.ref a1), .val (.ref a2), .unset] [(.ref a2)])) rfl rfl (hb hby d3_8)
  refine Go.st (T' := T2) (g' := (mkF m 11 #[.val (.ref a1), .val (.ref a2), .unset] [(.ref a2)])) st2 ?_
  refine Go.st (T' := T2) (g' := (mkF m 12 #[.val (.ref a1), .val (.ref a2), .val (.ref a2)] [])) (fun t_ k_ => XS.astoreN X2.here hx rfl (hb hby d3_11) rfl rfl (l' := #[.val (.ref a1), .val (.ref a2), .val (.ref a2)]) rfl k_) ?_
  refine Go.st (T' := T2) (g' := (mkF m 13 #[.val (.ref a1), .val (.ref a2), .val (.ref a2)] [(.ref a1)])) (fun t_ k_ => XS.aloadN X2.here hx rfl (hb hby d3_12) rfl rfl k_) ?_
  obtain ⟨T3, X3, e3, st3⟩ := getF X2 hx hZ hown (host := "") (Or.inl (hw _ (List.mem_of_getElem? (i := 11) rfl))) Via.refl e2 F1_microseconds (g := (mkF m 13 #[.val (.ref a1), .val (.ref a2), .val (.ref a2)] [(.ref a1)])) rfl rfl (hb hby d3_13)
  refine Go.st (T' := T3) (g' := (mkF m 16 #[.val (.ref a1), .val (.ref a2), .val (.ref a2)] [(.long x1)])) st3 ?_
  refine Go.st (T' := T3) (g' := (mkF m 17 #[.val (.ref a1), .val (.ref a2), .val (.ref a2)] [(.ref a2), (.long x1)])) (fun t_ k_ => XS.aloadN X3.here hx rfl (hb hby d3_16) rfl rfl k_) ?_
  obtain ⟨T4, X4, e4, st4⟩ := getF X3 hx hZ hown (host := "") (Or.inl (hw _ (List.mem_of_getElem? (i := 11) rfl))) Via.refl e3 F2_microseconds (g := (mkF m 17 #[.val (.ref a1), .val (.ref a2), .val (.ref a2)] [(.ref a2), (.long x1)])) rfl rfl (hb hby d3_17)
  refine Go.st (T' := T4) (g' := (mkF m 20 #[.val (.ref a1), .val (.ref a2), .val (.ref a2)] [(.long x2), (.long x1)])) st4 ?_
  refine Go.st (T' := T4) (g' := (mkF m 21 #[.val (.ref a1), .val (.ref a2), .val (.ref a2)] [(.int (lcmpW x1 x2))])) (fun t_ k_ => XS.lcmp X4.here hx rfl (hb hby d3_20) rfl k_) ?_
  by_cases hc21 : x1 = x2
  · refine Go.st (T' := T4) (g' := (mkF m 24 #[.val (.ref a1), .val (.ref a2), .val (.ref a2)] [])) (fun t_ k_ => XS.ifNo X4.here hx rfl (hb hby d3_21) rfl ((if0 _ _).trans (teq (lcw_eq hc21)).2) k_) ?_
    refine Go.st (T' := T4) (g' := (mkF m 25 #[.val (.ref a1), .val (.ref a2), .val (.ref a2)] [(.ref a1)])) (fun t_ k_ => XS.aloadN X4.here hx rfl (hb hby d3_24) rfl rfl k_) ?_
    obtain ⟨T5, X5, e5, st5⟩ := getF X4 hx hZ hown (host := "") (Or.inl (hw _ (List.mem_of_getElem? (i := 13) rfl))) Via.refl e4 F1_sequence (g := (mkF m 25 #[.val (.ref a1), .val (.ref a2), .val (.ref a2)] [(.ref a1)])) rfl rfl (hb hby d3_25)
    refine Go.st (T' := T5) (g' := (mkF m 28 #[.val (.ref a1), .val (.ref a2), .val (.ref a2)] [(.int y1)])) st5 ?_
    refine Go.st (T' := T5) (g' := (mkF m 29 #[.val (.ref a1), .val (.ref a2), .val (.ref a2)] [(.ref a2), (.int y1)])) (fun t_ k_ => XS.aloadN X5.here hx rfl (hb hby d3_28) rfl rfl k_) ?_
    obtain ⟨T6, X6, e6, st6⟩ := getF X5 hx hZ hown (host := "") (Or.inl (hw _ (List.mem_of_getElem? (i := 13) rfl))) Via.refl e5 F2_sequence (g := (mkF m 29 #[.val (.ref a1), .val (.ref a2), .val (.ref a2)] [(.ref a2), (.int y1)])) rfl rfl (hb hby d3_29)
    refine Go.st (T' := T6) (g' := (mkF m 32 #[.val (.ref a1), .val (.ref a2), .val (.ref a2)] [(.int y2), (.int y1)])) st6 ?_
    by_cases hc32 : y1 = y2
    · refine Go.st (T' := T6) (g' := (mkF m 35 #[.val (.ref a1), .val (.ref a2), .val (.ref a2)] [])) (fun t_ k_ => XS.icmpNo X6.here hx rfl (hb hby d3_32) rfl (teq hc32).2 k_) ?_
      refine Go.st (T' := T6) (g' := (mkF m 36 #[.val (.ref a1), .val (.ref a2), .val (.ref a2)] [(.ref a1)])) (fun t_ k_ => XS.aloadN X6.here hx rfl (hb hby d3_35) rfl rfl k_) ?_
      obtain ⟨T7, X7, e7, st7⟩ := getF X6 hx hZ hown (host := "") (Or.inl (hw _ (List.mem_of_getElem? (i := 15) rfl))) Via.refl e6 F1_member (g := (mkF m 36 #[.val (.ref a1), .val (.ref a2), .val (.ref a2)] [(.ref a1)])) rfl rfl (hb hby d3_36)
      refine Go.st (T' := T7) (g' := (mkF m 39 #[.val (.ref a1), .val (.ref a2), .val (.ref a2)] [(.int z1)])) st7 ?_
      refine Go.st (T' := T7) (g' := (mkF m 40 #[.val (.ref a1), .val (.ref a2), .val (.ref a2)] [(.ref a2), (.int z1)])) (fun t_ k_ => XS.aloadN X7.here hx rfl (hb hby d3_39) rfl rfl k_) ?_
      obtain ⟨T8, X8, e8, st8⟩ := getF X7 hx hZ hown (host := "") (Or.inl (hw _ (List.mem_of_getElem? (i := 15) rfl))) Via.refl e7 F2_member (g := (mkF m 40 #[.val (.ref a1), .val (.ref a2), .val (.ref a2)] [(.ref a2), (.int z1)])) rfl rfl (hb hby d3_40)
      refine Go.st (T' := T8) (g' := (mkF m 43 #[.val (.ref a1), .val (.ref a2), .val (.ref a2)] [(.int z2), (.int z1)])) st8 ?_
      by_cases hc43 : z1 = z2
      · refine Go.st (T' := T8) (g' := (mkF m 46 #[.val (.ref a1), .val (.ref a2), .val (.ref a2)] [])) (fun t_ k_ => XS.icmpNo X8.here hx rfl (hb hby d3_43) rfl (teq hc43).2 k_) ?_
        refine Go.st (T' := T8) (g' := (mkF m 47 #[.val (.ref a1), .val (.ref a2), .val (.ref a2)] [(.int (1 : Int32))])) (fun t_ k_ => XS.iconst X8.here hx rfl (hb hby d3_46) k_) ?_
        refine Go.st (T' := T8) (g' := (mkF m 51 #[.val (.ref a1), .val (.ref a2), .val (.ref a2)] [(.int (1 : Int32))])) (fun t_ k_ => XS.goto X8.here hx rfl (pc0 := 47) (pc' := 51) rfl (hb hby d3_47) (by decide) (by decide) k_) ?_
        refine Go.retB X8 hx Bd.returns hlk (t := .boolean) (by simp) (hb hby d3_51) (by decide) (by decide) ?_
        rw [e8]
        exact ⟨by rw [hr, if_pos ⟨hc21, hc32, hc43⟩] <;> rfl, N0, rfl⟩
      · refine Go.st (T' := T8) (g' := (mkF m 50 #[.val (.ref a1), .val (.ref a2), .val (.ref a2)] [])) (fun t_ k_ => XS.icmpYes X8.here hx rfl (pc0 := 43) (pc' := 50) rfl (hb hby d3_43) rfl (feq hc43).2 (by decide) (by decide) k_) ?_
        refine Go.st (T' := T8) (g' := (mkF m 51 #[.val (.ref a1), .val (.ref a2), .val (.ref a2)] [(.int (0 : Int32))])) (fun t_ k_ => XS.iconst X8.here hx rfl (hb hby d3_50) k_) ?_
        refine Go.retB X8 hx Bd.returns hlk (t := .boolean) (by simp) (hb hby d3_51) (by decide) (by decide) ?_
        rw [e8]
        exact ⟨by rw [hr, if_neg (fun q => hc43 q.2.2)] <;> rfl, N0, rfl⟩
    · refine Go.st (T' := T6) (g' := (mkF m 50 #[.val (.ref a1), .val (.ref a2), .val (.ref a2)] [])) (fun t_ k_ => XS.icmpYes X6.here hx rfl (pc0 := 32) (pc' := 50) rfl (hb hby d3_32) rfl (feq hc32).2 (by decide) (by decide) k_) ?_
      refine Go.st (T' := T6) (g' := (mkF m 51 #[.val (.ref a1), .val (.ref a2), .val (.ref a2)] [(.int (0 : Int32))])) (fun t_ k_ => XS.iconst X6.here hx rfl (hb hby d3_50) k_) ?_
      refine Go.retB X6 hx Bd.returns hlk (t := .boolean) (by simp) (hb hby d3_51) (by decide) (by decide) ?_
      rw [e6]
      exact ⟨by rw [hr, if_neg (fun q => hc32 q.2.1)] <;> rfl, N0, rfl⟩
  · refine Go.st (T' := T4) (g' := (mkF m 50 #[.val (.ref a1), .val (.ref a2), .val (.ref a2)] [])) (fun t_ k_ => XS.ifYes X4.here hx rfl (pc0 := 21) (pc' := 50) rfl (hb hby d3_21) rfl ((if0 _ _).trans (feq (lcw_ne hc21)).2) (by decide) (by decide) k_) ?_
    refine Go.st (T' := T4) (g' := (mkF m 51 #[.val (.ref a1), .val (.ref a2), .val (.ref a2)] [(.int (0 : Int32))])) (fun t_ k_ => XS.iconst X4.here hx rfl (hb hby d3_50) k_) ?_
    refine Go.retB X4 hx Bd.returns hlk (t := .boolean) (by simp) (hb hby d3_51) (by decide) (by decide) ?_
    rw [e4]
    exact ⟨by rw [hr, if_neg (fun q => hc21 q.1)] <;> rfl, N0, rfl⟩
theorem ef_3n (m : MethodId) (a1 : Addr) : entryFrame m #[(.ref a1), .null] 3 = mkF m 0 #[.val (.ref a1), .val .null, .unset] [] := by first | (simp [entryFrame, mkF, argsToLocals, Value.category]; done) | rfl
def Q3n (Z : State) (a1 : Addr) (h0 : Heap) (n0 : Nat) (v : Option Value) (h : Heap) (L : List Loc) : Prop := v = some (.int 0) ∧ Fr n0 L ∧ h = h0
set_option maxRecDepth 65536 in
set_option maxHeartbeats 40000000 in
theorem rm3n (l : Launch) (Z : State) (a0 : Array Value) (hw : ∀ d ∈ tables_1, d.before a0 Z = true) (ws : List Jvm.Cond) (a1 : Addr) (h0 : Heap) (n0 : Nat) (Z0 : n0 ≤ h0.size)  :
    MetFree l (⟨"com/example/chronoid/chronoid/id/UniqueKey", "equals", "(Ljava/lang/Object;)Z"⟩ : MethodName) (head1 (Jvm.Cond.code (⟨"com/example/chronoid/chronoid/id/UniqueKey", "equals", "(Ljava/lang/Object;)Z"⟩ : MethodName) prog_10_method_7_code 3 (some .boolean) :: ws) ({ frames := 0, cells := 0, slots := 0, locals := 0 } : Room)) (fun a U => a = #[(.ref a1), .null] ∧ Z.Warmed39 U.vm ∧ U.heap = h0) (fun _ _ _ _ _ => True) (fun _ U o U' => ∃ v L, o = .returned v ∧ Q3n Z a1 h0 n0 v U'.heap L ∧ FrameEnd U o U' L ({ frames := 0, cells := 0, slots := 0, locals := 0 } : Room).cells ({ frames := 0, cells := 0, slots := 0, locals := 0 } : Room).slots) := by
  refine MetFree.of_bodySF (plainFor_of_name pn_0) hisR ?_
  intro p e s m args below meth c s₁ Bd hml0 hP hK
  obtain ⟨rfl, hZ, hh⟩ := hP
  have hx := Bd.exec
  have hby := Bd.bytes
  have hml : c.maxLocals = 3 := hml0
  have hown : s.vm.findClass "com/example/chronoid/chronoid/id/UniqueKey" = some m.cls := findClass_of_methodNamed Bd.named
  have hnm := (name_of_methodNamed Bd.named Bd.method).1
  have hlk : meth.locks = false := BodyLoose.notSynchronized Bd
  have X0 : Stand p l e ({ frames := 0, cells := 0, slots := 0, locals := 0 } : Room) s m #[(.ref a1), .null] below meth c s₁ [] 0 0 := Stand.of_body Bd
  have e0 : s₁.heap = h0 := by rw [← hh, Bd.state]; rfl
  have N0 := Fr.nil n0
  suffices hgo : Go p e below s (Q3n Z a1 h0 n0) ({ frames := 0, cells := 0, slots := 0, locals := 0 } : Room).cells ({ frames := 0, cells := 0, slots := 0, locals := 0 } : Room).slots s₁ (mkF m 0 #[.val (.ref a1), .val .null, .unset] []) by
    obtain ⟨s₂, o, k1, k2⟩ := hgo
    exact ⟨s₂, o, castTop (ef_3n m a1) k1, k2⟩
  refine Go.st (T' := s₁) (g' := (mkF m 1 #[.val (.ref a1), .val .null, .unset] [.null])) (fun t_ k_ => XS.aloadN X0.here hx rfl (hb hby d3_0) rfl rfl k_) ?_
  refine Go.st (T' := s₁) (g' := (mkF m 4 #[.val (.ref a1), .val .null, .unset] [(.int (0 : Int32))])) (X0.instanceofNull hx (g := (mkF m 1 #[.val (.ref a1), .val .null, .unset] [.null])) rfl rfl (hb hby d3_1)) ?_
  refine Go.st (T' := s₁) (g' := (mkF m 50 #[.val (.ref a1), .val .null, .unset] [])) (fun t_ k_ => XS.ifYes X0.here hx rfl (pc0 := 4) (pc' := 50) rfl (hb hby d3_4) rfl ((if0 _ _).trans (teq (by decide)).1) (by decide) (by decide) k_) ?_
  refine Go.st (T' := s₁) (g' := (mkF m 51 #[.val (.ref a1), .val .null, .unset] [(.int (0 : Int32))])) (fun t_ k_ => XS.iconst X0.here hx rfl (hb hby d3_50) k_) ?_
  refine Go.retB X0 hx Bd.returns hlk (t := .boolean) (by simp) (hb hby d3_51) (by decide) (by decide) ?_
  rw [e0]
  exact ⟨rfl, N0, rfl⟩
theorem ef_3l (m : MethodId) (a1 : Addr) (a2 : Addr) : entryFrame m #[(.ref a1), (.ref a2)] 3 = mkF m 0 #[.val (.ref a1), .val (.ref a2), .unset] [] := by first | (simp [entryFrame, mkF, argsToLocals, Value.category]; done) | rfl
def Q3l (Z : State) (a1 : Addr) (a2 : Addr) (h0 : Heap) (n0 : Nat) (v : Option Value) (h : Heap) (L : List Loc) : Prop := v = some (.int 0) ∧ Fr n0 L ∧ h = h0
set_option maxRecDepth 65536 in
set_option maxHeartbeats 40000000 in
theorem rm3l (l : Launch) (Z : State) (a0 : Array Value) (hw : ∀ d ∈ tables_1, d.before a0 Z = true) (ws : List Jvm.Cond) (a1 : Addr) (a2 : Addr) (h0 : Heap) (n0 : Nat) (Z0 : n0 ≤ h0.size) (E_a2 : Exa Z h0 a2 "java/lang/Integer") :
    MetFree l (⟨"com/example/chronoid/chronoid/id/UniqueKey", "equals", "(Ljava/lang/Object;)Z"⟩ : MethodName) (head1 (Jvm.Cond.code (⟨"com/example/chronoid/chronoid/id/UniqueKey", "equals", "(Ljava/lang/Object;)Z"⟩ : MethodName) prog_10_method_7_code 3 (some .boolean) :: ws) ({ frames := 0, cells := 0, slots := 0, locals := 0 } : Room)) (fun a U => a = #[(.ref a1), (.ref a2)] ∧ Z.Warmed39 U.vm ∧ U.heap = h0) (fun _ _ _ _ _ => True) (fun _ U o U' => ∃ v L, o = .returned v ∧ Q3l Z a1 a2 h0 n0 v U'.heap L ∧ FrameEnd U o U' L ({ frames := 0, cells := 0, slots := 0, locals := 0 } : Room).cells ({ frames := 0, cells := 0, slots := 0, locals := 0 } : Room).slots) := by
  refine MetFree.of_bodySF (plainFor_of_name pn_0) hisR ?_
  intro p e s m args below meth c s₁ Bd hml0 hP hK
  obtain ⟨rfl, hZ, hh⟩ := hP
  have hx := Bd.exec
  have hby := Bd.bytes
  have hml : c.maxLocals = 3 := hml0
  have hown : s.vm.findClass "com/example/chronoid/chronoid/id/UniqueKey" = some m.cls := findClass_of_methodNamed Bd.named
  have hnm := (name_of_methodNamed Bd.named Bd.method).1
  have hlk : meth.locks = false := BodyLoose.notSynchronized Bd
  have X0 : Stand p l e ({ frames := 0, cells := 0, slots := 0, locals := 0 } : Room) s m #[(.ref a1), (.ref a2)] below meth c s₁ [] 0 0 := Stand.of_body Bd
  have e0 : s₁.heap = h0 := by rw [← hh, Bd.state]; rfl
  have N0 := Fr.nil n0
  suffices hgo : Go p e below s (Q3l Z a1 a2 h0 n0) ({ frames := 0, cells := 0, slots := 0, locals := 0 } : Room).cells ({ frames := 0, cells := 0, slots := 0, locals := 0 } : Room).slots s₁ (mkF m 0 #[.val (.ref a1), .val (.ref a2), .unset] []) by
    obtain ⟨s₂, o, k1, k2⟩ := hgo
    exact ⟨s₂, o, castTop (ef_3l m a1 a2) k1, k2⟩
  refine Go.st (T' := s₁) (g' := (mkF m 1 #[.val (.ref a1), .val (.ref a2), .unset] [(.ref a2)])) (fun t_ k_ => XS.aloadN X0.here hx rfl (hb hby d3_0) rfl rfl k_) ?_
  obtain ⟨T1, X1, e1, st1⟩ := instNo X0 hx hZ hown (hw _ (List.mem_of_getElem? (i := 22) rfl)) e0 E_a2 (own_no (hw _ (List.mem_of_getElem? (i := 31) rfl)) (hw _ (List.mem_of_getElem? (i := 3) rfl)) (NS.step (hw _ (List.mem_of_getElem? (i := 31) rfl)) (NS.step (hw _ (List.mem_of_getElem? (i := 32) rfl)) (own_root (hw _ (List.mem_of_getElem? (i := 33) rfl)) (hw _ (List.mem_of_getElem? (i := 3) rfl)) (by decide)) (by decide)) (by decide)) (by decide)) (g := (mkF m 1 #[.val (.ref a1), .val (.ref a2), .unset] [(.ref a2)])) rfl rfl (hb hby d3_1)
  refine Go.st (T' := T1) (g' := (mkF m 4 #[.val (.ref a1), .val (.ref a2), .unset] [(.int (0 : Int32))])) st1 ?_
  refine Go.st (T' := T1) (g' := (mkF m 50 #[.val (.ref a1), .val (.ref a2), .unset] [])) (fun t_ k_ => XS.ifYes X1.here hx rfl (pc0 := 4) (pc' := 50) rfl (hb hby d3_4) rfl ((if0 _ _).trans (teq (by decide)).1) (by decide) (by decide) k_) ?_
  refine Go.st (T' := T1) (g' := (mkF m 51 #[.val (.ref a1), .val (.ref a2), .unset] [(.int (0 : Int32))])) (fun t_ k_ => XS.iconst X1.here hx rfl (hb hby d3_50) k_) ?_
  refine Go.retB X1 hx Bd.returns hlk (t := .boolean) (by simp) (hb hby d3_51) (by decide) (by decide) ?_
  rw [e1]
  exact ⟨rfl, N0, rfl⟩
theorem pn_1 : plainName "java/lang/Number" = true := by first | (simp [plainName, overriddenIn]; done) | decide +kernel
theorem d6_0 : decode jdk_18_method_1_code 0 = .ok (.aload_n 0, 1) := by decide +kernel
theorem d6_1 : decode jdk_18_method_1_code 1 = .ok (.invokespecial 1, 3) := by decide +kernel
theorem d6_4 : decode jdk_18_method_1_code 4 = .ok (.return_, 1) := by decide +kernel
theorem ef_6 (m : MethodId) (a1 : Addr) : entryFrame m #[(.ref a1)] 1 = mkF m 0 #[.val (.ref a1)] [] := by first | (simp [entryFrame, mkF, argsToLocals, Value.category]; done) | rfl
def Q6 (Z : State) (a1 : Addr) (h0 : Heap) (n0 : Nat) (v : Option Value) (h : Heap) (L : List Loc) : Prop := v = none ∧ Fr n0 L ∧ h = h0
set_option maxRecDepth 65536 in
set_option maxHeartbeats 40000000 in
theorem rm6 (l : Launch) (Z : State) (a0 : Array Value) (hw : ∀ d ∈ tables_1, d.before a0 Z = true) (ws : List Jvm.Cond) (a1 : Addr) (h0 : Heap) (n0 : Nat) (Z0 : n0 ≤ h0.size)  :
    MetFree l (⟨"java/lang/Number", "<init>", "()V"⟩ : MethodName) (head1 (Jvm.Cond.code (⟨"java/lang/Number", "<init>", "()V"⟩ : MethodName) jdk_18_method_1_code 1 none :: ws) ({ frames := 1, cells := 0, slots := 0, locals := 12 } : Room)) (fun a U => a = #[(.ref a1)] ∧ Z.Warmed39 U.vm ∧ U.heap = h0) (fun _ _ _ _ _ => True) (fun _ U o U' => ∃ v L, o = .returned v ∧ Q6 Z a1 h0 n0 v U'.heap L ∧ FrameEnd U o U' L ({ frames := 1, cells := 0, slots := 0, locals := 12 } : Room).cells ({ frames := 1, cells := 0, slots := 0, locals := 12 } : Room).slots) := by
  refine MetFree.of_bodySF (plainFor_of_name pn_1) hisR ?_
  intro p e s m args below meth c s₁ Bd hml0 hP hK
  obtain ⟨rfl, hZ, hh⟩ := hP
  have hx := Bd.exec
  have hby := Bd.bytes
  have hml : c.maxLocals = 1 := hml0
  have hown : s.vm.findClass "java/lang/Number" = some m.cls := findClass_of_methodNamed Bd.named
  have hnm := (name_of_methodNamed Bd.named Bd.method).1
  have hlk : meth.locks = false := BodyLoose.notSynchronized Bd
  have X0 : Stand p l e ({ frames := 1, cells := 0, slots := 0, locals := 12 } : Room) s m #[(.ref a1)] below meth c s₁ [] 0 0 := Stand.of_body Bd
  have e0 : s₁.heap = h0 := by rw [← hh, Bd.state]; rfl
  have N0 := Fr.nil n0
  suffices hgo : Go p e below s (Q6 Z a1 h0 n0) ({ frames := 1, cells := 0, slots := 0, locals := 12 } : Room).cells ({ frames := 1, cells := 0, slots := 0, locals := 12 } : Room).slots s₁ (mkF m 0 #[.val (.ref a1)] []) by
    obtain ⟨s₂, o, k1, k2⟩ := hgo
    exact ⟨s₂, o, castTop (ef_6 m a1) k1, k2⟩
  refine Go.st (T' := s₁) (g' := (mkF m 1 #[.val (.ref a1)] [(.ref a1)])) (fun t_ k_ => XS.aloadN X0.here hx rfl (hb hby d6_0) rfl rfl k_) ?_
  obtain ⟨T1, X1, e1, st1⟩ := initO X0 hx hZ hown (hw _ (List.mem_of_getElem? (i := 46) rfl)) (hw _ (List.mem_of_getElem? (i := 9) rfl)) (hw _ (List.mem_of_getElem? (i := 10) rfl)) e0 (g := (mkF m 1 #[.val (.ref a1)] [(.ref a1)])) rfl (by rw [hml]; rfl) rfl (hb hby d6_1) (by decide) (W := 0) (by show 2 * 0 + _ ≤ _; exact Nat.le_of_eq rfl) (by decide)
  refine Go.st (T' := T1) (g' := (mkF m 4 #[.val (.ref a1)] [])) st1 ?_
  refine Go.ret0 X1 hx Bd.returns hlk (hb hby d6_4) (by decide) (by decide) ?_
  rw [e1]
  exact ⟨rfl, N0, rfl⟩
theorem pn_2 : plainName "java/lang/Integer" = true := by first | (simp [plainName, overriddenIn]; done) | decide +kernel
theorem pd_0 : parseMethodDescriptor "()V" = some ⟨[], none⟩ := by decide +kernel
theorem d5_0 : decode jdk_33_method_23_code 0 = .ok (.aload_n 0, 1) := by decide +kernel
theorem d5_1 : decode jdk_33_method_23_code 1 = .ok (.invokespecial 202, 3) := by decide +kernel
theorem d5_4 : decode jdk_33_method_23_code 4 = .ok (.aload_n 0, 1) := by decide +kernel
theorem d5_5 : decode jdk_33_method_23_code 5 = .ok (.iload_n 1, 1) := by decide +kernel
theorem d5_6 : decode jdk_33_method_23_code 6 = .ok (.putfield 205, 3) := by decide +kernel
theorem d5_9 : decode jdk_33_method_23_code 9 = .ok (.return_, 1) := by decide +kernel
theorem ef_5 (m : MethodId) (a1 : Addr) (x1 : Int32) : entryFrame m #[(.ref a1), (.int x1)] 2 = mkF m 0 #[.val (.ref a1), .val (.int x1)] [] := by first | (simp [entryFrame, mkF, argsToLocals, Value.category]; done) | rfl
def Q5 (Z : State) (a1 : Addr) (x1 : Int32) (h0 : Heap) (n0 : Nat) (v : Option Value) (h : Heap) (L : List Loc) : Prop := v = none ∧ Fr n0 L ∧ Keep h0 h [a1] ∧ Exa Z h a1 "java/lang/Integer"
set_option maxRecDepth 65536 in
set_option maxHeartbeats 40000000 in
theorem rm5 (l : Launch) (Z : State) (a0 : Array Value) (hw : ∀ d ∈ tables_1, d.before a0 Z = true) (ws : List Jvm.Cond) (a1 : Addr) (x1 : Int32) (h0 : Heap) (n0 : Nat) (Z0 : n0 ≤ h0.size) (E_a1 : Exa Z h0 a1 "java/lang/Integer") (g_a1 : n0 ≤ a1) (F_v : Fld Z h0 a1 "java/lang/Integer" "value" "I" (.int (0 : Int32))) :
    MetFree l (⟨"java/lang/Integer", "<init>", "(I)V"⟩ : MethodName) (head1 (Jvm.Cond.code (⟨"java/lang/Integer", "<init>", "(I)V"⟩ : MethodName) jdk_33_method_23_code 2 none :: ws) ({ frames := 2, cells := 0, slots := 0, locals := 24 } : Room)) (fun a U => a = #[(.ref a1), (.int x1)] ∧ Z.Warmed39 U.vm ∧ U.heap = h0) (fun _ _ _ _ _ => True) (fun _ U o U' => ∃ v L, o = .returned v ∧ Q5 Z a1 x1 h0 n0 v U'.heap L ∧ FrameEnd U o U' L ({ frames := 2, cells := 0, slots := 0, locals := 24 } : Room).cells ({ frames := 2, cells := 0, slots := 0, locals := 24 } : Room).slots) := by
  refine MetFree.of_bodySF (plainFor_of_name pn_2) hisR ?_
  intro p e s m args below meth c s₁ Bd hml0 hP hK
  obtain ⟨rfl, hZ, hh⟩ := hP
  have hx := Bd.exec
  have hby := Bd.bytes
  have hml : c.maxLocals = 2 := hml0
  have hown : s.vm.findClass "java/lang/Integer" = some m.cls := findClass_of_methodNamed Bd.named
  have hnm := (name_of_methodNamed Bd.named Bd.method).1
  have hlk : meth.locks = false := BodyLoose.notSynchronized Bd
  have X0 : Stand p l e ({ frames := 2, cells := 0, slots := 0, locals := 24 } : Room) s m #[(.ref a1), (.int x1)] below meth c s₁ [] 0 0 := Stand.of_body Bd
  have e0 : s₁.heap = h0 := by rw [← hh, Bd.state]; rfl
  have N0 := Fr.nil n0
  suffices hgo : Go p e below s (Q5 Z a1 x1 h0 n0) ({ frames := 2, cells := 0, slots := 0, locals := 24 } : Room).cells ({ frames := 2, cells := 0, slots := 0, locals := 24 } : Room).slots s₁ (mkF m 0 #[.val (.ref a1), .val (.int x1)] []) by
    obtain ⟨s₂, o, k1, k2⟩ := hgo
    exact ⟨s₂, o, castTop (ef_5 m a1 x1) k1, k2⟩
  refine Go.st (T' := s₁) (g' := (mkF m 1 #[.val (.ref a1), .val (.int x1)] [(.ref a1)])) (fun t_ k_ => XS.aloadN X0.here hx rfl (hb hby d5_0) rfl rfl k_) ?_
  obtain ⟨_, _, ⟨T1, L1, k1, n1⟩, -, X1, ⟨Lc1, hQ1, l1, y1, z1⟩, st1⟩ := X0.specialBack hx (y := (⟨"java/lang/Number", "<init>", "()V"⟩ : MethodName)) rfl hown (mvT hZ (hw _ (List.mem_of_getElem? (i := 40) rfl))) (mvT hZ (hw _ (List.mem_of_getElem? (i := 41) rfl))) (mvT hZ (hw _ (List.mem_of_getElem? (i := 45) rfl))) (by decide) (backOf (W := 0) (rm6 l Z a0 hw [] a1  h0 n0 Z0 ) hZ (hw _ (List.mem_of_getElem? (i := 45) rfl)) (hw _ (List.mem_of_getElem? (i := 44) rfl)) (by decide) (by decide)) (g := (mkF m 1 #[.val (.ref a1), .val (.int x1)] [(.ref a1)])) rfl (by rw [hml]; rfl) (Steps.refl _) (a := a1) (argsL := []) (rest := []) (lenOf pd_0 rfl) rfl (by show 2 * 0 + _ ≤ _; exact Nat.le_of_eq rfl) (hb hby d5_1) (fun _ _ => ⟨rfl, e0, (by decide : 0 + 0 ≤ _), (by decide : 0 + 0 ≤ _)⟩)
  dsimp only [Pt.U, Pt.locs, Pt.cells, Pt.slots] at X1 l1 y1 z1 st1 hQ1
  subst l1 y1 z1
  obtain ⟨rfl, Nq1, e1⟩ := hQ1
  have N1 := Fr.app N0 Nq1
  refine Go.ts (T' := T1) (g' := (mkF m 4 #[.val (.ref a1), .val (.int x1)] [])) st1 ?_
  refine Go.st (T' := T1) (g' := (mkF m 5 #[.val (.ref a1), .val (.int x1)] [(.ref a1)])) (fun t_ k_ => XS.aloadN X1.here hx rfl (hb hby d5_4) rfl rfl k_) ?_
  refine Go.st (T' := T1) (g' := (mkF m 6 #[.val (.ref a1), .val (.int x1)] [(.int x1), (.ref a1)])) (fun t_ k_ => XS.iloadN X1.here hx rfl (hb hby d5_5) rfl  k_) ?_
  obtain ⟨T2, h2, X2, e2, W2, st2⟩ := putF X1 hx hZ hown (host := "") (Or.inl (hw _ (List.mem_of_getElem? (i := 47) rfl))) Via.refl e1 F_v E_a1 (Or.inr ⟨(hw _ (List.mem_of_getElem? (i := 48) rfl)), rfl, hnm⟩) (hw _ (List.mem_of_getElem? (i := 35) rfl)) (ty := .int) (by decide) rfl rfl (g := (mkF m 6 #[.val (.ref a1), .val (.int x1)] [(.int x1), (.ref a1)])) rfl rfl (hb hby d5_6)
  have Fw2 := Fld.same W2 F_v
  have K2 := Keep.wr (Keep.refl h0 [a1]) W2 (Or.inl (List.mem_of_getElem? (i := 0) rfl))
  have N2 := Fr.snoc X2 N1 g_a1
  refine Go.st (T' := T2) (g' := (mkF m 9 #[.val (.ref a1), .val (.int x1)] [])) st2 ?_
  refine Go.ret0 X2 hx Bd.returns hlk (hb hby d5_9) (by decide) (by decide) ?_
  rw [e2]
  exact ⟨rfl, N2, K2, (Exa.wr W2 E_a1)⟩
theorem pd_1 : parseMethodDescriptor "(I)V" = some ⟨[.int], none⟩ := by decide +kernel
theorem d4_0 : decode jdk_33_method_22_code 0 = .ok (.iload_n 0, 1) := by decide +kernel
theorem d4_1 : decode jdk_33_method_22_code 1 = .ok (.bipush (-128), 2) := by decide +kernel
theorem d4_3 : decode jdk_33_method_22_code 3 = .ok (.if_icmp .lt 20, 3) := by decide +kernel
theorem d4_6 : decode jdk_33_method_22_code 6 = .ok (.iload_n 0, 1) := by decide +kernel
theorem d4_7 : decode jdk_33_method_22_code 7 = .ok (.getstatic 191, 3) := by decide +kernel
theorem d4_10 : decode jdk_33_method_22_code 10 = .ok (.if_icmp .gt 13, 3) := by decide +kernel
theorem d4_13 : decode jdk_33_method_22_code 13 = .ok (.getstatic 195, 3) := by decide +kernel
theorem d4_16 : decode jdk_33_method_22_code 16 = .ok (.iload_n 0, 1) := by decide +kernel
theorem d4_17 : decode jdk_33_method_22_code 17 = .ok (.sipush 128, 3) := by decide +kernel
theorem d4_20 : decode jdk_33_method_22_code 20 = .ok (.iadd, 1) := by decide +kernel
theorem d4_21 : decode jdk_33_method_22_code 21 = .ok (.aaload, 1) := by decide +kernel
theorem d4_22 : decode jdk_33_method_22_code 22 = .ok (.areturn, 1) := by decide +kernel
theorem d4_23 : decode jdk_33_method_22_code 23 = .ok (.new 1, 3) := by decide +kernel
theorem d4_26 : decode jdk_33_method_22_code 26 = .ok (.dup, 1) := by decide +kernel
theorem d4_27 : decode jdk_33_method_22_code 27 = .ok (.iload_n 0, 1) := by decide +kernel
theorem d4_28 : decode jdk_33_method_22_code 28 = .ok (.invokespecial 199, 3) := by decide +kernel
theorem d4_31 : decode jdk_33_method_22_code 31 = .ok (.areturn, 1) := by decide +kernel
theorem ef_4 (m : MethodId) (x1 : Int32) : entryFrame m #[(.int x1)] 1 = mkF m 0 #[.val (.int x1)] [] := by first | (simp [entryFrame, mkF, argsToLocals, Value.category]; done) | rfl
def Q4 (Z : State) (x1 : Int32) (ar : Addr) (cl : Cell) (h0 : Heap) (n0 : Nat) (v : Option Value) (h : Heap) (L : List Loc) : Prop := ∃ b : Addr, v = some (.ref b) ∧ Fr n0 L ∧ Keep h0 h [] ∧ Exa Z h b "java/lang/Integer"
set_option maxRecDepth 65536 in
set_option maxHeartbeats 40000000 in
theorem rm4 (l : Launch) (Z : State) (a0 : Array Value) (hw : ∀ d ∈ tables_1, d.before a0 Z = true) (ws : List Jvm.Cond) (x1 : Int32) (ar : Addr) (cl : Cell) (h0 : Heap) (n0 : Nat) (Z0 : n0 ≤ h0.size) (S_h : Sta Z h0 "java/lang/Integer$IntegerCache" "high" "I" (.int (127 : Int32))) (S_c : Sta Z h0 "java/lang/Integer$IntegerCache" "cache" "[Ljava/lang/Integer;" (.ref ar)) (A_c : Arr Z h0 ar cl (.object "java/lang/Integer")) (z_c : cl.slots.size = 256) (hb_c : ∀ j : Int32, ¬ (j < 0 ∨ cl.slots.size ≤ j.toNatClampNeg) → ∃ b : Addr, cl.slots[j.toNatClampNeg]? = some (.ref b) ∧ Exa Z h0 b "java/lang/Integer") :
    MetFree l (⟨"java/lang/Integer", "valueOf", "(I)Ljava/lang/Integer;"⟩ : MethodName) (head1 (Jvm.Cond.code (⟨"java/lang/Integer", "valueOf", "(I)Ljava/lang/Integer;"⟩ : MethodName) jdk_33_method_22_code 1 (some (.object "java/lang/Integer")) :: ws) ({ frames := 3, cells := 1, slots := 1, locals := 38 } : Room)) (fun a U => a = #[(.int x1)] ∧ Z.Warmed39 U.vm ∧ U.heap = h0) (fun _ _ _ _ _ => True) (fun _ U o U' => ∃ v L, o = .returned v ∧ Q4 Z x1 ar cl h0 n0 v U'.heap L ∧ FrameEnd U o U' L ({ frames := 3, cells := 1, slots := 1, locals := 38 } : Room).cells ({ frames := 3, cells := 1, slots := 1, locals := 38 } : Room).slots) := by
  refine MetFree.of_bodySF (plainFor_of_name pn_2) hisR ?_
  intro p e s m args below meth c s₁ Bd hml0 hP hK
  obtain ⟨rfl, hZ, hh⟩ := hP
  have hx := Bd.exec
  have hby := Bd.bytes
  have hml : c.maxLocals = 1 := hml0
  have hown : s.vm.findClass "java/lang/Integer" = some m.cls := findClass_of_methodNamed Bd.named
  have hnm := (name_of_methodNamed Bd.named Bd.method).1
  have hlk : meth.locks = false := BodyLoose.notSynchronized Bd
  have X0 : Stand p l e ({ frames := 3, cells := 1, slots := 1, locals := 38 } : Room) s m #[(.int x1)] below meth c s₁ [] 0 0 := Stand.of_body Bd
  have e0 : s₁.heap = h0 := by rw [← hh, Bd.state]; rfl
  have N0 := Fr.nil n0
  suffices hgo : Go p e below s (Q4 Z x1 ar cl h0 n0) ({ frames := 3, cells := 1, slots := 1, locals := 38 } : Room).cells ({ frames := 3, cells := 1, slots := 1, locals := 38 } : Room).slots s₁ (mkF m 0 #[.val (.int x1)] []) by
    obtain ⟨s₂, o, k1, k2⟩ := hgo
    exact ⟨s₂, o, castTop (ef_4 m x1) k1, k2⟩
  refine Go.st (T' := s₁) (g' := (mkF m 1 #[.val (.int x1)] [(.int x1)])) (fun t_ k_ => XS.iloadN X0.here hx rfl (hb hby d4_0) rfl  k_) ?_
  refine Go.st (T' := s₁) (g' := (mkF m 3 #[.val (.int x1)] [(.int (-128 : Int32)), (.int x1)])) (fun t_ k_ => XS.bipush X0.here hx rfl (hb hby d4_1) k_) ?_
  by_cases hc3 : x1 < (-128 : Int32)
  · refine Go.st (T' := s₁) (g' := (mkF m 23 #[.val (.int x1)] [])) (fun t_ k_ => XS.icmpYes X0.here hx rfl (pc0 := 3) (pc' := 23) rfl (hb hby d4_3) rfl (tlt hc3).1 (by decide) (by decide) k_) ?_
    obtain ⟨T1, h1, X1, e1, E1, A1, D1, -, st1⟩ := newO X0 hx hZ hown (hw _ (List.mem_of_getElem? (i := 34) rfl)) (hw _ (List.mem_of_getElem? (i := 35) rfl)) (hw _ (List.mem_of_getElem? (i := 26) rfl)) e0 (g := (mkF m 23 #[.val (.int x1)] [])) rfl (hb hby d4_23) (by decide) (by decide)
    obtain ⟨b1, q1⟩ : ∃ z, z = h0.size := ⟨_, rfl⟩
    rw [← q1] at A1 D1 st1
    have Fvalue_b1 : Fld Z h1 b1 "java/lang/Integer" "value" "I" (.int (0 : Int32)) := D1 (Or.inr (hw _ (List.mem_of_getElem? (i := 48) rfl))) (ty := .int) (by decide)
    have g_b1 : n0 ≤ b1 := Nat.le_trans Z0 (Nat.le_of_eq q1.symm)
    have sz_b1 : h0.size ≤ b1 := Nat.le_trans ((Keep.refl h0 [])).1 (Nat.le_of_eq q1.symm)
    have K1 := Keep.ext (Keep.refl h0 []) E1
    refine Go.st (T' := T1) (g' := (mkF m 26 #[.val (.int x1)] [(.ref b1)])) st1 ?_
    refine Go.st (T' := T1) (g' := (mkF m 27 #[.val (.int x1)] [(.ref b1), (.ref b1)])) (fun t_ k_ => XS.dup X1.here hx rfl (hb hby d4_26) rfl rfl k_) ?_
    refine Go.st (T' := T1) (g' := (mkF m 28 #[.val (.int x1)] [(.int x1), (.ref b1), (.ref b1)])) (fun t_ k_ => XS.iloadN X1.here hx rfl (hb hby d4_27) rfl  k_) ?_
    obtain ⟨_, _, ⟨T2, L2, k2, n2⟩, -, X2, ⟨Lc2, hQ2, l2, y2, z2⟩, st2⟩ := X1.specialBack hx (y := (⟨"java/lang/Integer", "<init>", "(I)V"⟩ : MethodName)) rfl hown (mvT hZ (hw _ (List.mem_of_getElem? (i := 36) rfl))) (mvT hZ (hw _ (List.mem_of_getElem? (i := 37) rfl))) (mvT hZ (hw _ (List.mem_of_getElem? (i := 39) rfl))) (by decide) (backOf (W := 1) (rm5 l Z a0 hw [] b1 x1  h1 n0 (Nat.le_trans Z0 E1.1) A1 g_b1 Fvalue_b1) hZ (hw _ (List.mem_of_getElem? (i := 39) rfl)) (hw _ (List.mem_of_getElem? (i := 26) rfl)) (by decide) (by decide)) (g := (mkF m 28 #[.val (.int x1)] [(.int x1), (.ref b1), (.ref b1)])) rfl (by rw [hml]; rfl) (Steps.refl _) (a := b1) (argsL := [(.int x1)]) (rest := [(.ref b1)]) (lenOf pd_1 rfl) rfl (by show 2 * 0 + _ ≤ _; exact Nat.le_of_eq rfl) (hb hby d4_28) (fun _ _ => ⟨rfl, e1, (by decide : 1 + 0 ≤ _), (by decide : 1 + 0 ≤ _)⟩)
    dsimp only [Pt.U, Pt.locs, Pt.cells, Pt.slots] at X2 l2 y2 z2 st2 hQ2
    subst l2 y2 z2
    obtain ⟨rfl, Nq2, Kq2, Eq2⟩ := hQ2
    have N2 := Fr.app N0 Nq2
    refine Go.ts (T' := T2) (g' := (mkF m 31 #[.val (.int x1)] [(.ref b1)])) st2 ?_
    refine Go.retA X2 hx Bd.returns hlk rfl rfl rfl (hb hby d4_31) (by decide) (by decide) ?_
    exact ⟨b1, rfl, N2, (Keep.trans K1 Kq2 (allS (Or.inr sz_b1) all0)), Eq2⟩
  · refine Go.st (T' := s₁) (g' := (mkF m 6 #[.val (.int x1)] [])) (fun t_ k_ => XS.icmpNo X0.here hx rfl (hb hby d4_3) rfl (flt hc3).1 k_) ?_
    refine Go.st (T' := s₁) (g' := (mkF m 7 #[.val (.int x1)] [(.int x1)])) (fun t_ k_ => XS.iloadN X0.here hx rfl (hb hby d4_6) rfl  k_) ?_
    obtain ⟨T3, X3, e3, st3⟩ := getS2 X0 hx hZ hown (host := "") (Or.inl (hw _ (List.mem_of_getElem? (i := 28) rfl))) Via.refl e0 S_h (g := (mkF m 7 #[.val (.int x1)] [(.int x1)])) rfl (hb hby d4_7)
    refine Go.st (T' := T3) (g' := (mkF m 10 #[.val (.int x1)] [(.int (127 : Int32)), (.int x1)])) st3 ?_
    by_cases hc10 : (127 : Int32) < x1
    · refine Go.st (T' := T3) (g' := (mkF m 23 #[.val (.int x1)] [])) (fun t_ k_ => XS.icmpYes X3.here hx rfl (pc0 := 10) (pc' := 23) rfl (hb hby d4_10) rfl (tlt hc10).2.2.1 (by decide) (by decide) k_) ?_
      obtain ⟨T4, h4, X4, e4, E4, A4, D4, -, st4⟩ := newO X3 hx hZ hown (hw _ (List.mem_of_getElem? (i := 34) rfl)) (hw _ (List.mem_of_getElem? (i := 35) rfl)) (hw _ (List.mem_of_getElem? (i := 26) rfl)) e3 (g := (mkF m 23 #[.val (.int x1)] [])) rfl (hb hby d4_23) (by decide) (by decide)
      obtain ⟨b4, q4⟩ : ∃ z, z = h0.size := ⟨_, rfl⟩
      rw [← q4] at A4 D4 st4
      have Fvalue_b4 : Fld Z h4 b4 "java/lang/Integer" "value" "I" (.int (0 : Int32)) := D4 (Or.inr (hw _ (List.mem_of_getElem? (i := 48) rfl))) (ty := .int) (by decide)
      have g_b4 : n0 ≤ b4 := Nat.le_trans Z0 (Nat.le_of_eq q4.symm)
      have sz_b4 : h0.size ≤ b4 := Nat.le_trans ((Keep.refl h0 [])).1 (Nat.le_of_eq q4.symm)
      have K4 := Keep.ext (Keep.refl h0 []) E4
      refine Go.st (T' := T4) (g' := (mkF m 26 #[.val (.int x1)] [(.ref b4)])) st4 ?_
      refine Go.st (T' := T4) (g' := (mkF m 27 #[.val (.int x1)] [(.ref b4), (.ref b4)])) (fun t_ k_ => XS.dup X4.here hx rfl (hb hby d4_26) rfl rfl k_) ?_
      refine Go.st (T' := T4) (g' := (mkF m 28 #[.val (.int x1)] [(.int x1), (.ref b4), (.ref b4)])) (fun t_ k_ => XS.iloadN X4.here hx rfl (hb hby d4_27) rfl  k_) ?_
      obtain ⟨_, _, ⟨T5, L5, k5, n5⟩, -, X5, ⟨Lc5, hQ5, l5, y5, z5⟩, st5⟩ := X4.specialBack hx (y := (⟨"java/lang/Integer", "<init>", "(I)V"⟩ : MethodName)) rfl hown (mvT hZ (hw _ (List.mem_of_getElem? (i := 36) rfl))) (mvT hZ (hw _ (List.mem_of_getElem? (i := 37) rfl))) (mvT hZ (hw _ (List.mem_of_getElem? (i := 39) rfl))) (by decide) (backOf (W := 1) (rm5 l Z a0 hw [] b4 x1  h4 n0 (Nat.le_trans Z0 E4.1) A4 g_b4 Fvalue_b4) hZ (hw _ (List.mem_of_getElem? (i := 39) rfl)) (hw _ (List.mem_of_getElem? (i := 26) rfl)) (by decide) (by decide)) (g := (mkF m 28 #[.val (.int x1)] [(.int x1), (.ref b4), (.ref b4)])) rfl (by rw [hml]; rfl) (Steps.refl _) (a := b4) (argsL := [(.int x1)]) (rest := [(.ref b4)]) (lenOf pd_1 rfl) rfl (by show 2 * 0 + _ ≤ _; exact Nat.le_of_eq rfl) (hb hby d4_28) (fun _ _ => ⟨rfl, e4, (by decide : 1 + 0 ≤ _), (by decide : 1 + 0 ≤ _)⟩)
      dsimp only [Pt.U, Pt.locs, Pt.cells, Pt.slots] at X5 l5 y5 z5 st5 hQ5
      subst l5 y5 z5
      obtain ⟨rfl, Nq5, Kq5, Eq5⟩ := hQ5
      have N5 := Fr.app N0 Nq5
      refine Go.ts (T' := T5) (g' := (mkF m 31 #[.val (.int x1)] [(.ref b4)])) st5 ?_
      refine Go.retA X5 hx Bd.returns hlk rfl rfl rfl (hb hby d4_31) (by decide) (by decide) ?_
      exact ⟨b4, rfl, N5, (Keep.trans K4 Kq5 (allS (Or.inr sz_b4) all0)), Eq5⟩
    · refine Go.st (T' := T3) (g' := (mkF m 13 #[.val (.int x1)] [])) (fun t_ k_ => XS.icmpNo X3.here hx rfl (hb hby d4_10) rfl (flt hc10).2.2.1 k_) ?_
      obtain ⟨T6, X6, e6, st6⟩ := getS2 X3 hx hZ hown (host := "") (Or.inl (hw _ (List.mem_of_getElem? (i := 30) rfl))) Via.refl e3 S_c (g := (mkF m 13 #[.val (.int x1)] [])) rfl (hb hby d4_13)
      refine Go.st (T' := T6) (g' := (mkF m 16 #[.val (.int x1)] [(.ref ar)])) st6 ?_
      refine Go.st (T' := T6) (g' := (mkF m 17 #[.val (.int x1)] [(.int x1), (.ref ar)])) (fun t_ k_ => XS.iloadN X6.here hx rfl (hb hby d4_16) rfl  k_) ?_
      refine Go.st (T' := T6) (g' := (mkF m 20 #[.val (.int x1)] [(.int (128 : Int32)), (.int x1), (.ref ar)])) (fun t_ k_ => XS.sipush X6.here hx rfl (hb hby d4_17) k_) ?_
      refine Go.st (T' := T6) (g' := (mkF m 21 #[.val (.int x1)] [(.int (x1 + (128 : Int32))), (.ref ar)])) (fun t_ k_ => XS.iadd X6.here hx rfl (hb hby d4_20) rfl k_) ?_
      have hin : ¬ ((x1 + (128 : Int32)) < 0 ∨ cl.slots.size ≤ ((x1 + (128 : Int32))).toNatClampNeg) := by rw [z_c]; exact (Jvm.Free.IntBox.place_ok x1 hc3 hc10).1
      obtain ⟨bx, hat, E_bx⟩ := hb_c (x1 + (128 : Int32)) hin
      refine Go.st (T' := T6) (g' := (mkF m 22 #[.val (.int x1)] [(.ref bx)])) (X6.aaload hx (j := (x1 + (128 : Int32))) (v := (.ref bx)) (by rw [e6]; exact A_c.1) (State.isArrayOf_alike hZ.alike A_c.2.1) rfl A_c.2.2 hin hat (g := (mkF m 21 #[.val (.int x1)] [(.int (x1 + (128 : Int32))), (.ref ar)])) rfl rfl (hb hby d4_21)) ?_
      refine Go.retA X6 hx Bd.returns hlk rfl rfl rfl (hb hby d4_22) (by decide) (by decide) ?_
      rw [e6]
      exact ⟨bx, rfl, N0, (Keep.refl h0 []), E_bx⟩
theorem pn_3 : plainName "com/example/chronoid/chronoid/id/UniqueKeyEqualsPinLaw" = true := by first | (simp [plainName, overriddenIn]; done) | decide +kernel
theorem pd_2 : parseMethodDescriptor "(JII)V" = some ⟨[.long, .int, .int], none⟩ := by decide +kernel
theorem pd_3 : parseMethodDescriptor "(Ljava/lang/Object;)Z" = some ⟨[(.object "java/lang/Object")], some .boolean⟩ := by decide +kernel
theorem pd_4 : parseMethodDescriptor "(I)Ljava/lang/Integer;" = some ⟨[.int], some (.object "java/lang/Integer")⟩ := by decide +kernel
theorem ef_0 (m : MethodId) (p1 : Int64) (p2 : Int64) (p3 : Int32) (p4 : Int32) (p5 : Int32) (p6 : Int32) : entryFrame m #[(.long p1), (.long p2), (.int p3), (.int p4), (.int p5), (.int p6)] maxLocals = mkF m 0 #[.val (.long p1), .second, .val (.long p2), .second, .val (.int p3), .val (.int p4), .val (.int p5), .val (.int p6), .unset, .unset, .unset, .unset, .unset, .unset, .unset, .unset, .unset, .unset, .unset, .unset, .unset] [] := by first | (simp [entryFrame, mkF, argsToLocals, Value.category, maxLocals]; done) | rfl
def Q0 (Z : State) (p1 : Int64) (p2 : Int64) (p3 : Int32) (p4 : Int32) (p5 : Int32) (p6 : Int32) (ar : Addr) (cl : Cell) (h0 : Heap) (n0 : Nat) (v : Option Value) (h : Heap) (L : List Loc) : Prop := v = some (.int 1) ∧ Fr n0 L
set_option maxRecDepth 65536 in
set_option maxHeartbeats 40000000 in
theorem rm0 (l : Launch) (Z : State) (a0 : Array Value) (hw : ∀ d ∈ tables_1, d.before a0 Z = true) (ws : List Jvm.Cond) (p1 : Int64) (p2 : Int64) (p3 : Int32) (p4 : Int32) (p5 : Int32) (p6 : Int32) (ar : Addr) (cl : Cell) (h0 : Heap) (n0 : Nat) (Z0 : n0 ≤ h0.size) (hO : Old Z n0 h0) (S_h : Sta Z Z.heap "java/lang/Integer$IntegerCache" "high" "I" (.int (127 : Int32))) (S_c : Sta Z Z.heap "java/lang/Integer$IntegerCache" "cache" "[Ljava/lang/Integer;" (.ref ar)) (A_c : Arr Z Z.heap ar cl (.object "java/lang/Integer")) (z_c : cl.slots.size = 256) (hb_c : ∀ j : Int32, ¬ (j < 0 ∨ cl.slots.size ≤ j.toNatClampNeg) → ∃ b : Addr, cl.slots[j.toNatClampNeg]? = some (.ref b) ∧ Exa Z Z.heap b "java/lang/Integer") :
    MetFree l x (head1 (Jvm.Cond.code x code maxLocals ret :: ws) room_1) (fun a U => a = #[(.long p1), (.long p2), (.int p3), (.int p4), (.int p5), (.int p6)] ∧ Z.Warmed39 U.vm ∧ U.heap = h0) (fun _ _ _ _ _ => True) (fun _ U o U' => ∃ v L, o = .returned v ∧ Q0 Z p1 p2 p3 p4 p5 p6 ar cl h0 n0 v U'.heap L ∧ FrameEnd U o U' L room_1.cells room_1.slots) := by
  refine MetFree.of_bodySF (plainFor_of_name pn_3) hisR ?_
  intro p e s m args below meth c s₁ Bd hml0 hP hK
  obtain ⟨rfl, hZ, hh⟩ := hP
  have hx := Bd.exec
  have hby := Bd.bytes
  have hml : c.maxLocals = 21 := hml0
  have hown : s.vm.findClass "com/example/chronoid/chronoid/id/UniqueKeyEqualsPinLaw" = some m.cls := findClass_of_methodNamed Bd.named
  have hnm := (name_of_methodNamed Bd.named Bd.method).1
  have hlk : meth.locks = false := BodyLoose.notSynchronized Bd
  have X0 : Stand p l e room_1 s m #[(.long p1), (.long p2), (.int p3), (.int p4), (.int p5), (.int p6)] below meth c s₁ [] 0 0 := Stand.of_body Bd
  have e0 : s₁.heap = h0 := by rw [← hh, Bd.state]; rfl
  have N0 := Fr.nil n0
  suffices hgo : Go p e below s (Q0 Z p1 p2 p3 p4 p5 p6 ar cl h0 n0) room_1.cells room_1.slots s₁ (mkF m 0 #[.val (.long p1), .second, .val (.long p2), .second, .val (.int p3), .val (.int p4), .val (.int p5), .val (.int p6), .unset, .unset, .unset, .unset, .unset, .unset, .unset, .unset, .unset, .unset, .unset, .unset, .unset] []) by
    obtain ⟨s₂, o, k1, k2⟩ := hgo
    exact ⟨s₂, o, castTop (ef_0 m p1 p2 p3 p4 p5 p6) k1, k2⟩
  suffices J5 : ∀ s1 : Int32, Go p e below s (Q0 Z p1 p2 p3 p4 p5 p6 ar cl h0 n0) room_1.cells room_1.slots s₁ (mkF m 5 #[.val (.long p1), .second, .val (.long p2), .second, .val (.int p3), .val (.int p4), .val (.int p5), .val (.int p6), .unset, .unset, .unset, .unset, .unset, .unset, .unset, .unset, .unset, .unset, .unset, .unset, .unset] [(.int s1)]) by
    refine Go.st (T' := s₁) (g' := (mkF m 2 #[.val (.long p1), .second, .val (.long p2), .second, .val (.int p3), .val (.int p4), .val (.int p5), .val (.int p6), .unset, .unset, .unset, .unset, .unset, .unset, .unset, .unset, .unset, .unset, .unset, .unset, .unset] [(.int p3)])) (fun t_ k_ => XS.iload X0.here hx rfl (hb hby at_0) rfl  k_) ?_
    refine Go.st (T' := s₁) (g' := (mkF m 4 #[.val (.long p1), .second, .val (.long p2), .second, .val (.int p3), .val (.int p4), .val (.int p5), .val (.int p6), .unset, .unset, .unset, .unset, .unset, .unset, .unset, .unset, .unset, .unset, .unset, .unset, .unset] [(.int (16777215 : Int32)), (.int p3)])) (fun t_ k_ => X0.ldcI hx hown (mvT hZ (hw _ (List.mem_of_getElem? (i := 0) rfl))) rfl (hb hby at_2) k_) ?_
    refine Go.st (T' := s₁) (g' := (mkF m 5 #[.val (.long p1), .second, .val (.long p2), .second, .val (.int p3), .val (.int p4), .val (.int p5), .val (.int p6), .unset, .unset, .unset, .unset, .unset, .unset, .unset, .unset, .unset, .unset, .unset, .unset, .unset] [(.int (p3 &&& (16777215 : Int32)))])) (fun t_ k_ => XS.iand X0.here hx rfl (hb hby at_4) rfl k_) ?_
    exact J5 _ 
  intro s1
  refine Go.st (T' := s₁) (g' := (mkF m 7 #[.val (.long p1), .second, .val (.long p2), .second, .val (.int p3), .val (.int p4), .val (.int p5), .val (.int p6), .val (.int s1), .unset, .unset, .unset, .unset, .unset, .unset, .unset, .unset, .unset, .unset, .unset, .unset] [])) (fun t_ k_ => XS.istore X0.here hx rfl (hb hby at_5) rfl (l' := #[.val (.long p1), .second, .val (.long p2), .second, .val (.int p3), .val (.int p4), .val (.int p5), .val (.int p6), .val (.int s1), .unset, .unset, .unset, .unset, .unset, .unset, .unset, .unset, .unset, .unset, .unset, .unset]) rfl k_) ?_
  suffices J12 : ∀ k1 : Int32, Go p e below s (Q0 Z p1 p2 p3 p4 p5 p6 ar cl h0 n0) room_1.cells room_1.slots s₁ (mkF m 12 #[.val (.long p1), .second, .val (.long p2), .second, .val (.int p3), .val (.int p4), .val (.int p5), .val (.int p6), .val (.int s1), .unset, .unset, .unset, .unset, .unset, .unset, .unset, .unset, .unset, .unset, .unset, .unset] [(.int k1)]) by
    refine Go.st (T' := s₁) (g' := (mkF m 9 #[.val (.long p1), .second, .val (.long p2), .second, .val (.int p3), .val (.int p4), .val (.int p5), .val (.int p6), .val (.int s1), .unset, .unset, .unset, .unset, .unset, .unset, .unset, .unset, .unset, .unset, .unset, .unset] [(.int p4)])) (fun t_ k_ => XS.iload X0.here hx rfl (hb hby at_7) rfl  k_) ?_
    refine Go.st (T' := s₁) (g' := (mkF m 11 #[.val (.long p1), .second, .val (.long p2), .second, .val (.int p3), .val (.int p4), .val (.int p5), .val (.int p6), .val (.int s1), .unset, .unset, .unset, .unset, .unset, .unset, .unset, .unset, .unset, .unset, .unset, .unset] [(.int (65535 : Int32)), (.int p4)])) (fun t_ k_ => X0.ldcI hx hown (mvT hZ (hw _ (List.mem_of_getElem? (i := 1) rfl))) rfl (hb hby at_9) k_) ?_
    refine Go.st (T' := s₁) (g' := (mkF m 12 #[.val (.long p1), .second, .val (.long p2), .second, .val (.int p3), .val (.int p4), .val (.int p5), .val (.int p6), .val (.int s1), .unset, .unset, .unset, .unset, .unset, .unset, .unset, .unset, .unset, .unset, .unset, .unset] [(.int (p4 &&& (65535 : Int32)))])) (fun t_ k_ => XS.iand X0.here hx rfl (hb hby at_11) rfl k_) ?_
    exact J12 _ 
  intro k1
  refine Go.st (T' := s₁) (g' := (mkF m 14 #[.val (.long p1), .second, .val (.long p2), .second, .val (.int p3), .val (.int p4), .val (.int p5), .val (.int p6), .val (.int s1), .val (.int k1), .unset, .unset, .unset, .unset, .unset, .unset, .unset, .unset, .unset, .unset, .unset] [])) (fun t_ k_ => XS.istore X0.here hx rfl (hb hby at_12) rfl (l' := #[.val (.long p1), .second, .val (.long p2), .second, .val (.int p3), .val (.int p4), .val (.int p5), .val (.int p6), .val (.int s1), .val (.int k1), .unset, .unset, .unset, .unset, .unset, .unset, .unset, .unset, .unset, .unset, .unset]) rfl k_) ?_
  suffices J26 : ∀ m2 : Int64, Go p e below s (Q0 Z p1 p2 p3 p4 p5 p6 ar cl h0 n0) room_1.cells room_1.slots s₁ (mkF m 26 #[.val (.long p1), .second, .val (.long p2), .second, .val (.int p3), .val (.int p4), .val (.int p5), .val (.int p6), .val (.int s1), .val (.int k1), .unset, .unset, .unset, .unset, .unset, .unset, .unset, .unset, .unset, .unset, .unset] [(.long m2)]) by
    refine Go.st (T' := s₁) (g' := (mkF m 16 #[.val (.long p1), .second, .val (.long p2), .second, .val (.int p3), .val (.int p4), .val (.int p5), .val (.int p6), .val (.int s1), .val (.int k1), .unset, .unset, .unset, .unset, .unset, .unset, .unset, .unset, .unset, .unset, .unset] [(.int p6)])) (fun t_ k_ => XS.iload X0.here hx rfl (hb hby at_14) rfl  k_) ?_
    refine Go.st (T' := s₁) (g' := (mkF m 17 #[.val (.long p1), .second, .val (.long p2), .second, .val (.int p3), .val (.int p4), .val (.int p5), .val (.int p6), .val (.int s1), .val (.int k1), .unset, .unset, .unset, .unset, .unset, .unset, .unset, .unset, .unset, .unset, .unset] [(.int (1 : Int32)), (.int p6)])) (fun t_ k_ => XS.iconst X0.here hx rfl (hb hby at_16) k_) ?_
    refine Go.st (T' := s₁) (g' := (mkF m 18 #[.val (.long p1), .second, .val (.long p2), .second, .val (.int p3), .val (.int p4), .val (.int p5), .val (.int p6), .val (.int s1), .val (.int k1), .unset, .unset, .unset, .unset, .unset, .unset, .unset, .unset, .unset, .unset, .unset] [(.int (p6 &&& (1 : Int32)))])) (fun t_ k_ => XS.iand X0.here hx rfl (hb hby at_17) rfl k_) ?_
    by_cases hc18 : (p6 &&& (1 : Int32)) = (0 : Int32)
    · refine Go.st (T' := s₁) (g' := (mkF m 25 #[.val (.long p1), .second, .val (.long p2), .second, .val (.int p3), .val (.int p4), .val (.int p5), .val (.int p6), .val (.int s1), .val (.int k1), .unset, .unset, .unset, .unset, .unset, .unset, .unset, .unset, .unset, .unset, .unset] [])) (fun t_ k_ => XS.ifYes X0.here hx rfl (pc0 := 18) (pc' := 25) rfl (hb hby at_18) rfl ((if0 _ _).trans (teq hc18).1) (by decide) (by decide) k_) ?_
      refine Go.st (T' := s₁) (g' := (mkF m 26 #[.val (.long p1), .second, .val (.long p2), .second, .val (.int p3), .val (.int p4), .val (.int p5), .val (.int p6), .val (.int s1), .val (.int k1), .unset, .unset, .unset, .unset, .unset, .unset, .unset, .unset, .unset, .unset, .unset] [(.long p2)])) (fun t_ k_ => XS.lloadN X0.here hx rfl (hb hby at_25) rfl  k_) ?_
      exact J26 _ 
    · refine Go.st (T' := s₁) (g' := (mkF m 21 #[.val (.long p1), .second, .val (.long p2), .second, .val (.int p3), .val (.int p4), .val (.int p5), .val (.int p6), .val (.int s1), .val (.int k1), .unset, .unset, .unset, .unset, .unset, .unset, .unset, .unset, .unset, .unset, .unset] [])) (fun t_ k_ => XS.ifNo X0.here hx rfl (hb hby at_18) rfl ((if0 _ _).trans (feq hc18).1) k_) ?_
      refine Go.st (T' := s₁) (g' := (mkF m 22 #[.val (.long p1), .second, .val (.long p2), .second, .val (.int p3), .val (.int p4), .val (.int p5), .val (.int p6), .val (.int s1), .val (.int k1), .unset, .unset, .unset, .unset, .unset, .unset, .unset, .unset, .unset, .unset, .unset] [(.long p1)])) (fun t_ k_ => XS.lloadN X0.here hx rfl (hb hby at_21) rfl  k_) ?_
      refine Go.st (T' := s₁) (g' := (mkF m 26 #[.val (.long p1), .second, .val (.long p2), .second, .val (.int p3), .val (.int p4), .val (.int p5), .val (.int p6), .val (.int s1), .val (.int k1), .unset, .unset, .unset, .unset, .unset, .unset, .unset, .unset, .unset, .unset, .unset] [(.long p1)])) (fun t_ k_ => XS.goto X0.here hx rfl (pc0 := 22) (pc' := 26) rfl (hb hby at_22) (by decide) (by decide) k_) ?_
      exact J26 _ 
  intro m2
  refine Go.st (T' := s₁) (g' := (mkF m 28 #[.val (.long p1), .second, .val (.long p2), .second, .val (.int p3), .val (.int p4), .val (.int p5), .val (.int p6), .val (.int s1), .val (.int k1), .val (.long m2), .second, .unset, .unset, .unset, .unset, .unset, .unset, .unset, .unset, .unset] [])) (fun t_ k_ => XS.lstore X0.here hx rfl (hb hby at_26) rfl (l' := #[.val (.long p1), .second, .val (.long p2), .second, .val (.int p3), .val (.int p4), .val (.int p5), .val (.int p6), .val (.int s1), .val (.int k1), .val (.long m2), .second, .unset, .unset, .unset, .unset, .unset, .unset, .unset, .unset, .unset]) rfl k_) ?_
  suffices J45 : ∀ s2 : Int32, Go p e below s (Q0 Z p1 p2 p3 p4 p5 p6 ar cl h0 n0) room_1.cells room_1.slots s₁ (mkF m 45 #[.val (.long p1), .second, .val (.long p2), .second, .val (.int p3), .val (.int p4), .val (.int p5), .val (.int p6), .val (.int s1), .val (.int k1), .val (.long m2), .second, .unset, .unset, .unset, .unset, .unset, .unset, .unset, .unset, .unset] [(.int s2)]) by
    refine Go.st (T' := s₁) (g' := (mkF m 30 #[.val (.long p1), .second, .val (.long p2), .second, .val (.int p3), .val (.int p4), .val (.int p5), .val (.int p6), .val (.int s1), .val (.int k1), .val (.long m2), .second, .unset, .unset, .unset, .unset, .unset, .unset, .unset, .unset, .unset] [(.int p6)])) (fun t_ k_ => XS.iload X0.here hx rfl (hb hby at_28) rfl  k_) ?_
    refine Go.st (T' := s₁) (g' := (mkF m 31 #[.val (.long p1), .second, .val (.long p2), .second, .val (.int p3), .val (.int p4), .val (.int p5), .val (.int p6), .val (.int s1), .val (.int k1), .val (.long m2), .second, .unset, .unset, .unset, .unset, .unset, .unset, .unset, .unset, .unset] [(.int (2 : Int32)), (.int p6)])) (fun t_ k_ => XS.iconst X0.here hx rfl (hb hby at_30) k_) ?_
    refine Go.st (T' := s₁) (g' := (mkF m 32 #[.val (.long p1), .second, .val (.long p2), .second, .val (.int p3), .val (.int p4), .val (.int p5), .val (.int p6), .val (.int s1), .val (.int k1), .val (.long m2), .second, .unset, .unset, .unset, .unset, .unset, .unset, .unset, .unset, .unset] [(.int (p6 &&& (2 : Int32)))])) (fun t_ k_ => XS.iand X0.here hx rfl (hb hby at_31) rfl k_) ?_
    by_cases hc32 : (p6 &&& (2 : Int32)) = (0 : Int32)
    · refine Go.st (T' := s₁) (g' := (mkF m 40 #[.val (.long p1), .second, .val (.long p2), .second, .val (.int p3), .val (.int p4), .val (.int p5), .val (.int p6), .val (.int s1), .val (.int k1), .val (.long m2), .second, .unset, .unset, .unset, .unset, .unset, .unset, .unset, .unset, .unset] [])) (fun t_ k_ => XS.ifYes X0.here hx rfl (pc0 := 32) (pc' := 40) rfl (hb hby at_32) rfl ((if0 _ _).trans (teq hc32).1) (by decide) (by decide) k_) ?_
      refine Go.st (T' := s₁) (g' := (mkF m 42 #[.val (.long p1), .second, .val (.long p2), .second, .val (.int p3), .val (.int p4), .val (.int p5), .val (.int p6), .val (.int s1), .val (.int k1), .val (.long m2), .second, .unset, .unset, .unset, .unset, .unset, .unset, .unset, .unset, .unset] [(.int p5)])) (fun t_ k_ => XS.iload X0.here hx rfl (hb hby at_40) rfl  k_) ?_
      refine Go.st (T' := s₁) (g' := (mkF m 44 #[.val (.long p1), .second, .val (.long p2), .second, .val (.int p3), .val (.int p4), .val (.int p5), .val (.int p6), .val (.int s1), .val (.int k1), .val (.long m2), .second, .unset, .unset, .unset, .unset, .unset, .unset, .unset, .unset, .unset] [(.int (16777215 : Int32)), (.int p5)])) (fun t_ k_ => X0.ldcI hx hown (mvT hZ (hw _ (List.mem_of_getElem? (i := 0) rfl))) rfl (hb hby at_42) k_) ?_
      refine Go.st (T' := s₁) (g' := (mkF m 45 #[.val (.long p1), .second, .val (.long p2), .second, .val (.int p3), .val (.int p4), .val (.int p5), .val (.int p6), .val (.int s1), .val (.int k1), .val (.long m2), .second, .unset, .unset, .unset, .unset, .unset, .unset, .unset, .unset, .unset] [(.int (p5 &&& (16777215 : Int32)))])) (fun t_ k_ => XS.iand X0.here hx rfl (hb hby at_44) rfl k_) ?_
      exact J45 _ 
    · refine Go.st (T' := s₁) (g' := (mkF m 35 #[.val (.long p1), .second, .val (.long p2), .second, .val (.int p3), .val (.int p4), .val (.int p5), .val (.int p6), .val (.int s1), .val (.int k1), .val (.long m2), .second, .unset, .unset, .unset, .unset, .unset, .unset, .unset, .unset, .unset] [])) (fun t_ k_ => XS.ifNo X0.here hx rfl (hb hby at_32) rfl ((if0 _ _).trans (feq hc32).1) k_) ?_
      refine Go.st (T' := s₁) (g' := (mkF m 37 #[.val (.long p1), .second, .val (.long p2), .second, .val (.int p3), .val (.int p4), .val (.int p5), .val (.int p6), .val (.int s1), .val (.int k1), .val (.long m2), .second, .unset, .unset, .unset, .unset, .unset, .unset, .unset, .unset, .unset] [(.int s1)])) (fun t_ k_ => XS.iload X0.here hx rfl (hb hby at_35) rfl  k_) ?_
      refine Go.st (T' := s₁) (g' := (mkF m 45 #[.val (.long p1), .second, .val (.long p2), .second, .val (.int p3), .val (.int p4), .val (.int p5), .val (.int p6), .val (.int s1), .val (.int k1), .val (.long m2), .second, .unset, .unset, .unset, .unset, .unset, .unset, .unset, .unset, .unset] [(.int s1)])) (fun t_ k_ => XS.goto X0.here hx rfl (pc0 := 37) (pc' := 45) rfl (hb hby at_37) (by decide) (by decide) k_) ?_
      exact J45 _ 
  intro s2
  refine Go.st (T' := s₁) (g' := (mkF m 47 #[.val (.long p1), .second, .val (.long p2), .second, .val (.int p3), .val (.int p4), .val (.int p5), .val (.int p6), .val (.int s1), .val (.int k1), .val (.long m2), .second, .val (.int s2), .unset, .unset, .unset, .unset, .unset, .unset, .unset, .unset] [])) (fun t_ k_ => XS.istore X0.here hx rfl (hb hby at_45) rfl (l' := #[.val (.long p1), .second, .val (.long p2), .second, .val (.int p3), .val (.int p4), .val (.int p5), .val (.int p6), .val (.int s1), .val (.int k1), .val (.long m2), .second, .val (.int s2), .unset, .unset, .unset, .unset, .unset, .unset, .unset, .unset]) rfl k_) ?_
  suffices J67 : ∀ k2 : Int32, Go p e below s (Q0 Z p1 p2 p3 p4 p5 p6 ar cl h0 n0) room_1.cells room_1.slots s₁ (mkF m 67 #[.val (.long p1), .second, .val (.long p2), .second, .val (.int p3), .val (.int p4), .val (.int p5), .val (.int p6), .val (.int s1), .val (.int k1), .val (.long m2), .second, .val (.int s2), .unset, .unset, .unset, .unset, .unset, .unset, .unset, .unset] [(.int k2)]) by
    refine Go.st (T' := s₁) (g' := (mkF m 49 #[.val (.long p1), .second, .val (.long p2), .second, .val (.int p3), .val (.int p4), .val (.int p5), .val (.int p6), .val (.int s1), .val (.int k1), .val (.long m2), .second, .val (.int s2), .unset, .unset, .unset, .unset, .unset, .unset, .unset, .unset] [(.int p6)])) (fun t_ k_ => XS.iload X0.here hx rfl (hb hby at_47) rfl  k_) ?_
    refine Go.st (T' := s₁) (g' := (mkF m 50 #[.val (.long p1), .second, .val (.long p2), .second, .val (.int p3), .val (.int p4), .val (.int p5), .val (.int p6), .val (.int s1), .val (.int k1), .val (.long m2), .second, .val (.int s2), .unset, .unset, .unset, .unset, .unset, .unset, .unset, .unset] [(.int (4 : Int32)), (.int p6)])) (fun t_ k_ => XS.iconst X0.here hx rfl (hb hby at_49) k_) ?_
    refine Go.st (T' := s₁) (g' := (mkF m 51 #[.val (.long p1), .second, .val (.long p2), .second, .val (.int p3), .val (.int p4), .val (.int p5), .val (.int p6), .val (.int s1), .val (.int k1), .val (.long m2), .second, .val (.int s2), .unset, .unset, .unset, .unset, .unset, .unset, .unset, .unset] [(.int (p6 &&& (4 : Int32)))])) (fun t_ k_ => XS.iand X0.here hx rfl (hb hby at_50) rfl k_) ?_
    by_cases hc51 : (p6 &&& (4 : Int32)) = (0 : Int32)
    · refine Go.st (T' := s₁) (g' := (mkF m 59 #[.val (.long p1), .second, .val (.long p2), .second, .val (.int p3), .val (.int p4), .val (.int p5), .val (.int p6), .val (.int s1), .val (.int k1), .val (.long m2), .second, .val (.int s2), .unset, .unset, .unset, .unset, .unset, .unset, .unset, .unset] [])) (fun t_ k_ => XS.ifYes X0.here hx rfl (pc0 := 51) (pc' := 59) rfl (hb hby at_51) rfl ((if0 _ _).trans (teq hc51).1) (by decide) (by decide) k_) ?_
      refine Go.st (T' := s₁) (g' := (mkF m 61 #[.val (.long p1), .second, .val (.long p2), .second, .val (.int p3), .val (.int p4), .val (.int p5), .val (.int p6), .val (.int s1), .val (.int k1), .val (.long m2), .second, .val (.int s2), .unset, .unset, .unset, .unset, .unset, .unset, .unset, .unset] [(.int p6)])) (fun t_ k_ => XS.iload X0.here hx rfl (hb hby at_59) rfl  k_) ?_
      refine Go.st (T' := s₁) (g' := (mkF m 63 #[.val (.long p1), .second, .val (.long p2), .second, .val (.int p3), .val (.int p4), .val (.int p5), .val (.int p6), .val (.int s1), .val (.int k1), .val (.long m2), .second, .val (.int s2), .unset, .unset, .unset, .unset, .unset, .unset, .unset, .unset] [(.int (8 : Int32)), (.int p6)])) (fun t_ k_ => XS.bipush X0.here hx rfl (hb hby at_61) k_) ?_
      refine Go.st (T' := s₁) (g' := (mkF m 64 #[.val (.long p1), .second, .val (.long p2), .second, .val (.int p3), .val (.int p4), .val (.int p5), .val (.int p6), .val (.int s1), .val (.int k1), .val (.long m2), .second, .val (.int s2), .unset, .unset, .unset, .unset, .unset, .unset, .unset, .unset] [(.int ((p6.toUInt32 >>> ((8 : Int32) &&& 31).toUInt32).toInt32))])) (fun t_ k_ => XS.iushr X0.here hx rfl (hb hby at_63) rfl k_) ?_
      refine Go.st (T' := s₁) (g' := (mkF m 66 #[.val (.long p1), .second, .val (.long p2), .second, .val (.int p3), .val (.int p4), .val (.int p5), .val (.int p6), .val (.int s1), .val (.int k1), .val (.long m2), .second, .val (.int s2), .unset, .unset, .unset, .unset, .unset, .unset, .unset, .unset] [(.int (65535 : Int32)), (.int ((p6.toUInt32 >>> ((8 : Int32) &&& 31).toUInt32).toInt32))])) (fun t_ k_ => X0.ldcI hx hown (mvT hZ (hw _ (List.mem_of_getElem? (i := 1) rfl))) rfl (hb hby at_64) k_) ?_
      refine Go.st (T' := s₁) (g' := (mkF m 67 #[.val (.long p1), .second, .val (.long p2), .second, .val (.int p3), .val (.int p4), .val (.int p5), .val (.int p6), .val (.int s1), .val (.int k1), .val (.long m2), .second, .val (.int s2), .unset, .unset, .unset, .unset, .unset, .unset, .unset, .unset] [(.int (((p6.toUInt32 >>> ((8 : Int32) &&& 31).toUInt32).toInt32) &&& (65535 : Int32)))])) (fun t_ k_ => XS.iand X0.here hx rfl (hb hby at_66) rfl k_) ?_
      exact J67 _ 
    · refine Go.st (T' := s₁) (g' := (mkF m 54 #[.val (.long p1), .second, .val (.long p2), .second, .val (.int p3), .val (.int p4), .val (.int p5), .val (.int p6), .val (.int s1), .val (.int k1), .val (.long m2), .second, .val (.int s2), .unset, .unset, .unset, .unset, .unset, .unset, .unset, .unset] [])) (fun t_ k_ => XS.ifNo X0.here hx rfl (hb hby at_51) rfl ((if0 _ _).trans (feq hc51).1) k_) ?_
      refine Go.st (T' := s₁) (g' := (mkF m 56 #[.val (.long p1), .second, .val (.long p2), .second, .val (.int p3), .val (.int p4), .val (.int p5), .val (.int p6), .val (.int s1), .val (.int k1), .val (.long m2), .second, .val (.int s2), .unset, .unset, .unset, .unset, .unset, .unset, .unset, .unset] [(.int k1)])) (fun t_ k_ => XS.iload X0.here hx rfl (hb hby at_54) rfl  k_) ?_
      refine Go.st (T' := s₁) (g' := (mkF m 67 #[.val (.long p1), .second, .val (.long p2), .second, .val (.int p3), .val (.int p4), .val (.int p5), .val (.int p6), .val (.int s1), .val (.int k1), .val (.long m2), .second, .val (.int s2), .unset, .unset, .unset, .unset, .unset, .unset, .unset, .unset] [(.int k1)])) (fun t_ k_ => XS.goto X0.here hx rfl (pc0 := 56) (pc' := 67) rfl (hb hby at_56) (by decide) (by decide) k_) ?_
      exact J67 _ 
  intro k2
  refine Go.st (T' := s₁) (g' := (mkF m 69 #[.val (.long p1), .second, .val (.long p2), .second, .val (.int p3), .val (.int p4), .val (.int p5), .val (.int p6), .val (.int s1), .val (.int k1), .val (.long m2), .second, .val (.int s2), .val (.int k2), .unset, .unset, .unset, .unset, .unset, .unset, .unset] [])) (fun t_ k_ => XS.istore X0.here hx rfl (hb hby at_67) rfl (l' := #[.val (.long p1), .second, .val (.long p2), .second, .val (.int p3), .val (.int p4), .val (.int p5), .val (.int p6), .val (.int s1), .val (.int k1), .val (.long m2), .second, .val (.int s2), .val (.int k2), .unset, .unset, .unset, .unset, .unset, .unset, .unset]) rfl k_) ?_
  suffices J75 : ∀ kd : Int32, Go p e below s (Q0 Z p1 p2 p3 p4 p5 p6 ar cl h0 n0) room_1.cells room_1.slots s₁ (mkF m 75 #[.val (.long p1), .second, .val (.long p2), .second, .val (.int p3), .val (.int p4), .val (.int p5), .val (.int p6), .val (.int s1), .val (.int k1), .val (.long m2), .second, .val (.int s2), .val (.int k2), .unset, .unset, .unset, .unset, .unset, .unset, .unset] [(.int kd)]) by
    refine Go.st (T' := s₁) (g' := (mkF m 71 #[.val (.long p1), .second, .val (.long p2), .second, .val (.int p3), .val (.int p4), .val (.int p5), .val (.int p6), .val (.int s1), .val (.int k1), .val (.long m2), .second, .val (.int s2), .val (.int k2), .unset, .unset, .unset, .unset, .unset, .unset, .unset] [(.int p6)])) (fun t_ k_ => XS.iload X0.here hx rfl (hb hby at_69) rfl  k_) ?_
    refine Go.st (T' := s₁) (g' := (mkF m 72 #[.val (.long p1), .second, .val (.long p2), .second, .val (.int p3), .val (.int p4), .val (.int p5), .val (.int p6), .val (.int s1), .val (.int k1), .val (.long m2), .second, .val (.int s2), .val (.int k2), .unset, .unset, .unset, .unset, .unset, .unset, .unset] [(.int (3 : Int32)), (.int p6)])) (fun t_ k_ => XS.iconst X0.here hx rfl (hb hby at_71) k_) ?_
    refine Go.st (T' := s₁) (g' := (mkF m 73 #[.val (.long p1), .second, .val (.long p2), .second, .val (.int p3), .val (.int p4), .val (.int p5), .val (.int p6), .val (.int s1), .val (.int k1), .val (.long m2), .second, .val (.int s2), .val (.int k2), .unset, .unset, .unset, .unset, .unset, .unset, .unset] [(.int ((p6.toUInt32 >>> ((3 : Int32) &&& 31).toUInt32).toInt32))])) (fun t_ k_ => XS.iushr X0.here hx rfl (hb hby at_72) rfl k_) ?_
    refine Go.st (T' := s₁) (g' := (mkF m 74 #[.val (.long p1), .second, .val (.long p2), .second, .val (.int p3), .val (.int p4), .val (.int p5), .val (.int p6), .val (.int s1), .val (.int k1), .val (.long m2), .second, .val (.int s2), .val (.int k2), .unset, .unset, .unset, .unset, .unset, .unset, .unset] [(.int (3 : Int32)), (.int ((p6.toUInt32 >>> ((3 : Int32) &&& 31).toUInt32).toInt32))])) (fun t_ k_ => XS.iconst X0.here hx rfl (hb hby at_73) k_) ?_
    refine Go.st (T' := s₁) (g' := (mkF m 75 #[.val (.long p1), .second, .val (.long p2), .second, .val (.int p3), .val (.int p4), .val (.int p5), .val (.int p6), .val (.int s1), .val (.int k1), .val (.long m2), .second, .val (.int s2), .val (.int k2), .unset, .unset, .unset, .unset, .unset, .unset, .unset] [(.int (((p6.toUInt32 >>> ((3 : Int32) &&& 31).toUInt32).toInt32) &&& (3 : Int32)))])) (fun t_ k_ => XS.iand X0.here hx rfl (hb hby at_74) rfl k_) ?_
    exact J75 _ 
  intro kd
  refine Go.st (T' := s₁) (g' := (mkF m 77 #[.val (.long p1), .second, .val (.long p2), .second, .val (.int p3), .val (.int p4), .val (.int p5), .val (.int p6), .val (.int s1), .val (.int k1), .val (.long m2), .second, .val (.int s2), .val (.int k2), .val (.int kd), .unset, .unset, .unset, .unset, .unset, .unset] [])) (fun t_ k_ => XS.istore X0.here hx rfl (hb hby at_75) rfl (l' := #[.val (.long p1), .second, .val (.long p2), .second, .val (.int p3), .val (.int p4), .val (.int p5), .val (.int p6), .val (.int s1), .val (.int k1), .val (.long m2), .second, .val (.int s2), .val (.int k2), .val (.int kd), .unset, .unset, .unset, .unset, .unset, .unset]) rfl k_) ?_
  obtain ⟨T1, h1, X1, e1, E1, A1, D1, -, st1⟩ := newO X0 hx hZ hown (hw _ (List.mem_of_getElem? (i := 2) rfl)) (hw _ (List.mem_of_getElem? (i := 3) rfl)) (hw _ (List.mem_of_getElem? (i := 4) rfl)) e0 (g := (mkF m 77 #[.val (.long p1), .second, .val (.long p2), .second, .val (.int p3), .val (.int p4), .val (.int p5), .val (.int p6), .val (.int s1), .val (.int k1), .val (.long m2), .second, .val (.int s2), .val (.int k2), .val (.int kd), .unset, .unset, .unset, .unset, .unset, .unset] [])) rfl (hb hby at_77) (by decide) (by decide)
  obtain ⟨b1, q1⟩ : ∃ z, z = h0.size := ⟨_, rfl⟩
  rw [← q1] at A1 D1 st1
  have Fmicroseconds_b1 : Fld Z h1 b1 "com/example/chronoid/chronoid/id/UniqueKey" "microseconds" "J" (.long (0 : Int64)) := D1 (Or.inr (hw _ (List.mem_of_getElem? (i := 12) rfl))) (ty := .long) (by decide)
  have Fsequence_b1 : Fld Z h1 b1 "com/example/chronoid/chronoid/id/UniqueKey" "sequence" "I" (.int (0 : Int32)) := D1 (Or.inr (hw _ (List.mem_of_getElem? (i := 14) rfl))) (ty := .int) (by decide)
  have Fmember_b1 : Fld Z h1 b1 "com/example/chronoid/chronoid/id/UniqueKey" "member" "I" (.int (0 : Int32)) := D1 (Or.inr (hw _ (List.mem_of_getElem? (i := 16) rfl))) (ty := .int) (by decide)
  have g_b1 : n0 ≤ b1 := Nat.le_trans Z0 (Nat.le_of_eq q1.symm)
  have sz_b1 : h0.size ≤ b1 := Nat.le_trans ((Keep.refl h0 [])).1 (Nat.le_of_eq q1.symm)
  have K1 := Keep.ext (Keep.refl h0 []) E1
  have O1 := Old.ext hO E1
  refine Go.st (T' := T1) (g' := (mkF m 80 #[.val (.long p1), .second, .val (.long p2), .second, .val (.int p3), .val (.int p4), .val (.int p5), .val (.int p6), .val (.int s1), .val (.int k1), .val (.long m2), .second, .val (.int s2), .val (.int k2), .val (.int kd), .unset, .unset, .unset, .unset, .unset, .unset] [(.ref b1)])) st1 ?_
  refine Go.st (T' := T1) (g' := (mkF m 81 #[.val (.long p1), .second, .val (.long p2), .second, .val (.int p3), .val (.int p4), .val (.int p5), .val (.int p6), .val (.int s1), .val (.int k1), .val (.long m2), .second, .val (.int s2), .val (.int k2), .val (.int kd), .unset, .unset, .unset, .unset, .unset, .unset] [(.ref b1), (.ref b1)])) (fun t_ k_ => XS.dup X1.here hx rfl (hb hby at_80) rfl rfl k_) ?_
  refine Go.st (T' := T1) (g' := (mkF m 82 #[.val (.long p1), .second, .val (.long p2), .second, .val (.int p3), .val (.int p4), .val (.int p5), .val (.int p6), .val (.int s1), .val (.int k1), .val (.long m2), .second, .val (.int s2), .val (.int k2), .val (.int kd), .unset, .unset, .unset, .unset, .unset, .unset] [(.long p1), (.ref b1), (.ref b1)])) (fun t_ k_ => XS.lloadN X1.here hx rfl (hb hby at_81) rfl  k_) ?_
  refine Go.st (T' := T1) (g' := (mkF m 84 #[.val (.long p1), .second, .val (.long p2), .second, .val (.int p3), .val (.int p4), .val (.int p5), .val (.int p6), .val (.int s1), .val (.int k1), .val (.long m2), .second, .val (.int s2), .val (.int k2), .val (.int kd), .unset, .unset, .unset, .unset, .unset, .unset] [(.int s1), (.long p1), (.ref b1), (.ref b1)])) (fun t_ k_ => XS.iload X1.here hx rfl (hb hby at_82) rfl  k_) ?_
  refine Go.st (T' := T1) (g' := (mkF m 86 #[.val (.long p1), .second, .val (.long p2), .second, .val (.int p3), .val (.int p4), .val (.int p5), .val (.int p6), .val (.int s1), .val (.int k1), .val (.long m2), .second, .val (.int s2), .val (.int k2), .val (.int kd), .unset, .unset, .unset, .unset, .unset, .unset] [(.int k1), (.int s1), (.long p1), (.ref b1), (.ref b1)])) (fun t_ k_ => XS.iload X1.here hx rfl (hb hby at_84) rfl  k_) ?_
  obtain ⟨_, _, ⟨T2, L2, k2, n2⟩, -, X2, ⟨Lc2, hQ2, l2, y2, z2⟩, st2⟩ := X1.specialBack hx (y := (⟨"com/example/chronoid/chronoid/id/UniqueKey", "<init>", "(JII)V"⟩ : MethodName)) rfl hown (mvT hZ (hw _ (List.mem_of_getElem? (i := 5) rfl))) (mvT hZ (hw _ (List.mem_of_getElem? (i := 6) rfl))) (mvT hZ (hw _ (List.mem_of_getElem? (i := 7) rfl))) (by decide) (backOf (W := 1) (rm1 l Z a0 hw [] b1 p1 s1 k1  h1 n0 (Nat.le_trans Z0 E1.1) A1 g_b1 Fmicroseconds_b1 Fsequence_b1 Fmember_b1) hZ (hw _ (List.mem_of_getElem? (i := 7) rfl)) (hw _ (List.mem_of_getElem? (i := 4) rfl)) (by decide) (by decide)) (g := (mkF m 86 #[.val (.long p1), .second, .val (.long p2), .second, .val (.int p3), .val (.int p4), .val (.int p5), .val (.int p6), .val (.int s1), .val (.int k1), .val (.long m2), .second, .val (.int s2), .val (.int k2), .val (.int kd), .unset, .unset, .unset, .unset, .unset, .unset] [(.int k1), (.int s1), (.long p1), (.ref b1), (.ref b1)])) rfl (by rw [hml]; rfl) (Steps.refl _) (a := b1) (argsL := [(.long p1), (.int s1), (.int k1)]) (rest := [(.ref b1)]) (lenOf pd_2 rfl) rfl (by show 2 * 0 + _ ≤ _; exact Nat.le_of_eq rfl) (hb hby at_86) (fun _ _ => ⟨rfl, e1, (by decide : 1 + 0 ≤ _), (by decide : 3 + 0 ≤ _)⟩)
  dsimp only [Pt.U, Pt.locs, Pt.cells, Pt.slots] at X2 l2 y2 z2 st2 hQ2
  subst l2 y2 z2
  obtain ⟨rfl, Nq2, Kq2, Eq2, F0q2, F1q2, F2q2⟩ := hQ2
  have O2 := Old.keep O1 Kq2 (allS g_b1 all0)
  have N2 := Fr.app N0 Nq2
  refine Go.ts (T' := T2) (g' := (mkF m 89 #[.val (.long p1), .second, .val (.long p2), .second, .val (.int p3), .val (.int p4), .val (.int p5), .val (.int p6), .val (.int s1), .val (.int k1), .val (.long m2), .second, .val (.int s2), .val (.int k2), .val (.int kd), .unset, .unset, .unset, .unset, .unset, .unset] [(.ref b1)])) st2 ?_
  refine Go.st (T' := T2) (g' := (mkF m 91 #[.val (.long p1), .second, .val (.long p2), .second, .val (.int p3), .val (.int p4), .val (.int p5), .val (.int p6), .val (.int s1), .val (.int k1), .val (.long m2), .second, .val (.int s2), .val (.int k2), .val (.int kd), .val (.ref b1), .unset, .unset, .unset, .unset, .unset] [])) (fun t_ k_ => XS.astore X2.here hx rfl (hb hby at_89) rfl rfl (l' := #[.val (.long p1), .second, .val (.long p2), .second, .val (.int p3), .val (.int p4), .val (.int p5), .val (.int p6), .val (.int s1), .val (.int k1), .val (.long m2), .second, .val (.int s2), .val (.int k2), .val (.int kd), .val (.ref b1), .unset, .unset, .unset, .unset, .unset]) rfl k_) ?_
  obtain ⟨T3, h3, X3, e3, E3, A3, D3, -, st3⟩ := newO X2 hx hZ hown (hw _ (List.mem_of_getElem? (i := 2) rfl)) (hw _ (List.mem_of_getElem? (i := 3) rfl)) (hw _ (List.mem_of_getElem? (i := 4) rfl)) rfl (g := (mkF m 91 #[.val (.long p1), .second, .val (.long p2), .second, .val (.int p3), .val (.int p4), .val (.int p5), .val (.int p6), .val (.int s1), .val (.int k1), .val (.long m2), .second, .val (.int s2), .val (.int k2), .val (.int kd), .val (.ref b1), .unset, .unset, .unset, .unset, .unset] [])) rfl (hb hby at_91) (by decide) (by decide)
  obtain ⟨b3, q3⟩ : ∃ z, z = T2.heap.size := ⟨_, rfl⟩
  rw [← q3] at A3 D3 st3
  have Fmicroseconds_b3 : Fld Z h3 b3 "com/example/chronoid/chronoid/id/UniqueKey" "microseconds" "J" (.long (0 : Int64)) := D3 (Or.inr (hw _ (List.mem_of_getElem? (i := 12) rfl))) (ty := .long) (by decide)
  have Fsequence_b3 : Fld Z h3 b3 "com/example/chronoid/chronoid/id/UniqueKey" "sequence" "I" (.int (0 : Int32)) := D3 (Or.inr (hw _ (List.mem_of_getElem? (i := 14) rfl))) (ty := .int) (by decide)
  have Fmember_b3 : Fld Z h3 b3 "com/example/chronoid/chronoid/id/UniqueKey" "member" "I" (.int (0 : Int32)) := D3 (Or.inr (hw _ (List.mem_of_getElem? (i := 16) rfl))) (ty := .int) (by decide)
  have g_b3 : n0 ≤ b3 := Nat.le_trans (Nat.le_trans (Nat.le_trans Z0 E1.1) Kq2.1) (Nat.le_of_eq q3.symm)
  have sz_b3 : h0.size ≤ b3 := Nat.le_trans ((Keep.trans K1 Kq2 (allS (Or.inr sz_b1) all0))).1 (Nat.le_of_eq q3.symm)
  have K3 := Keep.ext (Keep.trans K1 Kq2 (allS (Or.inr sz_b1) all0)) E3
  have O3 := Old.ext O2 E3
  refine Go.st (T' := T3) (g' := (mkF m 94 #[.val (.long p1), .second, .val (.long p2), .second, .val (.int p3), .val (.int p4), .val (.int p5), .val (.int p6), .val (.int s1), .val (.int k1), .val (.long m2), .second, .val (.int s2), .val (.int k2), .val (.int kd), .val (.ref b1), .unset, .unset, .unset, .unset, .unset] [(.ref b3)])) st3 ?_
  refine Go.st (T' := T3) (g' := (mkF m 95 #[.val (.long p1), .second, .val (.long p2), .second, .val (.int p3), .val (.int p4), .val (.int p5), .val (.int p6), .val (.int s1), .val (.int k1), .val (.long m2), .second, .val (.int s2), .val (.int k2), .val (.int kd), .val (.ref b1), .unset, .unset, .unset, .unset, .unset] [(.ref b3), (.ref b3)])) (fun t_ k_ => XS.dup X3.here hx rfl (hb hby at_94) rfl rfl k_) ?_
  refine Go.st (T' := T3) (g' := (mkF m 97 #[.val (.long p1), .second, .val (.long p2), .second, .val (.int p3), .val (.int p4), .val (.int p5), .val (.int p6), .val (.int s1), .val (.int k1), .val (.long m2), .second, .val (.int s2), .val (.int k2), .val (.int kd), .val (.ref b1), .unset, .unset, .unset, .unset, .unset] [(.long m2), (.ref b3), (.ref b3)])) (fun t_ k_ => XS.lload X3.here hx rfl (hb hby at_95) rfl  k_) ?_
  refine Go.st (T' := T3) (g' := (mkF m 99 #[.val (.long p1), .second, .val (.long p2), .second, .val (.int p3), .val (.int p4), .val (.int p5), .val (.int p6), .val (.int s1), .val (.int k1), .val (.long m2), .second, .val (.int s2), .val (.int k2), .val (.int kd), .val (.ref b1), .unset, .unset, .unset, .unset, .unset] [(.int s2), (.long m2), (.ref b3), (.ref b3)])) (fun t_ k_ => XS.iload X3.here hx rfl (hb hby at_97) rfl  k_) ?_
  refine Go.st (T' := T3) (g' := (mkF m 101 #[.val (.long p1), .second, .val (.long p2), .second, .val (.int p3), .val (.int p4), .val (.int p5), .val (.int p6), .val (.int s1), .val (.int k1), .val (.long m2), .second, .val (.int s2), .val (.int k2), .val (.int kd), .val (.ref b1), .unset, .unset, .unset, .unset, .unset] [(.int k2), (.int s2), (.long m2), (.ref b3), (.ref b3)])) (fun t_ k_ => XS.iload X3.here hx rfl (hb hby at_99) rfl  k_) ?_
  obtain ⟨_, _, ⟨T4, L4, k4, n4⟩, -, X4, ⟨Lc4, hQ4, l4, y4, z4⟩, st4⟩ := X3.specialBack hx (y := (⟨"com/example/chronoid/chronoid/id/UniqueKey", "<init>", "(JII)V"⟩ : MethodName)) rfl hown (mvT hZ (hw _ (List.mem_of_getElem? (i := 5) rfl))) (mvT hZ (hw _ (List.mem_of_getElem? (i := 6) rfl))) (mvT hZ (hw _ (List.mem_of_getElem? (i := 7) rfl))) (by decide) (backOf (W := 1) (rm1 l Z a0 hw [] b3 m2 s2 k2  h3 n0 (Nat.le_trans (Nat.le_trans (Nat.le_trans Z0 E1.1) Kq2.1) E3.1) A3 g_b3 Fmicroseconds_b3 Fsequence_b3 Fmember_b3) hZ (hw _ (List.mem_of_getElem? (i := 7) rfl)) (hw _ (List.mem_of_getElem? (i := 4) rfl)) (by decide) (by decide)) (g := (mkF m 101 #[.val (.long p1), .second, .val (.long p2), .second, .val (.int p3), .val (.int p4), .val (.int p5), .val (.int p6), .val (.int s1), .val (.int k1), .val (.long m2), .second, .val (.int s2), .val (.int k2), .val (.int kd), .val (.ref b1), .unset, .unset, .unset, .unset, .unset] [(.int k2), (.int s2), (.long m2), (.ref b3), (.ref b3)])) rfl (by rw [hml]; rfl) (Steps.refl _) (a := b3) (argsL := [(.long m2), (.int s2), (.int k2)]) (rest := [(.ref b3)]) (lenOf pd_2 rfl) rfl (by show 2 * 0 + _ ≤ _; exact Nat.le_of_eq rfl) (hb hby at_101) (fun _ _ => ⟨rfl, e3, (by decide : 2 + 0 ≤ _), (by decide : 6 + 0 ≤ _)⟩)
  dsimp only [Pt.U, Pt.locs, Pt.cells, Pt.slots] at X4 l4 y4 z4 st4 hQ4
  subst l4 y4 z4
  obtain ⟨rfl, Nq4, Kq4, Eq4, F0q4, F1q4, F2q4⟩ := hQ4
  have O4 := Old.keep O3 Kq4 (allS g_b3 all0)
  have N4 := Fr.app N2 Nq4
  refine Go.ts (T' := T4) (g' := (mkF m 104 #[.val (.long p1), .second, .val (.long p2), .second, .val (.int p3), .val (.int p4), .val (.int p5), .val (.int p6), .val (.int s1), .val (.int k1), .val (.long m2), .second, .val (.int s2), .val (.int k2), .val (.int kd), .val (.ref b1), .unset, .unset, .unset, .unset, .unset] [(.ref b3)])) st4 ?_
  refine Go.st (T' := T4) (g' := (mkF m 106 #[.val (.long p1), .second, .val (.long p2), .second, .val (.int p3), .val (.int p4), .val (.int p5), .val (.int p6), .val (.int s1), .val (.int k1), .val (.long m2), .second, .val (.int s2), .val (.int k2), .val (.int kd), .val (.ref b1), .val (.ref b3), .unset, .unset, .unset, .unset] [])) (fun t_ k_ => XS.astore X4.here hx rfl (hb hby at_104) rfl rfl (l' := #[.val (.long p1), .second, .val (.long p2), .second, .val (.int p3), .val (.int p4), .val (.int p5), .val (.int p6), .val (.int s1), .val (.int k1), .val (.long m2), .second, .val (.int s2), .val (.int k2), .val (.int kd), .val (.ref b1), .val (.ref b3), .unset, .unset, .unset, .unset]) rfl k_) ?_
  refine Go.st (T' := T4) (g' := (mkF m 108 #[.val (.long p1), .second, .val (.long p2), .second, .val (.int p3), .val (.int p4), .val (.int p5), .val (.int p6), .val (.int s1), .val (.int k1), .val (.long m2), .second, .val (.int s2), .val (.int k2), .val (.int kd), .val (.ref b1), .val (.ref b3), .unset, .unset, .unset, .unset] [(.int kd)])) (fun t_ k_ => XS.iload X4.here hx rfl (hb hby at_106) rfl  k_) ?_
  refine Go.st (T' := T4) (g' := (mkF m 109 #[.val (.long p1), .second, .val (.long p2), .second, .val (.int p3), .val (.int p4), .val (.int p5), .val (.int p6), .val (.int s1), .val (.int k1), .val (.long m2), .second, .val (.int s2), .val (.int k2), .val (.int kd), .val (.ref b1), .val (.ref b3), .unset, .unset, .unset, .unset] [(.int (1 : Int32)), (.int kd)])) (fun t_ k_ => XS.iconst X4.here hx rfl (hb hby at_108) k_) ?_
  by_cases hc109 : kd = (1 : Int32)
  · refine Go.st (T' := T4) (g' := (mkF m 112 #[.val (.long p1), .second, .val (.long p2), .second, .val (.int p3), .val (.int p4), .val (.int p5), .val (.int p6), .val (.int s1), .val (.int k1), .val (.long m2), .second, .val (.int s2), .val (.int k2), .val (.int kd), .val (.ref b1), .val (.ref b3), .unset, .unset, .unset, .unset] [])) (fun t_ k_ => XS.icmpNo X4.here hx rfl (hb hby at_109) rfl (teq hc109).2 k_) ?_
    refine Go.st (T' := T4) (g' := (mkF m 113 #[.val (.long p1), .second, .val (.long p2), .second, .val (.int p3), .val (.int p4), .val (.int p5), .val (.int p6), .val (.int s1), .val (.int k1), .val (.long m2), .second, .val (.int s2), .val (.int k2), .val (.int kd), .val (.ref b1), .val (.ref b3), .unset, .unset, .unset, .unset] [.null])) (fun t_ k_ => XS.aconstNull X4.here hx rfl (hb hby at_112) k_) ?_
    refine Go.st (T' := T4) (g' := (mkF m 115 #[.val (.long p1), .second, .val (.long p2), .second, .val (.int p3), .val (.int p4), .val (.int p5), .val (.int p6), .val (.int s1), .val (.int k1), .val (.long m2), .second, .val (.int s2), .val (.int k2), .val (.int kd), .val (.ref b1), .val (.ref b3), .val .null, .unset, .unset, .unset] [])) (fun t_ k_ => XS.astore X4.here hx rfl (hb hby at_113) rfl rfl (l' := #[.val (.long p1), .second, .val (.long p2), .second, .val (.int p3), .val (.int p4), .val (.int p5), .val (.int p6), .val (.int s1), .val (.int k1), .val (.long m2), .second, .val (.int s2), .val (.int k2), .val (.int kd), .val (.ref b1), .val (.ref b3), .val .null, .unset, .unset, .unset]) rfl k_) ?_
    refine Go.st (T' := T4) (g' := (mkF m 116 #[.val (.long p1), .second, .val (.long p2), .second, .val (.int p3), .val (.int p4), .val (.int p5), .val (.int p6), .val (.int s1), .val (.int k1), .val (.long m2), .second, .val (.int s2), .val (.int k2), .val (.int kd), .val (.ref b1), .val (.ref b3), .val .null, .unset, .unset, .unset] [(.int (0 : Int32))])) (fun t_ k_ => XS.iconst X4.here hx rfl (hb hby at_115) k_) ?_
    refine Go.st (T' := T4) (g' := (mkF m 118 #[.val (.long p1), .second, .val (.long p2), .second, .val (.int p3), .val (.int p4), .val (.int p5), .val (.int p6), .val (.int s1), .val (.int k1), .val (.long m2), .second, .val (.int s2), .val (.int k2), .val (.int kd), .val (.ref b1), .val (.ref b3), .val .null, .val (.int (0 : Int32)), .unset, .unset] [])) (fun t_ k_ => XS.istore X4.here hx rfl (hb hby at_116) rfl (l' := #[.val (.long p1), .second, .val (.long p2), .second, .val (.int p3), .val (.int p4), .val (.int p5), .val (.int p6), .val (.int s1), .val (.int k1), .val (.long m2), .second, .val (.int s2), .val (.int k2), .val (.int kd), .val (.ref b1), .val (.ref b3), .val .null, .val (.int (0 : Int32)), .unset, .unset]) rfl k_) ?_
    refine Go.st (T' := T4) (g' := (mkF m 188 #[.val (.long p1), .second, .val (.long p2), .second, .val (.int p3), .val (.int p4), .val (.int p5), .val (.int p6), .val (.int s1), .val (.int k1), .val (.long m2), .second, .val (.int s2), .val (.int k2), .val (.int kd), .val (.ref b1), .val (.ref b3), .val .null, .val (.int (0 : Int32)), .unset, .unset] [])) (fun t_ k_ => XS.goto X4.here hx rfl (pc0 := 118) (pc' := 188) rfl (hb hby at_118) (by decide) (by decide) k_) ?_
    refine Go.st (T' := T4) (g' := (mkF m 190 #[.val (.long p1), .second, .val (.long p2), .second, .val (.int p3), .val (.int p4), .val (.int p5), .val (.int p6), .val (.int s1), .val (.int k1), .val (.long m2), .second, .val (.int s2), .val (.int k2), .val (.int kd), .val (.ref b1), .val (.ref b3), .val .null, .val (.int (0 : Int32)), .unset, .unset] [(.ref b1)])) (fun t_ k_ => XS.aload X4.here hx rfl (hb hby at_188) rfl rfl k_) ?_
    refine Go.st (T' := T4) (g' := (mkF m 192 #[.val (.long p1), .second, .val (.long p2), .second, .val (.int p3), .val (.int p4), .val (.int p5), .val (.int p6), .val (.int s1), .val (.int k1), .val (.long m2), .second, .val (.int s2), .val (.int k2), .val (.int kd), .val (.ref b1), .val (.ref b3), .val .null, .val (.int (0 : Int32)), .unset, .unset] [.null, (.ref b1)])) (fun t_ k_ => XS.aload X4.here hx rfl (hb hby at_190) rfl rfl k_) ?_
    obtain ⟨cq5, kq5, q5a, q5b, q5c⟩ := isOf hZ rfl ((Exa.ext E3 Eq2).keep Kq4)
    obtain ⟨_, _, ⟨T5, L5, k5, n5⟩, -, X5, ⟨Lc5, hQ5, l5, y5, z5⟩, st5⟩ := X4.virtualBack hx (y := (⟨"com/example/chronoid/chronoid/id/UniqueKey", "equals", "(Ljava/lang/Object;)Z"⟩ : MethodName)) (z := (⟨"com/example/chronoid/chronoid/id/UniqueKey", "equals", "(Ljava/lang/Object;)Z"⟩ : MethodName)) hown (mvT hZ (hw _ (List.mem_of_getElem? (i := 17) rfl))) (mvT hZ (hw _ (List.mem_of_getElem? (i := 18) rfl))) (notFace_of_selects (args := #[]) (mvT hZ (hw _ (List.mem_of_getElem? (i := 20) rfl)))) (mvT hZ (hw _ (List.mem_of_getElem? (i := 20) rfl))) (mvT hZ (hw _ (List.mem_of_getElem? (i := 19) rfl))) (by decide) (backOf (W := 0) (rm3n l Z a0 hw [] b1  T4.heap n0 (Nat.le_trans (Nat.le_trans (Nat.le_trans (Nat.le_trans Z0 E1.1) Kq2.1) E3.1) Kq4.1) ) hZ (hw _ (List.mem_of_getElem? (i := 21) rfl)) (hw _ (List.mem_of_getElem? (i := 4) rfl)) (by decide) (by decide)) q5a q5c (g := (mkF m 192 #[.val (.long p1), .second, .val (.long p2), .second, .val (.int p3), .val (.int p4), .val (.int p5), .val (.int p6), .val (.int s1), .val (.int k1), .val (.long m2), .second, .val (.int s2), .val (.int k2), .val (.int kd), .val (.ref b1), .val (.ref b3), .val .null, .val (.int (0 : Int32)), .unset, .unset] [.null, (.ref b1)])) rfl (by rw [hml]; rfl) (Steps.refl _) (argsL := [.null]) (rest := []) (lenOf pd_3 rfl) rfl (by show 2 * 0 + _ ≤ _; exact Nat.le_of_eq rfl) (hb hby at_192) (fun _ _ => ⟨rfl, rfl, (by decide : 2 + 0 ≤ _), (by decide : 6 + 0 ≤ _)⟩)
    dsimp only [Pt.U, Pt.locs, Pt.cells, Pt.slots] at X5 l5 y5 z5 st5 hQ5
    subst l5 y5 z5
    obtain ⟨rfl, Nq5, e5⟩ := hQ5
    have N5 := Fr.app N4 Nq5
    refine Go.ts (T' := T5) (g' := (mkF m 195 #[.val (.long p1), .second, .val (.long p2), .second, .val (.int p3), .val (.int p4), .val (.int p5), .val (.int p6), .val (.int s1), .val (.int k1), .val (.long m2), .second, .val (.int s2), .val (.int k2), .val (.int kd), .val (.ref b1), .val (.ref b3), .val .null, .val (.int (0 : Int32)), .unset, .unset] [(.int (0 : Int32))])) st5 ?_
    refine Go.st (T' := T5) (g' := (mkF m 197 #[.val (.long p1), .second, .val (.long p2), .second, .val (.int p3), .val (.int p4), .val (.int p5), .val (.int p6), .val (.int s1), .val (.int k1), .val (.long m2), .second, .val (.int s2), .val (.int k2), .val (.int kd), .val (.ref b1), .val (.ref b3), .val .null, .val (.int (0 : Int32)), .unset, .unset] [(.int (0 : Int32)), (.int (0 : Int32))])) (fun t_ k_ => XS.iload X5.here hx rfl (hb hby at_195) rfl  k_) ?_
    refine Go.st (T' := T5) (g' := (mkF m 200 #[.val (.long p1), .second, .val (.long p2), .second, .val (.int p3), .val (.int p4), .val (.int p5), .val (.int p6), .val (.int s1), .val (.int k1), .val (.long m2), .second, .val (.int s2), .val (.int k2), .val (.int kd), .val (.ref b1), .val (.ref b3), .val .null, .val (.int (0 : Int32)), .unset, .unset] [])) (fun t_ k_ => XS.icmpNo X5.here hx rfl (hb hby at_197) rfl (teq (by decide)).2 k_) ?_
    refine Go.st (T' := T5) (g' := (mkF m 201 #[.val (.long p1), .second, .val (.long p2), .second, .val (.int p3), .val (.int p4), .val (.int p5), .val (.int p6), .val (.int s1), .val (.int k1), .val (.long m2), .second, .val (.int s2), .val (.int k2), .val (.int kd), .val (.ref b1), .val (.ref b3), .val .null, .val (.int (0 : Int32)), .unset, .unset] [(.int (1 : Int32))])) (fun t_ k_ => XS.iconst X5.here hx rfl (hb hby at_200) k_) ?_
    refine Go.st (T' := T5) (g' := (mkF m 205 #[.val (.long p1), .second, .val (.long p2), .second, .val (.int p3), .val (.int p4), .val (.int p5), .val (.int p6), .val (.int s1), .val (.int k1), .val (.long m2), .second, .val (.int s2), .val (.int k2), .val (.int kd), .val (.ref b1), .val (.ref b3), .val .null, .val (.int (0 : Int32)), .unset, .unset] [(.int (1 : Int32))])) (fun t_ k_ => XS.goto X5.here hx rfl (pc0 := 201) (pc' := 205) rfl (hb hby at_201) (by decide) (by decide) k_) ?_
    refine Go.st (T' := T5) (g' := (mkF m 207 #[.val (.long p1), .second, .val (.long p2), .second, .val (.int p3), .val (.int p4), .val (.int p5), .val (.int p6), .val (.int s1), .val (.int k1), .val (.long m2), .second, .val (.int s2), .val (.int k2), .val (.int kd), .val (.ref b1), .val (.ref b3), .val .null, .val (.int (0 : Int32)), .val (.int (1 : Int32)), .unset] [])) (fun t_ k_ => XS.istore X5.here hx rfl (hb hby at_205) rfl (l' := #[.val (.long p1), .second, .val (.long p2), .second, .val (.int p3), .val (.int p4), .val (.int p5), .val (.int p6), .val (.int s1), .val (.int k1), .val (.long m2), .second, .val (.int s2), .val (.int k2), .val (.int kd), .val (.ref b1), .val (.ref b3), .val .null, .val (.int (0 : Int32)), .val (.int (1 : Int32)), .unset]) rfl k_) ?_
    refine Go.st (T' := T5) (g' := (mkF m 209 #[.val (.long p1), .second, .val (.long p2), .second, .val (.int p3), .val (.int p4), .val (.int p5), .val (.int p6), .val (.int s1), .val (.int k1), .val (.long m2), .second, .val (.int s2), .val (.int k2), .val (.int kd), .val (.ref b1), .val (.ref b3), .val .null, .val (.int (0 : Int32)), .val (.int (1 : Int32)), .unset] [(.int kd)])) (fun t_ k_ => XS.iload X5.here hx rfl (hb hby at_207) rfl  k_) ?_
    refine Go.st (T' := T5) (g' := (mkF m 224 #[.val (.long p1), .second, .val (.long p2), .second, .val (.int p3), .val (.int p4), .val (.int p5), .val (.int p6), .val (.int s1), .val (.int k1), .val (.long m2), .second, .val (.int s2), .val (.int k2), .val (.int kd), .val (.ref b1), .val (.ref b3), .val .null, .val (.int (0 : Int32)), .val (.int (1 : Int32)), .unset] [])) (fun t_ k_ => XS.ifYes X5.here hx rfl (pc0 := 209) (pc' := 224) rfl (hb hby at_209) rfl ((if0 _ _).trans (feq (by rw [hc109]; decide)).2) (by decide) (by decide) k_) ?_
    refine Go.st (T' := T5) (g' := (mkF m 225 #[.val (.long p1), .second, .val (.long p2), .second, .val (.int p3), .val (.int p4), .val (.int p5), .val (.int p6), .val (.int s1), .val (.int k1), .val (.long m2), .second, .val (.int s2), .val (.int k2), .val (.int kd), .val (.ref b1), .val (.ref b3), .val .null, .val (.int (0 : Int32)), .val (.int (1 : Int32)), .unset] [(.int (1 : Int32))])) (fun t_ k_ => XS.iconst X5.here hx rfl (hb hby at_224) k_) ?_
    refine Go.st (T' := T5) (g' := (mkF m 229 #[.val (.long p1), .second, .val (.long p2), .second, .val (.int p3), .val (.int p4), .val (.int p5), .val (.int p6), .val (.int s1), .val (.int k1), .val (.long m2), .second, .val (.int s2), .val (.int k2), .val (.int kd), .val (.ref b1), .val (.ref b3), .val .null, .val (.int (0 : Int32)), .val (.int (1 : Int32)), .unset] [(.int (1 : Int32))])) (fun t_ k_ => XS.goto X5.here hx rfl (pc0 := 225) (pc' := 229) rfl (hb hby at_225) (by decide) (by decide) k_) ?_
    refine Go.st (T' := T5) (g' := (mkF m 231 #[.val (.long p1), .second, .val (.long p2), .second, .val (.int p3), .val (.int p4), .val (.int p5), .val (.int p6), .val (.int s1), .val (.int k1), .val (.long m2), .second, .val (.int s2), .val (.int k2), .val (.int kd), .val (.ref b1), .val (.ref b3), .val .null, .val (.int (0 : Int32)), .val (.int (1 : Int32)), .val (.int (1 : Int32))] [])) (fun t_ k_ => XS.istore X5.here hx rfl (hb hby at_229) rfl (l' := #[.val (.long p1), .second, .val (.long p2), .second, .val (.int p3), .val (.int p4), .val (.int p5), .val (.int p6), .val (.int s1), .val (.int k1), .val (.long m2), .second, .val (.int s2), .val (.int k2), .val (.int kd), .val (.ref b1), .val (.ref b3), .val .null, .val (.int (0 : Int32)), .val (.int (1 : Int32)), .val (.int (1 : Int32))]) rfl k_) ?_
    refine Go.st (T' := T5) (g' := (mkF m 233 #[.val (.long p1), .second, .val (.long p2), .second, .val (.int p3), .val (.int p4), .val (.int p5), .val (.int p6), .val (.int s1), .val (.int k1), .val (.long m2), .second, .val (.int s2), .val (.int k2), .val (.int kd), .val (.ref b1), .val (.ref b3), .val .null, .val (.int (0 : Int32)), .val (.int (1 : Int32)), .val (.int (1 : Int32))] [(.int (1 : Int32))])) (fun t_ k_ => XS.iload X5.here hx rfl (hb hby at_231) rfl  k_) ?_
    refine Go.st (T' := T5) (g' := (mkF m 236 #[.val (.long p1), .second, .val (.long p2), .second, .val (.int p3), .val (.int p4), .val (.int p5), .val (.int p6), .val (.int s1), .val (.int k1), .val (.long m2), .second, .val (.int s2), .val (.int k2), .val (.int kd), .val (.ref b1), .val (.ref b3), .val .null, .val (.int (0 : Int32)), .val (.int (1 : Int32)), .val (.int (1 : Int32))] [])) (fun t_ k_ => XS.ifNo X5.here hx rfl (hb hby at_233) rfl ((if0 _ _).trans (feq (by decide)).1) k_) ?_
    refine Go.st (T' := T5) (g' := (mkF m 238 #[.val (.long p1), .second, .val (.long p2), .second, .val (.int p3), .val (.int p4), .val (.int p5), .val (.int p6), .val (.int s1), .val (.int k1), .val (.long m2), .second, .val (.int s2), .val (.int k2), .val (.int kd), .val (.ref b1), .val (.ref b3), .val .null, .val (.int (0 : Int32)), .val (.int (1 : Int32)), .val (.int (1 : Int32))] [(.int (1 : Int32))])) (fun t_ k_ => XS.iload X5.here hx rfl (hb hby at_236) rfl  k_) ?_
    refine Go.st (T' := T5) (g' := (mkF m 241 #[.val (.long p1), .second, .val (.long p2), .second, .val (.int p3), .val (.int p4), .val (.int p5), .val (.int p6), .val (.int s1), .val (.int k1), .val (.long m2), .second, .val (.int s2), .val (.int k2), .val (.int kd), .val (.ref b1), .val (.ref b3), .val .null, .val (.int (0 : Int32)), .val (.int (1 : Int32)), .val (.int (1 : Int32))] [])) (fun t_ k_ => XS.ifNo X5.here hx rfl (hb hby at_238) rfl ((if0 _ _).trans (feq (by decide)).1) k_) ?_
    refine Go.st (T' := T5) (g' := (mkF m 242 #[.val (.long p1), .second, .val (.long p2), .second, .val (.int p3), .val (.int p4), .val (.int p5), .val (.int p6), .val (.int s1), .val (.int k1), .val (.long m2), .second, .val (.int s2), .val (.int k2), .val (.int kd), .val (.ref b1), .val (.ref b3), .val .null, .val (.int (0 : Int32)), .val (.int (1 : Int32)), .val (.int (1 : Int32))] [(.int (1 : Int32))])) (fun t_ k_ => XS.iconst X5.here hx rfl (hb hby at_241) k_) ?_
    refine Go.st (T' := T5) (g' := (mkF m 246 #[.val (.long p1), .second, .val (.long p2), .second, .val (.int p3), .val (.int p4), .val (.int p5), .val (.int p6), .val (.int s1), .val (.int k1), .val (.long m2), .second, .val (.int s2), .val (.int k2), .val (.int kd), .val (.ref b1), .val (.ref b3), .val .null, .val (.int (0 : Int32)), .val (.int (1 : Int32)), .val (.int (1 : Int32))] [(.int (1 : Int32))])) (fun t_ k_ => XS.goto X5.here hx rfl (pc0 := 242) (pc' := 246) rfl (hb hby at_242) (by decide) (by decide) k_) ?_
    refine Go.retB X5 hx Bd.returns hlk (t := .boolean) (by simp) (hb hby at_246) (by decide) (by decide) ?_
    rw [e5]
    exact ⟨rfl, N5⟩
  · refine Go.st (T' := T4) (g' := (mkF m 121 #[.val (.long p1), .second, .val (.long p2), .second, .val (.int p3), .val (.int p4), .val (.int p5), .val (.int p6), .val (.int s1), .val (.int k1), .val (.long m2), .second, .val (.int s2), .val (.int k2), .val (.int kd), .val (.ref b1), .val (.ref b3), .unset, .unset, .unset, .unset] [])) (fun t_ k_ => XS.icmpYes X4.here hx rfl (pc0 := 109) (pc' := 121) rfl (hb hby at_109) rfl (feq hc109).2 (by decide) (by decide) k_) ?_
    refine Go.st (T' := T4) (g' := (mkF m 123 #[.val (.long p1), .second, .val (.long p2), .second, .val (.int p3), .val (.int p4), .val (.int p5), .val (.int p6), .val (.int s1), .val (.int k1), .val (.long m2), .second, .val (.int s2), .val (.int k2), .val (.int kd), .val (.ref b1), .val (.ref b3), .unset, .unset, .unset, .unset] [(.int kd)])) (fun t_ k_ => XS.iload X4.here hx rfl (hb hby at_121) rfl  k_) ?_
    refine Go.st (T' := T4) (g' := (mkF m 124 #[.val (.long p1), .second, .val (.long p2), .second, .val (.int p3), .val (.int p4), .val (.int p5), .val (.int p6), .val (.int s1), .val (.int k1), .val (.long m2), .second, .val (.int s2), .val (.int k2), .val (.int kd), .val (.ref b1), .val (.ref b3), .unset, .unset, .unset, .unset] [(.int (2 : Int32)), (.int kd)])) (fun t_ k_ => XS.iconst X4.here hx rfl (hb hby at_123) k_) ?_
    by_cases hc124 : kd = (2 : Int32)
    · refine Go.st (T' := T4) (g' := (mkF m 127 #[.val (.long p1), .second, .val (.long p2), .second, .val (.int p3), .val (.int p4), .val (.int p5), .val (.int p6), .val (.int s1), .val (.int k1), .val (.long m2), .second, .val (.int s2), .val (.int k2), .val (.int kd), .val (.ref b1), .val (.ref b3), .unset, .unset, .unset, .unset] [])) (fun t_ k_ => XS.icmpNo X4.here hx rfl (hb hby at_124) rfl (teq hc124).2 k_) ?_
      refine Go.st (T' := T4) (g' := (mkF m 129 #[.val (.long p1), .second, .val (.long p2), .second, .val (.int p3), .val (.int p4), .val (.int p5), .val (.int p6), .val (.int s1), .val (.int k1), .val (.long m2), .second, .val (.int s2), .val (.int k2), .val (.int kd), .val (.ref b1), .val (.ref b3), .unset, .unset, .unset, .unset] [(.ref b1)])) (fun t_ k_ => XS.aload X4.here hx rfl (hb hby at_127) rfl rfl k_) ?_
      refine Go.st (T' := T4) (g' := (mkF m 131 #[.val (.long p1), .second, .val (.long p2), .second, .val (.int p3), .val (.int p4), .val (.int p5), .val (.int p6), .val (.int s1), .val (.int k1), .val (.long m2), .second, .val (.int s2), .val (.int k2), .val (.int kd), .val (.ref b1), .val (.ref b3), .val (.ref b1), .unset, .unset, .unset] [])) (fun t_ k_ => XS.astore X4.here hx rfl (hb hby at_129) rfl rfl (l' := #[.val (.long p1), .second, .val (.long p2), .second, .val (.int p3), .val (.int p4), .val (.int p5), .val (.int p6), .val (.int s1), .val (.int k1), .val (.long m2), .second, .val (.int s2), .val (.int k2), .val (.int kd), .val (.ref b1), .val (.ref b3), .val (.ref b1), .unset, .unset, .unset]) rfl k_) ?_
      refine Go.st (T' := T4) (g' := (mkF m 132 #[.val (.long p1), .second, .val (.long p2), .second, .val (.int p3), .val (.int p4), .val (.int p5), .val (.int p6), .val (.int s1), .val (.int k1), .val (.long m2), .second, .val (.int s2), .val (.int k2), .val (.int kd), .val (.ref b1), .val (.ref b3), .val (.ref b1), .unset, .unset, .unset] [(.int (1 : Int32))])) (fun t_ k_ => XS.iconst X4.here hx rfl (hb hby at_131) k_) ?_
      refine Go.st (T' := T4) (g' := (mkF m 134 #[.val (.long p1), .second, .val (.long p2), .second, .val (.int p3), .val (.int p4), .val (.int p5), .val (.int p6), .val (.int s1), .val (.int k1), .val (.long m2), .second, .val (.int s2), .val (.int k2), .val (.int kd), .val (.ref b1), .val (.ref b3), .val (.ref b1), .val (.int (1 : Int32)), .unset, .unset] [])) (fun t_ k_ => XS.istore X4.here hx rfl (hb hby at_132) rfl (l' := #[.val (.long p1), .second, .val (.long p2), .second, .val (.int p3), .val (.int p4), .val (.int p5), .val (.int p6), .val (.int s1), .val (.int k1), .val (.long m2), .second, .val (.int s2), .val (.int k2), .val (.int kd), .val (.ref b1), .val (.ref b3), .val (.ref b1), .val (.int (1 : Int32)), .unset, .unset]) rfl k_) ?_
      refine Go.st (T' := T4) (g' := (mkF m 188 #[.val (.long p1), .second, .val (.long p2), .second, .val (.int p3), .val (.int p4), .val (.int p5), .val (.int p6), .val (.int s1), .val (.int k1), .val (.long m2), .second, .val (.int s2), .val (.int k2), .val (.int kd), .val (.ref b1), .val (.ref b3), .val (.ref b1), .val (.int (1 : Int32)), .unset, .unset] [])) (fun t_ k_ => XS.goto X4.here hx rfl (pc0 := 134) (pc' := 188) rfl (hb hby at_134) (by decide) (by decide) k_) ?_
      refine Go.st (T' := T4) (g' := (mkF m 190 #[.val (.long p1), .second, .val (.long p2), .second, .val (.int p3), .val (.int p4), .val (.int p5), .val (.int p6), .val (.int s1), .val (.int k1), .val (.long m2), .second, .val (.int s2), .val (.int k2), .val (.int kd), .val (.ref b1), .val (.ref b3), .val (.ref b1), .val (.int (1 : Int32)), .unset, .unset] [(.ref b1)])) (fun t_ k_ => XS.aload X4.here hx rfl (hb hby at_188) rfl rfl k_) ?_
      refine Go.st (T' := T4) (g' := (mkF m 192 #[.val (.long p1), .second, .val (.long p2), .second, .val (.int p3), .val (.int p4), .val (.int p5), .val (.int p6), .val (.int s1), .val (.int k1), .val (.long m2), .second, .val (.int s2), .val (.int k2), .val (.int kd), .val (.ref b1), .val (.ref b3), .val (.ref b1), .val (.int (1 : Int32)), .unset, .unset] [(.ref b1), (.ref b1)])) (fun t_ k_ => XS.aload X4.here hx rfl (hb hby at_190) rfl rfl k_) ?_
      obtain ⟨cq6, kq6, q6a, q6b, q6c⟩ := isOf hZ rfl ((Exa.ext E3 Eq2).keep Kq4)
      obtain ⟨_, _, ⟨T6, L6, k6, n6⟩, -, X6, ⟨Lc6, hQ6, l6, y6, z6⟩, st6⟩ := X4.virtualBack hx (y := (⟨"com/example/chronoid/chronoid/id/UniqueKey", "equals", "(Ljava/lang/Object;)Z"⟩ : MethodName)) (z := (⟨"com/example/chronoid/chronoid/id/UniqueKey", "equals", "(Ljava/lang/Object;)Z"⟩ : MethodName)) hown (mvT hZ (hw _ (List.mem_of_getElem? (i := 17) rfl))) (mvT hZ (hw _ (List.mem_of_getElem? (i := 18) rfl))) (notFace_of_selects (args := #[]) (mvT hZ (hw _ (List.mem_of_getElem? (i := 20) rfl)))) (mvT hZ (hw _ (List.mem_of_getElem? (i := 20) rfl))) (mvT hZ (hw _ (List.mem_of_getElem? (i := 19) rfl))) (by decide) (backOf (W := 0) (rm3 l Z a0 hw [] b1 b1 p1 s1 k1 p1 s1 k1 (1 : Int32) T4.heap n0 (Nat.le_trans (Nat.le_trans (Nat.le_trans (Nat.le_trans Z0 E1.1) Kq2.1) E3.1) Kq4.1) ((Exa.ext E3 Eq2).keep Kq4) ((Fld.ext E3 F0q2).keep Kq4 (ninS (Nat.ne_of_lt (Nat.lt_of_lt_of_le Eq2.lt (Nat.le_of_eq q3.symm))) nin0)) ((Fld.ext E3 F1q2).keep Kq4 (ninS (Nat.ne_of_lt (Nat.lt_of_lt_of_le Eq2.lt (Nat.le_of_eq q3.symm))) nin0)) ((Fld.ext E3 F2q2).keep Kq4 (ninS (Nat.ne_of_lt (Nat.lt_of_lt_of_le Eq2.lt (Nat.le_of_eq q3.symm))) nin0)) ((Fld.ext E3 F0q2).keep Kq4 (ninS (Nat.ne_of_lt (Nat.lt_of_lt_of_le Eq2.lt (Nat.le_of_eq q3.symm))) nin0)) ((Fld.ext E3 F1q2).keep Kq4 (ninS (Nat.ne_of_lt (Nat.lt_of_lt_of_le Eq2.lt (Nat.le_of_eq q3.symm))) nin0)) ((Fld.ext E3 F2q2).keep Kq4 (ninS (Nat.ne_of_lt (Nat.lt_of_lt_of_le Eq2.lt (Nat.le_of_eq q3.symm))) nin0)) ((if_pos ⟨rfl, rfl, rfl⟩).symm)) hZ (hw _ (List.mem_of_getElem? (i := 21) rfl)) (hw _ (List.mem_of_getElem? (i := 4) rfl)) (by decide) (by decide)) q6a q6c (g := (mkF m 192 #[.val (.long p1), .second, .val (.long p2), .second, .val (.int p3), .val (.int p4), .val (.int p5), .val (.int p6), .val (.int s1), .val (.int k1), .val (.long m2), .second, .val (.int s2), .val (.int k2), .val (.int kd), .val (.ref b1), .val (.ref b3), .val (.ref b1), .val (.int (1 : Int32)), .unset, .unset] [(.ref b1), (.ref b1)])) rfl (by rw [hml]; rfl) (Steps.refl _) (argsL := [(.ref b1)]) (rest := []) (lenOf pd_3 rfl) rfl (by show 2 * 0 + _ ≤ _; exact Nat.le_of_eq rfl) (hb hby at_192) (fun _ _ => ⟨rfl, rfl, (by decide : 2 + 0 ≤ _), (by decide : 6 + 0 ≤ _)⟩)
      dsimp only [Pt.U, Pt.locs, Pt.cells, Pt.slots] at X6 l6 y6 z6 st6 hQ6
      subst l6 y6 z6
      obtain ⟨rfl, Nq6, e6⟩ := hQ6
      have N6 := Fr.app N4 Nq6
      refine Go.ts (T' := T6) (g' := (mkF m 195 #[.val (.long p1), .second, .val (.long p2), .second, .val (.int p3), .val (.int p4), .val (.int p5), .val (.int p6), .val (.int s1), .val (.int k1), .val (.long m2), .second, .val (.int s2), .val (.int k2), .val (.int kd), .val (.ref b1), .val (.ref b3), .val (.ref b1), .val (.int (1 : Int32)), .unset, .unset] [(.int (1 : Int32))])) st6 ?_
      refine Go.st (T' := T6) (g' := (mkF m 197 #[.val (.long p1), .second, .val (.long p2), .second, .val (.int p3), .val (.int p4), .val (.int p5), .val (.int p6), .val (.int s1), .val (.int k1), .val (.long m2), .second, .val (.int s2), .val (.int k2), .val (.int kd), .val (.ref b1), .val (.ref b3), .val (.ref b1), .val (.int (1 : Int32)), .unset, .unset] [(.int (1 : Int32)), (.int (1 : Int32))])) (fun t_ k_ => XS.iload X6.here hx rfl (hb hby at_195) rfl  k_) ?_
      refine Go.st (T' := T6) (g' := (mkF m 200 #[.val (.long p1), .second, .val (.long p2), .second, .val (.int p3), .val (.int p4), .val (.int p5), .val (.int p6), .val (.int s1), .val (.int k1), .val (.long m2), .second, .val (.int s2), .val (.int k2), .val (.int kd), .val (.ref b1), .val (.ref b3), .val (.ref b1), .val (.int (1 : Int32)), .unset, .unset] [])) (fun t_ k_ => XS.icmpNo X6.here hx rfl (hb hby at_197) rfl (teq (by decide)).2 k_) ?_
      refine Go.st (T' := T6) (g' := (mkF m 201 #[.val (.long p1), .second, .val (.long p2), .second, .val (.int p3), .val (.int p4), .val (.int p5), .val (.int p6), .val (.int s1), .val (.int k1), .val (.long m2), .second, .val (.int s2), .val (.int k2), .val (.int kd), .val (.ref b1), .val (.ref b3), .val (.ref b1), .val (.int (1 : Int32)), .unset, .unset] [(.int (1 : Int32))])) (fun t_ k_ => XS.iconst X6.here hx rfl (hb hby at_200) k_) ?_
      refine Go.st (T' := T6) (g' := (mkF m 205 #[.val (.long p1), .second, .val (.long p2), .second, .val (.int p3), .val (.int p4), .val (.int p5), .val (.int p6), .val (.int s1), .val (.int k1), .val (.long m2), .second, .val (.int s2), .val (.int k2), .val (.int kd), .val (.ref b1), .val (.ref b3), .val (.ref b1), .val (.int (1 : Int32)), .unset, .unset] [(.int (1 : Int32))])) (fun t_ k_ => XS.goto X6.here hx rfl (pc0 := 201) (pc' := 205) rfl (hb hby at_201) (by decide) (by decide) k_) ?_
      refine Go.st (T' := T6) (g' := (mkF m 207 #[.val (.long p1), .second, .val (.long p2), .second, .val (.int p3), .val (.int p4), .val (.int p5), .val (.int p6), .val (.int s1), .val (.int k1), .val (.long m2), .second, .val (.int s2), .val (.int k2), .val (.int kd), .val (.ref b1), .val (.ref b3), .val (.ref b1), .val (.int (1 : Int32)), .val (.int (1 : Int32)), .unset] [])) (fun t_ k_ => XS.istore X6.here hx rfl (hb hby at_205) rfl (l' := #[.val (.long p1), .second, .val (.long p2), .second, .val (.int p3), .val (.int p4), .val (.int p5), .val (.int p6), .val (.int s1), .val (.int k1), .val (.long m2), .second, .val (.int s2), .val (.int k2), .val (.int kd), .val (.ref b1), .val (.ref b3), .val (.ref b1), .val (.int (1 : Int32)), .val (.int (1 : Int32)), .unset]) rfl k_) ?_
      refine Go.st (T' := T6) (g' := (mkF m 209 #[.val (.long p1), .second, .val (.long p2), .second, .val (.int p3), .val (.int p4), .val (.int p5), .val (.int p6), .val (.int s1), .val (.int k1), .val (.long m2), .second, .val (.int s2), .val (.int k2), .val (.int kd), .val (.ref b1), .val (.ref b3), .val (.ref b1), .val (.int (1 : Int32)), .val (.int (1 : Int32)), .unset] [(.int kd)])) (fun t_ k_ => XS.iload X6.here hx rfl (hb hby at_207) rfl  k_) ?_
      refine Go.st (T' := T6) (g' := (mkF m 224 #[.val (.long p1), .second, .val (.long p2), .second, .val (.int p3), .val (.int p4), .val (.int p5), .val (.int p6), .val (.int s1), .val (.int k1), .val (.long m2), .second, .val (.int s2), .val (.int k2), .val (.int kd), .val (.ref b1), .val (.ref b3), .val (.ref b1), .val (.int (1 : Int32)), .val (.int (1 : Int32)), .unset] [])) (fun t_ k_ => XS.ifYes X6.here hx rfl (pc0 := 209) (pc' := 224) rfl (hb hby at_209) rfl ((if0 _ _).trans (feq (by rw [hc124]; decide)).2) (by decide) (by decide) k_) ?_
      refine Go.st (T' := T6) (g' := (mkF m 225 #[.val (.long p1), .second, .val (.long p2), .second, .val (.int p3), .val (.int p4), .val (.int p5), .val (.int p6), .val (.int s1), .val (.int k1), .val (.long m2), .second, .val (.int s2), .val (.int k2), .val (.int kd), .val (.ref b1), .val (.ref b3), .val (.ref b1), .val (.int (1 : Int32)), .val (.int (1 : Int32)), .unset] [(.int (1 : Int32))])) (fun t_ k_ => XS.iconst X6.here hx rfl (hb hby at_224) k_) ?_
      refine Go.st (T' := T6) (g' := (mkF m 229 #[.val (.long p1), .second, .val (.long p2), .second, .val (.int p3), .val (.int p4), .val (.int p5), .val (.int p6), .val (.int s1), .val (.int k1), .val (.long m2), .second, .val (.int s2), .val (.int k2), .val (.int kd), .val (.ref b1), .val (.ref b3), .val (.ref b1), .val (.int (1 : Int32)), .val (.int (1 : Int32)), .unset] [(.int (1 : Int32))])) (fun t_ k_ => XS.goto X6.here hx rfl (pc0 := 225) (pc' := 229) rfl (hb hby at_225) (by decide) (by decide) k_) ?_
      refine Go.st (T' := T6) (g' := (mkF m 231 #[.val (.long p1), .second, .val (.long p2), .second, .val (.int p3), .val (.int p4), .val (.int p5), .val (.int p6), .val (.int s1), .val (.int k1), .val (.long m2), .second, .val (.int s2), .val (.int k2), .val (.int kd), .val (.ref b1), .val (.ref b3), .val (.ref b1), .val (.int (1 : Int32)), .val (.int (1 : Int32)), .val (.int (1 : Int32))] [])) (fun t_ k_ => XS.istore X6.here hx rfl (hb hby at_229) rfl (l' := #[.val (.long p1), .second, .val (.long p2), .second, .val (.int p3), .val (.int p4), .val (.int p5), .val (.int p6), .val (.int s1), .val (.int k1), .val (.long m2), .second, .val (.int s2), .val (.int k2), .val (.int kd), .val (.ref b1), .val (.ref b3), .val (.ref b1), .val (.int (1 : Int32)), .val (.int (1 : Int32)), .val (.int (1 : Int32))]) rfl k_) ?_
      refine Go.st (T' := T6) (g' := (mkF m 233 #[.val (.long p1), .second, .val (.long p2), .second, .val (.int p3), .val (.int p4), .val (.int p5), .val (.int p6), .val (.int s1), .val (.int k1), .val (.long m2), .second, .val (.int s2), .val (.int k2), .val (.int kd), .val (.ref b1), .val (.ref b3), .val (.ref b1), .val (.int (1 : Int32)), .val (.int (1 : Int32)), .val (.int (1 : Int32))] [(.int (1 : Int32))])) (fun t_ k_ => XS.iload X6.here hx rfl (hb hby at_231) rfl  k_) ?_
      refine Go.st (T' := T6) (g' := (mkF m 236 #[.val (.long p1), .second, .val (.long p2), .second, .val (.int p3), .val (.int p4), .val (.int p5), .val (.int p6), .val (.int s1), .val (.int k1), .val (.long m2), .second, .val (.int s2), .val (.int k2), .val (.int kd), .val (.ref b1), .val (.ref b3), .val (.ref b1), .val (.int (1 : Int32)), .val (.int (1 : Int32)), .val (.int (1 : Int32))] [])) (fun t_ k_ => XS.ifNo X6.here hx rfl (hb hby at_233) rfl ((if0 _ _).trans (feq (by decide)).1) k_) ?_
      refine Go.st (T' := T6) (g' := (mkF m 238 #[.val (.long p1), .second, .val (.long p2), .second, .val (.int p3), .val (.int p4), .val (.int p5), .val (.int p6), .val (.int s1), .val (.int k1), .val (.long m2), .second, .val (.int s2), .val (.int k2), .val (.int kd), .val (.ref b1), .val (.ref b3), .val (.ref b1), .val (.int (1 : Int32)), .val (.int (1 : Int32)), .val (.int (1 : Int32))] [(.int (1 : Int32))])) (fun t_ k_ => XS.iload X6.here hx rfl (hb hby at_236) rfl  k_) ?_
      refine Go.st (T' := T6) (g' := (mkF m 241 #[.val (.long p1), .second, .val (.long p2), .second, .val (.int p3), .val (.int p4), .val (.int p5), .val (.int p6), .val (.int s1), .val (.int k1), .val (.long m2), .second, .val (.int s2), .val (.int k2), .val (.int kd), .val (.ref b1), .val (.ref b3), .val (.ref b1), .val (.int (1 : Int32)), .val (.int (1 : Int32)), .val (.int (1 : Int32))] [])) (fun t_ k_ => XS.ifNo X6.here hx rfl (hb hby at_238) rfl ((if0 _ _).trans (feq (by decide)).1) k_) ?_
      refine Go.st (T' := T6) (g' := (mkF m 242 #[.val (.long p1), .second, .val (.long p2), .second, .val (.int p3), .val (.int p4), .val (.int p5), .val (.int p6), .val (.int s1), .val (.int k1), .val (.long m2), .second, .val (.int s2), .val (.int k2), .val (.int kd), .val (.ref b1), .val (.ref b3), .val (.ref b1), .val (.int (1 : Int32)), .val (.int (1 : Int32)), .val (.int (1 : Int32))] [(.int (1 : Int32))])) (fun t_ k_ => XS.iconst X6.here hx rfl (hb hby at_241) k_) ?_
      refine Go.st (T' := T6) (g' := (mkF m 246 #[.val (.long p1), .second, .val (.long p2), .second, .val (.int p3), .val (.int p4), .val (.int p5), .val (.int p6), .val (.int s1), .val (.int k1), .val (.long m2), .second, .val (.int s2), .val (.int k2), .val (.int kd), .val (.ref b1), .val (.ref b3), .val (.ref b1), .val (.int (1 : Int32)), .val (.int (1 : Int32)), .val (.int (1 : Int32))] [(.int (1 : Int32))])) (fun t_ k_ => XS.goto X6.here hx rfl (pc0 := 242) (pc' := 246) rfl (hb hby at_242) (by decide) (by decide) k_) ?_
      refine Go.retB X6 hx Bd.returns hlk (t := .boolean) (by simp) (hb hby at_246) (by decide) (by decide) ?_
      rw [e6]
      exact ⟨rfl, N6⟩
    · refine Go.st (T' := T4) (g' := (mkF m 137 #[.val (.long p1), .second, .val (.long p2), .second, .val (.int p3), .val (.int p4), .val (.int p5), .val (.int p6), .val (.int s1), .val (.int k1), .val (.long m2), .second, .val (.int s2), .val (.int k2), .val (.int kd), .val (.ref b1), .val (.ref b3), .unset, .unset, .unset, .unset] [])) (fun t_ k_ => XS.icmpYes X4.here hx rfl (pc0 := 124) (pc' := 137) rfl (hb hby at_124) rfl (feq hc124).2 (by decide) (by decide) k_) ?_
      refine Go.st (T' := T4) (g' := (mkF m 139 #[.val (.long p1), .second, .val (.long p2), .second, .val (.int p3), .val (.int p4), .val (.int p5), .val (.int p6), .val (.int s1), .val (.int k1), .val (.long m2), .second, .val (.int s2), .val (.int k2), .val (.int kd), .val (.ref b1), .val (.ref b3), .unset, .unset, .unset, .unset] [(.int kd)])) (fun t_ k_ => XS.iload X4.here hx rfl (hb hby at_137) rfl  k_) ?_
      refine Go.st (T' := T4) (g' := (mkF m 140 #[.val (.long p1), .second, .val (.long p2), .second, .val (.int p3), .val (.int p4), .val (.int p5), .val (.int p6), .val (.int s1), .val (.int k1), .val (.long m2), .second, .val (.int s2), .val (.int k2), .val (.int kd), .val (.ref b1), .val (.ref b3), .unset, .unset, .unset, .unset] [(.int (3 : Int32)), (.int kd)])) (fun t_ k_ => XS.iconst X4.here hx rfl (hb hby at_139) k_) ?_
      by_cases hc140 : kd = (3 : Int32)
      · refine Go.st (T' := T4) (g' := (mkF m 143 #[.val (.long p1), .second, .val (.long p2), .second, .val (.int p3), .val (.int p4), .val (.int p5), .val (.int p6), .val (.int s1), .val (.int k1), .val (.long m2), .second, .val (.int s2), .val (.int k2), .val (.int kd), .val (.ref b1), .val (.ref b3), .unset, .unset, .unset, .unset] [])) (fun t_ k_ => XS.icmpNo X4.here hx rfl (hb hby at_140) rfl (teq hc140).2 k_) ?_
        refine Go.st (T' := T4) (g' := (mkF m 145 #[.val (.long p1), .second, .val (.long p2), .second, .val (.int p3), .val (.int p4), .val (.int p5), .val (.int p6), .val (.int s1), .val (.int k1), .val (.long m2), .second, .val (.int s2), .val (.int k2), .val (.int kd), .val (.ref b1), .val (.ref b3), .unset, .unset, .unset, .unset] [(.int s1)])) (fun t_ k_ => XS.iload X4.here hx rfl (hb hby at_143) rfl  k_) ?_
        obtain ⟨_, _, ⟨T7, L7, k7, n7⟩, -, X7, ⟨Lc7, hQ7, l7, y7, z7⟩, st7⟩ := Jvm.LawKit.callS X4 hx (y := (⟨"java/lang/Integer", "valueOf", "(I)Ljava/lang/Integer;"⟩ : MethodName)) hown (mvT hZ (hw _ (List.mem_of_getElem? (i := 24) rfl))) (mvT hZ (hw _ (List.mem_of_getElem? (i := 25) rfl))) (mvT hZ (hw _ (List.mem_of_getElem? (i := 26) rfl))) (mvT hZ (hw _ (List.mem_of_getElem? (i := 27) rfl))) (by decide) (backOf (W := 0) (rm4 l Z a0 hw [] s1 ar cl T4.heap n0 (Nat.le_trans (Nat.le_trans (Nat.le_trans (Nat.le_trans Z0 E1.1) Kq2.1) E3.1) Kq4.1) (Sta.ext O4.2 S_h) (Sta.ext O4.2 S_c) (Arr.ext O4.2 A_c) z_c (fun j hj => by obtain ⟨b, q1, q2⟩ := hb_c j hj; exact ⟨b, q1, Exa.ext O4.2 q2⟩)) hZ (hw _ (List.mem_of_getElem? (i := 27) rfl)) (hw _ (List.mem_of_getElem? (i := 26) rfl)) (by decide) (by decide)) (g := (mkF m 145 #[.val (.long p1), .second, .val (.long p2), .second, .val (.int p3), .val (.int p4), .val (.int p5), .val (.int p6), .val (.int s1), .val (.int k1), .val (.long m2), .second, .val (.int s2), .val (.int k2), .val (.int kd), .val (.ref b1), .val (.ref b3), .unset, .unset, .unset, .unset] [(.int s1)])) rfl (by rw [hml]; rfl) (argsL := [(.int s1)]) (rest := []) (lenOf pd_4 rfl) rfl (by show 2 * 0 + _ ≤ _; exact Nat.le_of_eq rfl) (hb hby at_145) (fun _ _ => ⟨rfl, rfl, (by decide : 2 + 1 ≤ _), (by decide : 6 + 1 ≤ _)⟩)
        dsimp only [Pt.U, Pt.locs, Pt.cells, Pt.slots] at X7 l7 y7 z7 st7 hQ7
        subst l7 y7 z7
        obtain ⟨b7, rfl, Nq7, Kq7, Eq7⟩ := hQ7
        have O7 := Old.keep O4 Kq7 all0
        have N7 := Fr.app N4 Nq7
        refine Go.st (T' := T7) (g' := (mkF m 148 #[.val (.long p1), .second, .val (.long p2), .second, .val (.int p3), .val (.int p4), .val (.int p5), .val (.int p6), .val (.int s1), .val (.int k1), .val (.long m2), .second, .val (.int s2), .val (.int k2), .val (.int kd), .val (.ref b1), .val (.ref b3), .unset, .unset, .unset, .unset] [(.ref b7)])) st7 ?_
        refine Go.st (T' := T7) (g' := (mkF m 150 #[.val (.long p1), .second, .val (.long p2), .second, .val (.int p3), .val (.int p4), .val (.int p5), .val (.int p6), .val (.int s1), .val (.int k1), .val (.long m2), .second, .val (.int s2), .val (.int k2), .val (.int kd), .val (.ref b1), .val (.ref b3), .val (.ref b7), .unset, .unset, .unset] [])) (fun t_ k_ => XS.astore X7.here hx rfl (hb hby at_148) rfl rfl (l' := #[.val (.long p1), .second, .val (.long p2), .second, .val (.int p3), .val (.int p4), .val (.int p5), .val (.int p6), .val (.int s1), .val (.int k1), .val (.long m2), .second, .val (.int s2), .val (.int k2), .val (.int kd), .val (.ref b1), .val (.ref b3), .val (.ref b7), .unset, .unset, .unset]) rfl k_) ?_
        refine Go.st (T' := T7) (g' := (mkF m 151 #[.val (.long p1), .second, .val (.long p2), .second, .val (.int p3), .val (.int p4), .val (.int p5), .val (.int p6), .val (.int s1), .val (.int k1), .val (.long m2), .second, .val (.int s2), .val (.int k2), .val (.int kd), .val (.ref b1), .val (.ref b3), .val (.ref b7), .unset, .unset, .unset] [(.int (0 : Int32))])) (fun t_ k_ => XS.iconst X7.here hx rfl (hb hby at_150) k_) ?_
        refine Go.st (T' := T7) (g' := (mkF m 153 #[.val (.long p1), .second, .val (.long p2), .second, .val (.int p3), .val (.int p4), .val (.int p5), .val (.int p6), .val (.int s1), .val (.int k1), .val (.long m2), .second, .val (.int s2), .val (.int k2), .val (.int kd), .val (.ref b1), .val (.ref b3), .val (.ref b7), .val (.int (0 : Int32)), .unset, .unset] [])) (fun t_ k_ => XS.istore X7.here hx rfl (hb hby at_151) rfl (l' := #[.val (.long p1), .second, .val (.long p2), .second, .val (.int p3), .val (.int p4), .val (.int p5), .val (.int p6), .val (.int s1), .val (.int k1), .val (.long m2), .second, .val (.int s2), .val (.int k2), .val (.int kd), .val (.ref b1), .val (.ref b3), .val (.ref b7), .val (.int (0 : Int32)), .unset, .unset]) rfl k_) ?_
        refine Go.st (T' := T7) (g' := (mkF m 188 #[.val (.long p1), .second, .val (.long p2), .second, .val (.int p3), .val (.int p4), .val (.int p5), .val (.int p6), .val (.int s1), .val (.int k1), .val (.long m2), .second, .val (.int s2), .val (.int k2), .val (.int kd), .val (.ref b1), .val (.ref b3), .val (.ref b7), .val (.int (0 : Int32)), .unset, .unset] [])) (fun t_ k_ => XS.goto X7.here hx rfl (pc0 := 153) (pc' := 188) rfl (hb hby at_153) (by decide) (by decide) k_) ?_
        refine Go.st (T' := T7) (g' := (mkF m 190 #[.val (.long p1), .second, .val (.long p2), .second, .val (.int p3), .val (.int p4), .val (.int p5), .val (.int p6), .val (.int s1), .val (.int k1), .val (.long m2), .second, .val (.int s2), .val (.int k2), .val (.int kd), .val (.ref b1), .val (.ref b3), .val (.ref b7), .val (.int (0 : Int32)), .unset, .unset] [(.ref b1)])) (fun t_ k_ => XS.aload X7.here hx rfl (hb hby at_188) rfl rfl k_) ?_
        refine Go.st (T' := T7) (g' := (mkF m 192 #[.val (.long p1), .second, .val (.long p2), .second, .val (.int p3), .val (.int p4), .val (.int p5), .val (.int p6), .val (.int s1), .val (.int k1), .val (.long m2), .second, .val (.int s2), .val (.int k2), .val (.int kd), .val (.ref b1), .val (.ref b3), .val (.ref b7), .val (.int (0 : Int32)), .unset, .unset] [(.ref b7), (.ref b1)])) (fun t_ k_ => XS.aload X7.here hx rfl (hb hby at_190) rfl rfl k_) ?_
        obtain ⟨cq8, kq8, q8a, q8b, q8c⟩ := isOf hZ rfl (((Exa.ext E3 Eq2).keep Kq4).keep Kq7)
        obtain ⟨_, _, ⟨T8, L8, k8, n8⟩, -, X8, ⟨Lc8, hQ8, l8, y8, z8⟩, st8⟩ := X7.virtualBack hx (y := (⟨"com/example/chronoid/chronoid/id/UniqueKey", "equals", "(Ljava/lang/Object;)Z"⟩ : MethodName)) (z := (⟨"com/example/chronoid/chronoid/id/UniqueKey", "equals", "(Ljava/lang/Object;)Z"⟩ : MethodName)) hown (mvT hZ (hw _ (List.mem_of_getElem? (i := 17) rfl))) (mvT hZ (hw _ (List.mem_of_getElem? (i := 18) rfl))) (notFace_of_selects (args := #[]) (mvT hZ (hw _ (List.mem_of_getElem? (i := 20) rfl)))) (mvT hZ (hw _ (List.mem_of_getElem? (i := 20) rfl))) (mvT hZ (hw _ (List.mem_of_getElem? (i := 19) rfl))) (by decide) (backOf (W := 0) (rm3l l Z a0 hw [] b1 b7  T7.heap n0 (Nat.le_trans (Nat.le_trans (Nat.le_trans (Nat.le_trans (Nat.le_trans Z0 E1.1) Kq2.1) E3.1) Kq4.1) Kq7.1) Eq7) hZ (hw _ (List.mem_of_getElem? (i := 21) rfl)) (hw _ (List.mem_of_getElem? (i := 4) rfl)) (by decide) (by decide)) q8a q8c (g := (mkF m 192 #[.val (.long p1), .second, .val (.long p2), .second, .val (.int p3), .val (.int p4), .val (.int p5), .val (.int p6), .val (.int s1), .val (.int k1), .val (.long m2), .second, .val (.int s2), .val (.int k2), .val (.int kd), .val (.ref b1), .val (.ref b3), .val (.ref b7), .val (.int (0 : Int32)), .unset, .unset] [(.ref b7), (.ref b1)])) rfl (by rw [hml]; rfl) (Steps.refl _) (argsL := [(.ref b7)]) (rest := []) (lenOf pd_3 rfl) rfl (by show 2 * 0 + _ ≤ _; exact Nat.le_of_eq rfl) (hb hby at_192) (fun _ _ => ⟨rfl, rfl, (by decide : 3 + 0 ≤ _), (by decide : 7 + 0 ≤ _)⟩)
        dsimp only [Pt.U, Pt.locs, Pt.cells, Pt.slots] at X8 l8 y8 z8 st8 hQ8
        subst l8 y8 z8
        obtain ⟨rfl, Nq8, e8⟩ := hQ8
        have N8 := Fr.app N7 Nq8
        refine Go.ts (T' := T8) (g' := (mkF m 195 #[.val (.long p1), .second, .val (.long p2), .second, .val (.int p3), .val (.int p4), .val (.int p5), .val (.int p6), .val (.int s1), .val (.int k1), .val (.long m2), .second, .val (.int s2), .val (.int k2), .val (.int kd), .val (.ref b1), .val (.ref b3), .val (.ref b7), .val (.int (0 : Int32)), .unset, .unset] [(.int (0 : Int32))])) st8 ?_
        refine Go.st (T' := T8) (g' := (mkF m 197 #[.val (.long p1), .second, .val (.long p2), .second, .val (.int p3), .val (.int p4), .val (.int p5), .val (.int p6), .val (.int s1), .val (.int k1), .val (.long m2), .second, .val (.int s2), .val (.int k2), .val (.int kd), .val (.ref b1), .val (.ref b3), .val (.ref b7), .val (.int (0 : Int32)), .unset, .unset] [(.int (0 : Int32)), (.int (0 : Int32))])) (fun t_ k_ => XS.iload X8.here hx rfl (hb hby at_195) rfl  k_) ?_
        refine Go.st (T' := T8) (g' := (mkF m 200 #[.val (.long p1), .second, .val (.long p2), .second, .val (.int p3), .val (.int p4), .val (.int p5), .val (.int p6), .val (.int s1), .val (.int k1), .val (.long m2), .second, .val (.int s2), .val (.int k2), .val (.int kd), .val (.ref b1), .val (.ref b3), .val (.ref b7), .val (.int (0 : Int32)), .unset, .unset] [])) (fun t_ k_ => XS.icmpNo X8.here hx rfl (hb hby at_197) rfl (teq (by decide)).2 k_) ?_
        refine Go.st (T' := T8) (g' := (mkF m 201 #[.val (.long p1), .second, .val (.long p2), .second, .val (.int p3), .val (.int p4), .val (.int p5), .val (.int p6), .val (.int s1), .val (.int k1), .val (.long m2), .second, .val (.int s2), .val (.int k2), .val (.int kd), .val (.ref b1), .val (.ref b3), .val (.ref b7), .val (.int (0 : Int32)), .unset, .unset] [(.int (1 : Int32))])) (fun t_ k_ => XS.iconst X8.here hx rfl (hb hby at_200) k_) ?_
        refine Go.st (T' := T8) (g' := (mkF m 205 #[.val (.long p1), .second, .val (.long p2), .second, .val (.int p3), .val (.int p4), .val (.int p5), .val (.int p6), .val (.int s1), .val (.int k1), .val (.long m2), .second, .val (.int s2), .val (.int k2), .val (.int kd), .val (.ref b1), .val (.ref b3), .val (.ref b7), .val (.int (0 : Int32)), .unset, .unset] [(.int (1 : Int32))])) (fun t_ k_ => XS.goto X8.here hx rfl (pc0 := 201) (pc' := 205) rfl (hb hby at_201) (by decide) (by decide) k_) ?_
        refine Go.st (T' := T8) (g' := (mkF m 207 #[.val (.long p1), .second, .val (.long p2), .second, .val (.int p3), .val (.int p4), .val (.int p5), .val (.int p6), .val (.int s1), .val (.int k1), .val (.long m2), .second, .val (.int s2), .val (.int k2), .val (.int kd), .val (.ref b1), .val (.ref b3), .val (.ref b7), .val (.int (0 : Int32)), .val (.int (1 : Int32)), .unset] [])) (fun t_ k_ => XS.istore X8.here hx rfl (hb hby at_205) rfl (l' := #[.val (.long p1), .second, .val (.long p2), .second, .val (.int p3), .val (.int p4), .val (.int p5), .val (.int p6), .val (.int s1), .val (.int k1), .val (.long m2), .second, .val (.int s2), .val (.int k2), .val (.int kd), .val (.ref b1), .val (.ref b3), .val (.ref b7), .val (.int (0 : Int32)), .val (.int (1 : Int32)), .unset]) rfl k_) ?_
        refine Go.st (T' := T8) (g' := (mkF m 209 #[.val (.long p1), .second, .val (.long p2), .second, .val (.int p3), .val (.int p4), .val (.int p5), .val (.int p6), .val (.int s1), .val (.int k1), .val (.long m2), .second, .val (.int s2), .val (.int k2), .val (.int kd), .val (.ref b1), .val (.ref b3), .val (.ref b7), .val (.int (0 : Int32)), .val (.int (1 : Int32)), .unset] [(.int kd)])) (fun t_ k_ => XS.iload X8.here hx rfl (hb hby at_207) rfl  k_) ?_
        refine Go.st (T' := T8) (g' := (mkF m 224 #[.val (.long p1), .second, .val (.long p2), .second, .val (.int p3), .val (.int p4), .val (.int p5), .val (.int p6), .val (.int s1), .val (.int k1), .val (.long m2), .second, .val (.int s2), .val (.int k2), .val (.int kd), .val (.ref b1), .val (.ref b3), .val (.ref b7), .val (.int (0 : Int32)), .val (.int (1 : Int32)), .unset] [])) (fun t_ k_ => XS.ifYes X8.here hx rfl (pc0 := 209) (pc' := 224) rfl (hb hby at_209) rfl ((if0 _ _).trans (feq (by rw [hc140]; decide)).2) (by decide) (by decide) k_) ?_
        refine Go.st (T' := T8) (g' := (mkF m 225 #[.val (.long p1), .second, .val (.long p2), .second, .val (.int p3), .val (.int p4), .val (.int p5), .val (.int p6), .val (.int s1), .val (.int k1), .val (.long m2), .second, .val (.int s2), .val (.int k2), .val (.int kd), .val (.ref b1), .val (.ref b3), .val (.ref b7), .val (.int (0 : Int32)), .val (.int (1 : Int32)), .unset] [(.int (1 : Int32))])) (fun t_ k_ => XS.iconst X8.here hx rfl (hb hby at_224) k_) ?_
        refine Go.st (T' := T8) (g' := (mkF m 229 #[.val (.long p1), .second, .val (.long p2), .second, .val (.int p3), .val (.int p4), .val (.int p5), .val (.int p6), .val (.int s1), .val (.int k1), .val (.long m2), .second, .val (.int s2), .val (.int k2), .val (.int kd), .val (.ref b1), .val (.ref b3), .val (.ref b7), .val (.int (0 : Int32)), .val (.int (1 : Int32)), .unset] [(.int (1 : Int32))])) (fun t_ k_ => XS.goto X8.here hx rfl (pc0 := 225) (pc' := 229) rfl (hb hby at_225) (by decide) (by decide) k_) ?_
        refine Go.st (T' := T8) (g' := (mkF m 231 #[.val (.long p1), .second, .val (.long p2), .second, .val (.int p3), .val (.int p4), .val (.int p5), .val (.int p6), .val (.int s1), .val (.int k1), .val (.long m2), .second, .val (.int s2), .val (.int k2), .val (.int kd), .val (.ref b1), .val (.ref b3), .val (.ref b7), .val (.int (0 : Int32)), .val (.int (1 : Int32)), .val (.int (1 : Int32))] [])) (fun t_ k_ => XS.istore X8.here hx rfl (hb hby at_229) rfl (l' := #[.val (.long p1), .second, .val (.long p2), .second, .val (.int p3), .val (.int p4), .val (.int p5), .val (.int p6), .val (.int s1), .val (.int k1), .val (.long m2), .second, .val (.int s2), .val (.int k2), .val (.int kd), .val (.ref b1), .val (.ref b3), .val (.ref b7), .val (.int (0 : Int32)), .val (.int (1 : Int32)), .val (.int (1 : Int32))]) rfl k_) ?_
        refine Go.st (T' := T8) (g' := (mkF m 233 #[.val (.long p1), .second, .val (.long p2), .second, .val (.int p3), .val (.int p4), .val (.int p5), .val (.int p6), .val (.int s1), .val (.int k1), .val (.long m2), .second, .val (.int s2), .val (.int k2), .val (.int kd), .val (.ref b1), .val (.ref b3), .val (.ref b7), .val (.int (0 : Int32)), .val (.int (1 : Int32)), .val (.int (1 : Int32))] [(.int (1 : Int32))])) (fun t_ k_ => XS.iload X8.here hx rfl (hb hby at_231) rfl  k_) ?_
        refine Go.st (T' := T8) (g' := (mkF m 236 #[.val (.long p1), .second, .val (.long p2), .second, .val (.int p3), .val (.int p4), .val (.int p5), .val (.int p6), .val (.int s1), .val (.int k1), .val (.long m2), .second, .val (.int s2), .val (.int k2), .val (.int kd), .val (.ref b1), .val (.ref b3), .val (.ref b7), .val (.int (0 : Int32)), .val (.int (1 : Int32)), .val (.int (1 : Int32))] [])) (fun t_ k_ => XS.ifNo X8.here hx rfl (hb hby at_233) rfl ((if0 _ _).trans (feq (by decide)).1) k_) ?_
        refine Go.st (T' := T8) (g' := (mkF m 238 #[.val (.long p1), .second, .val (.long p2), .second, .val (.int p3), .val (.int p4), .val (.int p5), .val (.int p6), .val (.int s1), .val (.int k1), .val (.long m2), .second, .val (.int s2), .val (.int k2), .val (.int kd), .val (.ref b1), .val (.ref b3), .val (.ref b7), .val (.int (0 : Int32)), .val (.int (1 : Int32)), .val (.int (1 : Int32))] [(.int (1 : Int32))])) (fun t_ k_ => XS.iload X8.here hx rfl (hb hby at_236) rfl  k_) ?_
        refine Go.st (T' := T8) (g' := (mkF m 241 #[.val (.long p1), .second, .val (.long p2), .second, .val (.int p3), .val (.int p4), .val (.int p5), .val (.int p6), .val (.int s1), .val (.int k1), .val (.long m2), .second, .val (.int s2), .val (.int k2), .val (.int kd), .val (.ref b1), .val (.ref b3), .val (.ref b7), .val (.int (0 : Int32)), .val (.int (1 : Int32)), .val (.int (1 : Int32))] [])) (fun t_ k_ => XS.ifNo X8.here hx rfl (hb hby at_238) rfl ((if0 _ _).trans (feq (by decide)).1) k_) ?_
        refine Go.st (T' := T8) (g' := (mkF m 242 #[.val (.long p1), .second, .val (.long p2), .second, .val (.int p3), .val (.int p4), .val (.int p5), .val (.int p6), .val (.int s1), .val (.int k1), .val (.long m2), .second, .val (.int s2), .val (.int k2), .val (.int kd), .val (.ref b1), .val (.ref b3), .val (.ref b7), .val (.int (0 : Int32)), .val (.int (1 : Int32)), .val (.int (1 : Int32))] [(.int (1 : Int32))])) (fun t_ k_ => XS.iconst X8.here hx rfl (hb hby at_241) k_) ?_
        refine Go.st (T' := T8) (g' := (mkF m 246 #[.val (.long p1), .second, .val (.long p2), .second, .val (.int p3), .val (.int p4), .val (.int p5), .val (.int p6), .val (.int s1), .val (.int k1), .val (.long m2), .second, .val (.int s2), .val (.int k2), .val (.int kd), .val (.ref b1), .val (.ref b3), .val (.ref b7), .val (.int (0 : Int32)), .val (.int (1 : Int32)), .val (.int (1 : Int32))] [(.int (1 : Int32))])) (fun t_ k_ => XS.goto X8.here hx rfl (pc0 := 242) (pc' := 246) rfl (hb hby at_242) (by decide) (by decide) k_) ?_
        refine Go.retB X8 hx Bd.returns hlk (t := .boolean) (by simp) (hb hby at_246) (by decide) (by decide) ?_
        rw [e8]
        exact ⟨rfl, N8⟩
      · refine Go.st (T' := T4) (g' := (mkF m 156 #[.val (.long p1), .second, .val (.long p2), .second, .val (.int p3), .val (.int p4), .val (.int p5), .val (.int p6), .val (.int s1), .val (.int k1), .val (.long m2), .second, .val (.int s2), .val (.int k2), .val (.int kd), .val (.ref b1), .val (.ref b3), .unset, .unset, .unset, .unset] [])) (fun t_ k_ => XS.icmpYes X4.here hx rfl (pc0 := 140) (pc' := 156) rfl (hb hby at_140) rfl (feq hc140).2 (by decide) (by decide) k_) ?_
        refine Go.st (T' := T4) (g' := (mkF m 158 #[.val (.long p1), .second, .val (.long p2), .second, .val (.int p3), .val (.int p4), .val (.int p5), .val (.int p6), .val (.int s1), .val (.int k1), .val (.long m2), .second, .val (.int s2), .val (.int k2), .val (.int kd), .val (.ref b1), .val (.ref b3), .unset, .unset, .unset, .unset] [(.ref b3)])) (fun t_ k_ => XS.aload X4.here hx rfl (hb hby at_156) rfl rfl k_) ?_
        refine Go.st (T' := T4) (g' := (mkF m 160 #[.val (.long p1), .second, .val (.long p2), .second, .val (.int p3), .val (.int p4), .val (.int p5), .val (.int p6), .val (.int s1), .val (.int k1), .val (.long m2), .second, .val (.int s2), .val (.int k2), .val (.int kd), .val (.ref b1), .val (.ref b3), .val (.ref b3), .unset, .unset, .unset] [])) (fun t_ k_ => XS.astore X4.here hx rfl (hb hby at_158) rfl rfl (l' := #[.val (.long p1), .second, .val (.long p2), .second, .val (.int p3), .val (.int p4), .val (.int p5), .val (.int p6), .val (.int s1), .val (.int k1), .val (.long m2), .second, .val (.int s2), .val (.int k2), .val (.int kd), .val (.ref b1), .val (.ref b3), .val (.ref b3), .unset, .unset, .unset]) rfl k_) ?_
        refine Go.st (T' := T4) (g' := (mkF m 161 #[.val (.long p1), .second, .val (.long p2), .second, .val (.int p3), .val (.int p4), .val (.int p5), .val (.int p6), .val (.int s1), .val (.int k1), .val (.long m2), .second, .val (.int s2), .val (.int k2), .val (.int kd), .val (.ref b1), .val (.ref b3), .val (.ref b3), .unset, .unset, .unset] [(.long p1)])) (fun t_ k_ => XS.lloadN X4.here hx rfl (hb hby at_160) rfl  k_) ?_
        refine Go.st (T' := T4) (g' := (mkF m 163 #[.val (.long p1), .second, .val (.long p2), .second, .val (.int p3), .val (.int p4), .val (.int p5), .val (.int p6), .val (.int s1), .val (.int k1), .val (.long m2), .second, .val (.int s2), .val (.int k2), .val (.int kd), .val (.ref b1), .val (.ref b3), .val (.ref b3), .unset, .unset, .unset] [(.long m2), (.long p1)])) (fun t_ k_ => XS.lload X4.here hx rfl (hb hby at_161) rfl  k_) ?_
        refine Go.st (T' := T4) (g' := (mkF m 164 #[.val (.long p1), .second, .val (.long p2), .second, .val (.int p3), .val (.int p4), .val (.int p5), .val (.int p6), .val (.int s1), .val (.int k1), .val (.long m2), .second, .val (.int s2), .val (.int k2), .val (.int kd), .val (.ref b1), .val (.ref b3), .val (.ref b3), .unset, .unset, .unset] [(.int (lcmpW p1 m2))])) (fun t_ k_ => XS.lcmp X4.here hx rfl (hb hby at_163) rfl k_) ?_
        by_cases hc164 : p1 = m2
        · refine Go.st (T' := T4) (g' := (mkF m 167 #[.val (.long p1), .second, .val (.long p2), .second, .val (.int p3), .val (.int p4), .val (.int p5), .val (.int p6), .val (.int s1), .val (.int k1), .val (.long m2), .second, .val (.int s2), .val (.int k2), .val (.int kd), .val (.ref b1), .val (.ref b3), .val (.ref b3), .unset, .unset, .unset] [])) (fun t_ k_ => XS.ifNo X4.here hx rfl (hb hby at_164) rfl ((if0 _ _).trans (teq (lcw_eq hc164)).2) k_) ?_
          refine Go.st (T' := T4) (g' := (mkF m 169 #[.val (.long p1), .second, .val (.long p2), .second, .val (.int p3), .val (.int p4), .val (.int p5), .val (.int p6), .val (.int s1), .val (.int k1), .val (.long m2), .second, .val (.int s2), .val (.int k2), .val (.int kd), .val (.ref b1), .val (.ref b3), .val (.ref b3), .unset, .unset, .unset] [(.int s1)])) (fun t_ k_ => XS.iload X4.here hx rfl (hb hby at_167) rfl  k_) ?_
          refine Go.st (T' := T4) (g' := (mkF m 171 #[.val (.long p1), .second, .val (.long p2), .second, .val (.int p3), .val (.int p4), .val (.int p5), .val (.int p6), .val (.int s1), .val (.int k1), .val (.long m2), .second, .val (.int s2), .val (.int k2), .val (.int kd), .val (.ref b1), .val (.ref b3), .val (.ref b3), .unset, .unset, .unset] [(.int s2), (.int s1)])) (fun t_ k_ => XS.iload X4.here hx rfl (hb hby at_169) rfl  k_) ?_
          by_cases hc171 : s1 = s2
          · refine Go.st (T' := T4) (g' := (mkF m 174 #[.val (.long p1), .second, .val (.long p2), .second, .val (.int p3), .val (.int p4), .val (.int p5), .val (.int p6), .val (.int s1), .val (.int k1), .val (.long m2), .second, .val (.int s2), .val (.int k2), .val (.int kd), .val (.ref b1), .val (.ref b3), .val (.ref b3), .unset, .unset, .unset] [])) (fun t_ k_ => XS.icmpNo X4.here hx rfl (hb hby at_171) rfl (teq hc171).2 k_) ?_
            refine Go.st (T' := T4) (g' := (mkF m 176 #[.val (.long p1), .second, .val (.long p2), .second, .val (.int p3), .val (.int p4), .val (.int p5), .val (.int p6), .val (.int s1), .val (.int k1), .val (.long m2), .second, .val (.int s2), .val (.int k2), .val (.int kd), .val (.ref b1), .val (.ref b3), .val (.ref b3), .unset, .unset, .unset] [(.int k1)])) (fun t_ k_ => XS.iload X4.here hx rfl (hb hby at_174) rfl  k_) ?_
            refine Go.st (T' := T4) (g' := (mkF m 178 #[.val (.long p1), .second, .val (.long p2), .second, .val (.int p3), .val (.int p4), .val (.int p5), .val (.int p6), .val (.int s1), .val (.int k1), .val (.long m2), .second, .val (.int s2), .val (.int k2), .val (.int kd), .val (.ref b1), .val (.ref b3), .val (.ref b3), .unset, .unset, .unset] [(.int k2), (.int k1)])) (fun t_ k_ => XS.iload X4.here hx rfl (hb hby at_176) rfl  k_) ?_
            by_cases hc178 : k1 = k2
            · refine Go.st (T' := T4) (g' := (mkF m 181 #[.val (.long p1), .second, .val (.long p2), .second, .val (.int p3), .val (.int p4), .val (.int p5), .val (.int p6), .val (.int s1), .val (.int k1), .val (.long m2), .second, .val (.int s2), .val (.int k2), .val (.int kd), .val (.ref b1), .val (.ref b3), .val (.ref b3), .unset, .unset, .unset] [])) (fun t_ k_ => XS.icmpNo X4.here hx rfl (hb hby at_178) rfl (teq hc178).2 k_) ?_
              refine Go.st (T' := T4) (g' := (mkF m 182 #[.val (.long p1), .second, .val (.long p2), .second, .val (.int p3), .val (.int p4), .val (.int p5), .val (.int p6), .val (.int s1), .val (.int k1), .val (.long m2), .second, .val (.int s2), .val (.int k2), .val (.int kd), .val (.ref b1), .val (.ref b3), .val (.ref b3), .unset, .unset, .unset] [(.int (1 : Int32))])) (fun t_ k_ => XS.iconst X4.here hx rfl (hb hby at_181) k_) ?_
              refine Go.st (T' := T4) (g' := (mkF m 186 #[.val (.long p1), .second, .val (.long p2), .second, .val (.int p3), .val (.int p4), .val (.int p5), .val (.int p6), .val (.int s1), .val (.int k1), .val (.long m2), .second, .val (.int s2), .val (.int k2), .val (.int kd), .val (.ref b1), .val (.ref b3), .val (.ref b3), .unset, .unset, .unset] [(.int (1 : Int32))])) (fun t_ k_ => XS.goto X4.here hx rfl (pc0 := 182) (pc' := 186) rfl (hb hby at_182) (by decide) (by decide) k_) ?_
              refine Go.st (T' := T4) (g' := (mkF m 188 #[.val (.long p1), .second, .val (.long p2), .second, .val (.int p3), .val (.int p4), .val (.int p5), .val (.int p6), .val (.int s1), .val (.int k1), .val (.long m2), .second, .val (.int s2), .val (.int k2), .val (.int kd), .val (.ref b1), .val (.ref b3), .val (.ref b3), .val (.int (1 : Int32)), .unset, .unset] [])) (fun t_ k_ => XS.istore X4.here hx rfl (hb hby at_186) rfl (l' := #[.val (.long p1), .second, .val (.long p2), .second, .val (.int p3), .val (.int p4), .val (.int p5), .val (.int p6), .val (.int s1), .val (.int k1), .val (.long m2), .second, .val (.int s2), .val (.int k2), .val (.int kd), .val (.ref b1), .val (.ref b3), .val (.ref b3), .val (.int (1 : Int32)), .unset, .unset]) rfl k_) ?_
              refine Go.st (T' := T4) (g' := (mkF m 190 #[.val (.long p1), .second, .val (.long p2), .second, .val (.int p3), .val (.int p4), .val (.int p5), .val (.int p6), .val (.int s1), .val (.int k1), .val (.long m2), .second, .val (.int s2), .val (.int k2), .val (.int kd), .val (.ref b1), .val (.ref b3), .val (.ref b3), .val (.int (1 : Int32)), .unset, .unset] [(.ref b1)])) (fun t_ k_ => XS.aload X4.here hx rfl (hb hby at_188) rfl rfl k_) ?_
              refine Go.st (T' := T4) (g' := (mkF m 192 #[.val (.long p1), .second, .val (.long p2), .second, .val (.int p3), .val (.int p4), .val (.int p5), .val (.int p6), .val (.int s1), .val (.int k1), .val (.long m2), .second, .val (.int s2), .val (.int k2), .val (.int kd), .val (.ref b1), .val (.ref b3), .val (.ref b3), .val (.int (1 : Int32)), .unset, .unset] [(.ref b3), (.ref b1)])) (fun t_ k_ => XS.aload X4.here hx rfl (hb hby at_190) rfl rfl k_) ?_
              obtain ⟨cq9, kq9, q9a, q9b, q9c⟩ := isOf hZ rfl ((Exa.ext E3 Eq2).keep Kq4)
              obtain ⟨_, _, ⟨T9, L9, k9, n9⟩, -, X9, ⟨Lc9, hQ9, l9, y9, z9⟩, st9⟩ := X4.virtualBack hx (y := (⟨"com/example/chronoid/chronoid/id/UniqueKey", "equals", "(Ljava/lang/Object;)Z"⟩ : MethodName)) (z := (⟨"com/example/chronoid/chronoid/id/UniqueKey", "equals", "(Ljava/lang/Object;)Z"⟩ : MethodName)) hown (mvT hZ (hw _ (List.mem_of_getElem? (i := 17) rfl))) (mvT hZ (hw _ (List.mem_of_getElem? (i := 18) rfl))) (notFace_of_selects (args := #[]) (mvT hZ (hw _ (List.mem_of_getElem? (i := 20) rfl)))) (mvT hZ (hw _ (List.mem_of_getElem? (i := 20) rfl))) (mvT hZ (hw _ (List.mem_of_getElem? (i := 19) rfl))) (by decide) (backOf (W := 0) (rm3 l Z a0 hw [] b1 b3 p1 s1 k1 m2 s2 k2 (1 : Int32) T4.heap n0 (Nat.le_trans (Nat.le_trans (Nat.le_trans (Nat.le_trans Z0 E1.1) Kq2.1) E3.1) Kq4.1) Eq4 ((Fld.ext E3 F0q2).keep Kq4 (ninS (Nat.ne_of_lt (Nat.lt_of_lt_of_le Eq2.lt (Nat.le_of_eq q3.symm))) nin0)) ((Fld.ext E3 F1q2).keep Kq4 (ninS (Nat.ne_of_lt (Nat.lt_of_lt_of_le Eq2.lt (Nat.le_of_eq q3.symm))) nin0)) ((Fld.ext E3 F2q2).keep Kq4 (ninS (Nat.ne_of_lt (Nat.lt_of_lt_of_le Eq2.lt (Nat.le_of_eq q3.symm))) nin0)) F0q4 F1q4 F2q4 ((if_pos ⟨hc164, hc171, hc178⟩).symm)) hZ (hw _ (List.mem_of_getElem? (i := 21) rfl)) (hw _ (List.mem_of_getElem? (i := 4) rfl)) (by decide) (by decide)) q9a q9c (g := (mkF m 192 #[.val (.long p1), .second, .val (.long p2), .second, .val (.int p3), .val (.int p4), .val (.int p5), .val (.int p6), .val (.int s1), .val (.int k1), .val (.long m2), .second, .val (.int s2), .val (.int k2), .val (.int kd), .val (.ref b1), .val (.ref b3), .val (.ref b3), .val (.int (1 : Int32)), .unset, .unset] [(.ref b3), (.ref b1)])) rfl (by rw [hml]; rfl) (Steps.refl _) (argsL := [(.ref b3)]) (rest := []) (lenOf pd_3 rfl) rfl (by show 2 * 0 + _ ≤ _; exact Nat.le_of_eq rfl) (hb hby at_192) (fun _ _ => ⟨rfl, rfl, (by decide : 2 + 0 ≤ _), (by decide : 6 + 0 ≤ _)⟩)
              dsimp only [Pt.U, Pt.locs, Pt.cells, Pt.slots] at X9 l9 y9 z9 st9 hQ9
              subst l9 y9 z9
              obtain ⟨rfl, Nq9, e9⟩ := hQ9
              have N9 := Fr.app N4 Nq9
              refine Go.ts (T' := T9) (g' := (mkF m 195 #[.val (.long p1), .second, .val (.long p2), .second, .val (.int p3), .val (.int p4), .val (.int p5), .val (.int p6), .val (.int s1), .val (.int k1), .val (.long m2), .second, .val (.int s2), .val (.int k2), .val (.int kd), .val (.ref b1), .val (.ref b3), .val (.ref b3), .val (.int (1 : Int32)), .unset, .unset] [(.int (1 : Int32))])) st9 ?_
              refine Go.st (T' := T9) (g' := (mkF m 197 #[.val (.long p1), .second, .val (.long p2), .second, .val (.int p3), .val (.int p4), .val (.int p5), .val (.int p6), .val (.int s1), .val (.int k1), .val (.long m2), .second, .val (.int s2), .val (.int k2), .val (.int kd), .val (.ref b1), .val (.ref b3), .val (.ref b3), .val (.int (1 : Int32)), .unset, .unset] [(.int (1 : Int32)), (.int (1 : Int32))])) (fun t_ k_ => XS.iload X9.here hx rfl (hb hby at_195) rfl  k_) ?_
              refine Go.st (T' := T9) (g' := (mkF m 200 #[.val (.long p1), .second, .val (.long p2), .second, .val (.int p3), .val (.int p4), .val (.int p5), .val (.int p6), .val (.int s1), .val (.int k1), .val (.long m2), .second, .val (.int s2), .val (.int k2), .val (.int kd), .val (.ref b1), .val (.ref b3), .val (.ref b3), .val (.int (1 : Int32)), .unset, .unset] [])) (fun t_ k_ => XS.icmpNo X9.here hx rfl (hb hby at_197) rfl (teq (by decide)).2 k_) ?_
              refine Go.st (T' := T9) (g' := (mkF m 201 #[.val (.long p1), .second, .val (.long p2), .second, .val (.int p3), .val (.int p4), .val (.int p5), .val (.int p6), .val (.int s1), .val (.int k1), .val (.long m2), .second, .val (.int s2), .val (.int k2), .val (.int kd), .val (.ref b1), .val (.ref b3), .val (.ref b3), .val (.int (1 : Int32)), .unset, .unset] [(.int (1 : Int32))])) (fun t_ k_ => XS.iconst X9.here hx rfl (hb hby at_200) k_) ?_
              refine Go.st (T' := T9) (g' := (mkF m 205 #[.val (.long p1), .second, .val (.long p2), .second, .val (.int p3), .val (.int p4), .val (.int p5), .val (.int p6), .val (.int s1), .val (.int k1), .val (.long m2), .second, .val (.int s2), .val (.int k2), .val (.int kd), .val (.ref b1), .val (.ref b3), .val (.ref b3), .val (.int (1 : Int32)), .unset, .unset] [(.int (1 : Int32))])) (fun t_ k_ => XS.goto X9.here hx rfl (pc0 := 201) (pc' := 205) rfl (hb hby at_201) (by decide) (by decide) k_) ?_
              refine Go.st (T' := T9) (g' := (mkF m 207 #[.val (.long p1), .second, .val (.long p2), .second, .val (.int p3), .val (.int p4), .val (.int p5), .val (.int p6), .val (.int s1), .val (.int k1), .val (.long m2), .second, .val (.int s2), .val (.int k2), .val (.int kd), .val (.ref b1), .val (.ref b3), .val (.ref b3), .val (.int (1 : Int32)), .val (.int (1 : Int32)), .unset] [])) (fun t_ k_ => XS.istore X9.here hx rfl (hb hby at_205) rfl (l' := #[.val (.long p1), .second, .val (.long p2), .second, .val (.int p3), .val (.int p4), .val (.int p5), .val (.int p6), .val (.int s1), .val (.int k1), .val (.long m2), .second, .val (.int s2), .val (.int k2), .val (.int kd), .val (.ref b1), .val (.ref b3), .val (.ref b3), .val (.int (1 : Int32)), .val (.int (1 : Int32)), .unset]) rfl k_) ?_
              refine Go.st (T' := T9) (g' := (mkF m 209 #[.val (.long p1), .second, .val (.long p2), .second, .val (.int p3), .val (.int p4), .val (.int p5), .val (.int p6), .val (.int s1), .val (.int k1), .val (.long m2), .second, .val (.int s2), .val (.int k2), .val (.int kd), .val (.ref b1), .val (.ref b3), .val (.ref b3), .val (.int (1 : Int32)), .val (.int (1 : Int32)), .unset] [(.int kd)])) (fun t_ k_ => XS.iload X9.here hx rfl (hb hby at_207) rfl  k_) ?_
              by_cases hc209 : kd = (0 : Int32)
              · refine Go.st (T' := T9) (g' := (mkF m 212 #[.val (.long p1), .second, .val (.long p2), .second, .val (.int p3), .val (.int p4), .val (.int p5), .val (.int p6), .val (.int s1), .val (.int k1), .val (.long m2), .second, .val (.int s2), .val (.int k2), .val (.int kd), .val (.ref b1), .val (.ref b3), .val (.ref b3), .val (.int (1 : Int32)), .val (.int (1 : Int32)), .unset] [])) (fun t_ k_ => XS.ifNo X9.here hx rfl (hb hby at_209) rfl ((if0 _ _).trans (teq hc209).2) k_) ?_
                refine Go.st (T' := T9) (g' := (mkF m 214 #[.val (.long p1), .second, .val (.long p2), .second, .val (.int p3), .val (.int p4), .val (.int p5), .val (.int p6), .val (.int s1), .val (.int k1), .val (.long m2), .second, .val (.int s2), .val (.int k2), .val (.int kd), .val (.ref b1), .val (.ref b3), .val (.ref b3), .val (.int (1 : Int32)), .val (.int (1 : Int32)), .unset] [(.ref b3)])) (fun t_ k_ => XS.aload X9.here hx rfl (hb hby at_212) rfl rfl k_) ?_
                refine Go.st (T' := T9) (g' := (mkF m 216 #[.val (.long p1), .second, .val (.long p2), .second, .val (.int p3), .val (.int p4), .val (.int p5), .val (.int p6), .val (.int s1), .val (.int k1), .val (.long m2), .second, .val (.int s2), .val (.int k2), .val (.int kd), .val (.ref b1), .val (.ref b3), .val (.ref b3), .val (.int (1 : Int32)), .val (.int (1 : Int32)), .unset] [(.ref b1), (.ref b3)])) (fun t_ k_ => XS.aload X9.here hx rfl (hb hby at_214) rfl rfl k_) ?_
                obtain ⟨cq10, kq10, q10a, q10b, q10c⟩ := isOf hZ e9 Eq4
                obtain ⟨_, _, ⟨T10, L10, k10, n10⟩, -, X10, ⟨Lc10, hQ10, l10, y10, z10⟩, st10⟩ := X9.virtualBack hx (y := (⟨"com/example/chronoid/chronoid/id/UniqueKey", "equals", "(Ljava/lang/Object;)Z"⟩ : MethodName)) (z := (⟨"com/example/chronoid/chronoid/id/UniqueKey", "equals", "(Ljava/lang/Object;)Z"⟩ : MethodName)) hown (mvT hZ (hw _ (List.mem_of_getElem? (i := 17) rfl))) (mvT hZ (hw _ (List.mem_of_getElem? (i := 18) rfl))) (notFace_of_selects (args := #[]) (mvT hZ (hw _ (List.mem_of_getElem? (i := 20) rfl)))) (mvT hZ (hw _ (List.mem_of_getElem? (i := 20) rfl))) (mvT hZ (hw _ (List.mem_of_getElem? (i := 19) rfl))) (by decide) (backOf (W := 0) (rm3 l Z a0 hw [] b3 b1 m2 s2 k2 p1 s1 k1 (1 : Int32) T4.heap n0 (Nat.le_trans (Nat.le_trans (Nat.le_trans (Nat.le_trans Z0 E1.1) Kq2.1) E3.1) Kq4.1) ((Exa.ext E3 Eq2).keep Kq4) F0q4 F1q4 F2q4 ((Fld.ext E3 F0q2).keep Kq4 (ninS (Nat.ne_of_lt (Nat.lt_of_lt_of_le Eq2.lt (Nat.le_of_eq q3.symm))) nin0)) ((Fld.ext E3 F1q2).keep Kq4 (ninS (Nat.ne_of_lt (Nat.lt_of_lt_of_le Eq2.lt (Nat.le_of_eq q3.symm))) nin0)) ((Fld.ext E3 F2q2).keep Kq4 (ninS (Nat.ne_of_lt (Nat.lt_of_lt_of_le Eq2.lt (Nat.le_of_eq q3.symm))) nin0)) ((if_pos ⟨hc164.symm, hc171.symm, hc178.symm⟩).symm)) hZ (hw _ (List.mem_of_getElem? (i := 21) rfl)) (hw _ (List.mem_of_getElem? (i := 4) rfl)) (by decide) (by decide)) q10a q10c (g := (mkF m 216 #[.val (.long p1), .second, .val (.long p2), .second, .val (.int p3), .val (.int p4), .val (.int p5), .val (.int p6), .val (.int s1), .val (.int k1), .val (.long m2), .second, .val (.int s2), .val (.int k2), .val (.int kd), .val (.ref b1), .val (.ref b3), .val (.ref b3), .val (.int (1 : Int32)), .val (.int (1 : Int32)), .unset] [(.ref b1), (.ref b3)])) rfl (by rw [hml]; rfl) (Steps.refl _) (argsL := [(.ref b1)]) (rest := []) (lenOf pd_3 rfl) rfl (by show 2 * 0 + _ ≤ _; exact Nat.le_of_eq rfl) (hb hby at_216) (fun _ _ => ⟨rfl, e9, (by decide : 2 + 0 ≤ _), (by decide : 6 + 0 ≤ _)⟩)
                dsimp only [Pt.U, Pt.locs, Pt.cells, Pt.slots] at X10 l10 y10 z10 st10 hQ10
                subst l10 y10 z10
                obtain ⟨rfl, Nq10, e10⟩ := hQ10
                have N10 := Fr.app N9 Nq10
                refine Go.ts (T' := T10) (g' := (mkF m 219 #[.val (.long p1), .second, .val (.long p2), .second, .val (.int p3), .val (.int p4), .val (.int p5), .val (.int p6), .val (.int s1), .val (.int k1), .val (.long m2), .second, .val (.int s2), .val (.int k2), .val (.int kd), .val (.ref b1), .val (.ref b3), .val (.ref b3), .val (.int (1 : Int32)), .val (.int (1 : Int32)), .unset] [(.int (1 : Int32))])) st10 ?_
                refine Go.st (T' := T10) (g' := (mkF m 221 #[.val (.long p1), .second, .val (.long p2), .second, .val (.int p3), .val (.int p4), .val (.int p5), .val (.int p6), .val (.int s1), .val (.int k1), .val (.long m2), .second, .val (.int s2), .val (.int k2), .val (.int kd), .val (.ref b1), .val (.ref b3), .val (.ref b3), .val (.int (1 : Int32)), .val (.int (1 : Int32)), .unset] [(.int (1 : Int32)), (.int (1 : Int32))])) (fun t_ k_ => XS.iload X10.here hx rfl (hb hby at_219) rfl  k_) ?_
                refine Go.st (T' := T10) (g' := (mkF m 224 #[.val (.long p1), .second, .val (.long p2), .second, .val (.int p3), .val (.int p4), .val (.int p5), .val (.int p6), .val (.int s1), .val (.int k1), .val (.long m2), .second, .val (.int s2), .val (.int k2), .val (.int kd), .val (.ref b1), .val (.ref b3), .val (.ref b3), .val (.int (1 : Int32)), .val (.int (1 : Int32)), .unset] [])) (fun t_ k_ => XS.icmpNo X10.here hx rfl (hb hby at_221) rfl (teq (by decide)).2 k_) ?_
                refine Go.st (T' := T10) (g' := (mkF m 225 #[.val (.long p1), .second, .val (.long p2), .second, .val (.int p3), .val (.int p4), .val (.int p5), .val (.int p6), .val (.int s1), .val (.int k1), .val (.long m2), .second, .val (.int s2), .val (.int k2), .val (.int kd), .val (.ref b1), .val (.ref b3), .val (.ref b3), .val (.int (1 : Int32)), .val (.int (1 : Int32)), .unset] [(.int (1 : Int32))])) (fun t_ k_ => XS.iconst X10.here hx rfl (hb hby at_224) k_) ?_
                refine Go.st (T' := T10) (g' := (mkF m 229 #[.val (.long p1), .second, .val (.long p2), .second, .val (.int p3), .val (.int p4), .val (.int p5), .val (.int p6), .val (.int s1), .val (.int k1), .val (.long m2), .second, .val (.int s2), .val (.int k2), .val (.int kd), .val (.ref b1), .val (.ref b3), .val (.ref b3), .val (.int (1 : Int32)), .val (.int (1 : Int32)), .unset] [(.int (1 : Int32))])) (fun t_ k_ => XS.goto X10.here hx rfl (pc0 := 225) (pc' := 229) rfl (hb hby at_225) (by decide) (by decide) k_) ?_
                refine Go.st (T' := T10) (g' := (mkF m 231 #[.val (.long p1), .second, .val (.long p2), .second, .val (.int p3), .val (.int p4), .val (.int p5), .val (.int p6), .val (.int s1), .val (.int k1), .val (.long m2), .second, .val (.int s2), .val (.int k2), .val (.int kd), .val (.ref b1), .val (.ref b3), .val (.ref b3), .val (.int (1 : Int32)), .val (.int (1 : Int32)), .val (.int (1 : Int32))] [])) (fun t_ k_ => XS.istore X10.here hx rfl (hb hby at_229) rfl (l' := #[.val (.long p1), .second, .val (.long p2), .second, .val (.int p3), .val (.int p4), .val (.int p5), .val (.int p6), .val (.int s1), .val (.int k1), .val (.long m2), .second, .val (.int s2), .val (.int k2), .val (.int kd), .val (.ref b1), .val (.ref b3), .val (.ref b3), .val (.int (1 : Int32)), .val (.int (1 : Int32)), .val (.int (1 : Int32))]) rfl k_) ?_
                refine Go.st (T' := T10) (g' := (mkF m 233 #[.val (.long p1), .second, .val (.long p2), .second, .val (.int p3), .val (.int p4), .val (.int p5), .val (.int p6), .val (.int s1), .val (.int k1), .val (.long m2), .second, .val (.int s2), .val (.int k2), .val (.int kd), .val (.ref b1), .val (.ref b3), .val (.ref b3), .val (.int (1 : Int32)), .val (.int (1 : Int32)), .val (.int (1 : Int32))] [(.int (1 : Int32))])) (fun t_ k_ => XS.iload X10.here hx rfl (hb hby at_231) rfl  k_) ?_
                refine Go.st (T' := T10) (g' := (mkF m 236 #[.val (.long p1), .second, .val (.long p2), .second, .val (.int p3), .val (.int p4), .val (.int p5), .val (.int p6), .val (.int s1), .val (.int k1), .val (.long m2), .second, .val (.int s2), .val (.int k2), .val (.int kd), .val (.ref b1), .val (.ref b3), .val (.ref b3), .val (.int (1 : Int32)), .val (.int (1 : Int32)), .val (.int (1 : Int32))] [])) (fun t_ k_ => XS.ifNo X10.here hx rfl (hb hby at_233) rfl ((if0 _ _).trans (feq (by decide)).1) k_) ?_
                refine Go.st (T' := T10) (g' := (mkF m 238 #[.val (.long p1), .second, .val (.long p2), .second, .val (.int p3), .val (.int p4), .val (.int p5), .val (.int p6), .val (.int s1), .val (.int k1), .val (.long m2), .second, .val (.int s2), .val (.int k2), .val (.int kd), .val (.ref b1), .val (.ref b3), .val (.ref b3), .val (.int (1 : Int32)), .val (.int (1 : Int32)), .val (.int (1 : Int32))] [(.int (1 : Int32))])) (fun t_ k_ => XS.iload X10.here hx rfl (hb hby at_236) rfl  k_) ?_
                refine Go.st (T' := T10) (g' := (mkF m 241 #[.val (.long p1), .second, .val (.long p2), .second, .val (.int p3), .val (.int p4), .val (.int p5), .val (.int p6), .val (.int s1), .val (.int k1), .val (.long m2), .second, .val (.int s2), .val (.int k2), .val (.int kd), .val (.ref b1), .val (.ref b3), .val (.ref b3), .val (.int (1 : Int32)), .val (.int (1 : Int32)), .val (.int (1 : Int32))] [])) (fun t_ k_ => XS.ifNo X10.here hx rfl (hb hby at_238) rfl ((if0 _ _).trans (feq (by decide)).1) k_) ?_
                refine Go.st (T' := T10) (g' := (mkF m 242 #[.val (.long p1), .second, .val (.long p2), .second, .val (.int p3), .val (.int p4), .val (.int p5), .val (.int p6), .val (.int s1), .val (.int k1), .val (.long m2), .second, .val (.int s2), .val (.int k2), .val (.int kd), .val (.ref b1), .val (.ref b3), .val (.ref b3), .val (.int (1 : Int32)), .val (.int (1 : Int32)), .val (.int (1 : Int32))] [(.int (1 : Int32))])) (fun t_ k_ => XS.iconst X10.here hx rfl (hb hby at_241) k_) ?_
                refine Go.st (T' := T10) (g' := (mkF m 246 #[.val (.long p1), .second, .val (.long p2), .second, .val (.int p3), .val (.int p4), .val (.int p5), .val (.int p6), .val (.int s1), .val (.int k1), .val (.long m2), .second, .val (.int s2), .val (.int k2), .val (.int kd), .val (.ref b1), .val (.ref b3), .val (.ref b3), .val (.int (1 : Int32)), .val (.int (1 : Int32)), .val (.int (1 : Int32))] [(.int (1 : Int32))])) (fun t_ k_ => XS.goto X10.here hx rfl (pc0 := 242) (pc' := 246) rfl (hb hby at_242) (by decide) (by decide) k_) ?_
                refine Go.retB X10 hx Bd.returns hlk (t := .boolean) (by simp) (hb hby at_246) (by decide) (by decide) ?_
                rw [e10]
                exact ⟨rfl, N10⟩
              · refine Go.st (T' := T9) (g' := (mkF m 224 #[.val (.long p1), .second, .val (.long p2), .second, .val (.int p3), .val (.int p4), .val (.int p5), .val (.int p6), .val (.int s1), .val (.int k1), .val (.long m2), .second, .val (.int s2), .val (.int k2), .val (.int kd), .val (.ref b1), .val (.ref b3), .val (.ref b3), .val (.int (1 : Int32)), .val (.int (1 : Int32)), .unset] [])) (fun t_ k_ => XS.ifYes X9.here hx rfl (pc0 := 209) (pc' := 224) rfl (hb hby at_209) rfl ((if0 _ _).trans (feq hc209).2) (by decide) (by decide) k_) ?_
                refine Go.st (T' := T9) (g' := (mkF m 225 #[.val (.long p1), .second, .val (.long p2), .second, .val (.int p3), .val (.int p4), .val (.int p5), .val (.int p6), .val (.int s1), .val (.int k1), .val (.long m2), .second, .val (.int s2), .val (.int k2), .val (.int kd), .val (.ref b1), .val (.ref b3), .val (.ref b3), .val (.int (1 : Int32)), .val (.int (1 : Int32)), .unset] [(.int (1 : Int32))])) (fun t_ k_ => XS.iconst X9.here hx rfl (hb hby at_224) k_) ?_
                refine Go.st (T' := T9) (g' := (mkF m 229 #[.val (.long p1), .second, .val (.long p2), .second, .val (.int p3), .val (.int p4), .val (.int p5), .val (.int p6), .val (.int s1), .val (.int k1), .val (.long m2), .second, .val (.int s2), .val (.int k2), .val (.int kd), .val (.ref b1), .val (.ref b3), .val (.ref b3), .val (.int (1 : Int32)), .val (.int (1 : Int32)), .unset] [(.int (1 : Int32))])) (fun t_ k_ => XS.goto X9.here hx rfl (pc0 := 225) (pc' := 229) rfl (hb hby at_225) (by decide) (by decide) k_) ?_
                refine Go.st (T' := T9) (g' := (mkF m 231 #[.val (.long p1), .second, .val (.long p2), .second, .val (.int p3), .val (.int p4), .val (.int p5), .val (.int p6), .val (.int s1), .val (.int k1), .val (.long m2), .second, .val (.int s2), .val (.int k2), .val (.int kd), .val (.ref b1), .val (.ref b3), .val (.ref b3), .val (.int (1 : Int32)), .val (.int (1 : Int32)), .val (.int (1 : Int32))] [])) (fun t_ k_ => XS.istore X9.here hx rfl (hb hby at_229) rfl (l' := #[.val (.long p1), .second, .val (.long p2), .second, .val (.int p3), .val (.int p4), .val (.int p5), .val (.int p6), .val (.int s1), .val (.int k1), .val (.long m2), .second, .val (.int s2), .val (.int k2), .val (.int kd), .val (.ref b1), .val (.ref b3), .val (.ref b3), .val (.int (1 : Int32)), .val (.int (1 : Int32)), .val (.int (1 : Int32))]) rfl k_) ?_
                refine Go.st (T' := T9) (g' := (mkF m 233 #[.val (.long p1), .second, .val (.long p2), .second, .val (.int p3), .val (.int p4), .val (.int p5), .val (.int p6), .val (.int s1), .val (.int k1), .val (.long m2), .second, .val (.int s2), .val (.int k2), .val (.int kd), .val (.ref b1), .val (.ref b3), .val (.ref b3), .val (.int (1 : Int32)), .val (.int (1 : Int32)), .val (.int (1 : Int32))] [(.int (1 : Int32))])) (fun t_ k_ => XS.iload X9.here hx rfl (hb hby at_231) rfl  k_) ?_
                refine Go.st (T' := T9) (g' := (mkF m 236 #[.val (.long p1), .second, .val (.long p2), .second, .val (.int p3), .val (.int p4), .val (.int p5), .val (.int p6), .val (.int s1), .val (.int k1), .val (.long m2), .second, .val (.int s2), .val (.int k2), .val (.int kd), .val (.ref b1), .val (.ref b3), .val (.ref b3), .val (.int (1 : Int32)), .val (.int (1 : Int32)), .val (.int (1 : Int32))] [])) (fun t_ k_ => XS.ifNo X9.here hx rfl (hb hby at_233) rfl ((if0 _ _).trans (feq (by decide)).1) k_) ?_
                refine Go.st (T' := T9) (g' := (mkF m 238 #[.val (.long p1), .second, .val (.long p2), .second, .val (.int p3), .val (.int p4), .val (.int p5), .val (.int p6), .val (.int s1), .val (.int k1), .val (.long m2), .second, .val (.int s2), .val (.int k2), .val (.int kd), .val (.ref b1), .val (.ref b3), .val (.ref b3), .val (.int (1 : Int32)), .val (.int (1 : Int32)), .val (.int (1 : Int32))] [(.int (1 : Int32))])) (fun t_ k_ => XS.iload X9.here hx rfl (hb hby at_236) rfl  k_) ?_
                refine Go.st (T' := T9) (g' := (mkF m 241 #[.val (.long p1), .second, .val (.long p2), .second, .val (.int p3), .val (.int p4), .val (.int p5), .val (.int p6), .val (.int s1), .val (.int k1), .val (.long m2), .second, .val (.int s2), .val (.int k2), .val (.int kd), .val (.ref b1), .val (.ref b3), .val (.ref b3), .val (.int (1 : Int32)), .val (.int (1 : Int32)), .val (.int (1 : Int32))] [])) (fun t_ k_ => XS.ifNo X9.here hx rfl (hb hby at_238) rfl ((if0 _ _).trans (feq (by decide)).1) k_) ?_
                refine Go.st (T' := T9) (g' := (mkF m 242 #[.val (.long p1), .second, .val (.long p2), .second, .val (.int p3), .val (.int p4), .val (.int p5), .val (.int p6), .val (.int s1), .val (.int k1), .val (.long m2), .second, .val (.int s2), .val (.int k2), .val (.int kd), .val (.ref b1), .val (.ref b3), .val (.ref b3), .val (.int (1 : Int32)), .val (.int (1 : Int32)), .val (.int (1 : Int32))] [(.int (1 : Int32))])) (fun t_ k_ => XS.iconst X9.here hx rfl (hb hby at_241) k_) ?_
                refine Go.st (T' := T9) (g' := (mkF m 246 #[.val (.long p1), .second, .val (.long p2), .second, .val (.int p3), .val (.int p4), .val (.int p5), .val (.int p6), .val (.int s1), .val (.int k1), .val (.long m2), .second, .val (.int s2), .val (.int k2), .val (.int kd), .val (.ref b1), .val (.ref b3), .val (.ref b3), .val (.int (1 : Int32)), .val (.int (1 : Int32)), .val (.int (1 : Int32))] [(.int (1 : Int32))])) (fun t_ k_ => XS.goto X9.here hx rfl (pc0 := 242) (pc' := 246) rfl (hb hby at_242) (by decide) (by decide) k_) ?_
                refine Go.retB X9 hx Bd.returns hlk (t := .boolean) (by simp) (hb hby at_246) (by decide) (by decide) ?_
                rw [e9]
                exact ⟨rfl, N9⟩
            · refine Go.st (T' := T4) (g' := (mkF m 185 #[.val (.long p1), .second, .val (.long p2), .second, .val (.int p3), .val (.int p4), .val (.int p5), .val (.int p6), .val (.int s1), .val (.int k1), .val (.long m2), .second, .val (.int s2), .val (.int k2), .val (.int kd), .val (.ref b1), .val (.ref b3), .val (.ref b3), .unset, .unset, .unset] [])) (fun t_ k_ => XS.icmpYes X4.here hx rfl (pc0 := 178) (pc' := 185) rfl (hb hby at_178) rfl (feq hc178).2 (by decide) (by decide) k_) ?_
              refine Go.st (T' := T4) (g' := (mkF m 186 #[.val (.long p1), .second, .val (.long p2), .second, .val (.int p3), .val (.int p4), .val (.int p5), .val (.int p6), .val (.int s1), .val (.int k1), .val (.long m2), .second, .val (.int s2), .val (.int k2), .val (.int kd), .val (.ref b1), .val (.ref b3), .val (.ref b3), .unset, .unset, .unset] [(.int (0 : Int32))])) (fun t_ k_ => XS.iconst X4.here hx rfl (hb hby at_185) k_) ?_
              refine Go.st (T' := T4) (g' := (mkF m 188 #[.val (.long p1), .second, .val (.long p2), .second, .val (.int p3), .val (.int p4), .val (.int p5), .val (.int p6), .val (.int s1), .val (.int k1), .val (.long m2), .second, .val (.int s2), .val (.int k2), .val (.int kd), .val (.ref b1), .val (.ref b3), .val (.ref b3), .val (.int (0 : Int32)), .unset, .unset] [])) (fun t_ k_ => XS.istore X4.here hx rfl (hb hby at_186) rfl (l' := #[.val (.long p1), .second, .val (.long p2), .second, .val (.int p3), .val (.int p4), .val (.int p5), .val (.int p6), .val (.int s1), .val (.int k1), .val (.long m2), .second, .val (.int s2), .val (.int k2), .val (.int kd), .val (.ref b1), .val (.ref b3), .val (.ref b3), .val (.int (0 : Int32)), .unset, .unset]) rfl k_) ?_
              refine Go.st (T' := T4) (g' := (mkF m 190 #[.val (.long p1), .second, .val (.long p2), .second, .val (.int p3), .val (.int p4), .val (.int p5), .val (.int p6), .val (.int s1), .val (.int k1), .val (.long m2), .second, .val (.int s2), .val (.int k2), .val (.int kd), .val (.ref b1), .val (.ref b3), .val (.ref b3), .val (.int (0 : Int32)), .unset, .unset] [(.ref b1)])) (fun t_ k_ => XS.aload X4.here hx rfl (hb hby at_188) rfl rfl k_) ?_
              refine Go.st (T' := T4) (g' := (mkF m 192 #[.val (.long p1), .second, .val (.long p2), .second, .val (.int p3), .val (.int p4), .val (.int p5), .val (.int p6), .val (.int s1), .val (.int k1), .val (.long m2), .second, .val (.int s2), .val (.int k2), .val (.int kd), .val (.ref b1), .val (.ref b3), .val (.ref b3), .val (.int (0 : Int32)), .unset, .unset] [(.ref b3), (.ref b1)])) (fun t_ k_ => XS.aload X4.here hx rfl (hb hby at_190) rfl rfl k_) ?_
              obtain ⟨cq11, kq11, q11a, q11b, q11c⟩ := isOf hZ rfl ((Exa.ext E3 Eq2).keep Kq4)
              obtain ⟨_, _, ⟨T11, L11, k11, n11⟩, -, X11, ⟨Lc11, hQ11, l11, y11, z11⟩, st11⟩ := X4.virtualBack hx (y := (⟨"com/example/chronoid/chronoid/id/UniqueKey", "equals", "(Ljava/lang/Object;)Z"⟩ : MethodName)) (z := (⟨"com/example/chronoid/chronoid/id/UniqueKey", "equals", "(Ljava/lang/Object;)Z"⟩ : MethodName)) hown (mvT hZ (hw _ (List.mem_of_getElem? (i := 17) rfl))) (mvT hZ (hw _ (List.mem_of_getElem? (i := 18) rfl))) (notFace_of_selects (args := #[]) (mvT hZ (hw _ (List.mem_of_getElem? (i := 20) rfl)))) (mvT hZ (hw _ (List.mem_of_getElem? (i := 20) rfl))) (mvT hZ (hw _ (List.mem_of_getElem? (i := 19) rfl))) (by decide) (backOf (W := 0) (rm3 l Z a0 hw [] b1 b3 p1 s1 k1 m2 s2 k2 (0 : Int32) T4.heap n0 (Nat.le_trans (Nat.le_trans (Nat.le_trans (Nat.le_trans Z0 E1.1) Kq2.1) E3.1) Kq4.1) Eq4 ((Fld.ext E3 F0q2).keep Kq4 (ninS (Nat.ne_of_lt (Nat.lt_of_lt_of_le Eq2.lt (Nat.le_of_eq q3.symm))) nin0)) ((Fld.ext E3 F1q2).keep Kq4 (ninS (Nat.ne_of_lt (Nat.lt_of_lt_of_le Eq2.lt (Nat.le_of_eq q3.symm))) nin0)) ((Fld.ext E3 F2q2).keep Kq4 (ninS (Nat.ne_of_lt (Nat.lt_of_lt_of_le Eq2.lt (Nat.le_of_eq q3.symm))) nin0)) F0q4 F1q4 F2q4 ((if_neg (fun q => hc178 q.2.2)).symm)) hZ (hw _ (List.mem_of_getElem? (i := 21) rfl)) (hw _ (List.mem_of_getElem? (i := 4) rfl)) (by decide) (by decide)) q11a q11c (g := (mkF m 192 #[.val (.long p1), .second, .val (.long p2), .second, .val (.int p3), .val (.int p4), .val (.int p5), .val (.int p6), .val (.int s1), .val (.int k1), .val (.long m2), .second, .val (.int s2), .val (.int k2), .val (.int kd), .val (.ref b1), .val (.ref b3), .val (.ref b3), .val (.int (0 : Int32)), .unset, .unset] [(.ref b3), (.ref b1)])) rfl (by rw [hml]; rfl) (Steps.refl _) (argsL := [(.ref b3)]) (rest := []) (lenOf pd_3 rfl) rfl (by show 2 * 0 + _ ≤ _; exact Nat.le_of_eq rfl) (hb hby at_192) (fun _ _ => ⟨rfl, rfl, (by decide : 2 + 0 ≤ _), (by decide : 6 + 0 ≤ _)⟩)
              dsimp only [Pt.U, Pt.locs, Pt.cells, Pt.slots] at X11 l11 y11 z11 st11 hQ11
              subst l11 y11 z11
              obtain ⟨rfl, Nq11, e11⟩ := hQ11
              have N11 := Fr.app N4 Nq11
              refine Go.ts (T' := T11) (g' := (mkF m 195 #[.val (.long p1), .second, .val (.long p2), .second, .val (.int p3), .val (.int p4), .val (.int p5), .val (.int p6), .val (.int s1), .val (.int k1), .val (.long m2), .second, .val (.int s2), .val (.int k2), .val (.int kd), .val (.ref b1), .val (.ref b3), .val (.ref b3), .val (.int (0 : Int32)), .unset, .unset] [(.int (0 : Int32))])) st11 ?_
              refine Go.st (T' := T11) (g' := (mkF m 197 #[.val (.long p1), .second, .val (.long p2), .second, .val (.int p3), .val (.int p4), .val (.int p5), .val (.int p6), .val (.int s1), .val (.int k1), .val (.long m2), .second, .val (.int s2), .val (.int k2), .val (.int kd), .val (.ref b1), .val (.ref b3), .val (.ref b3), .val (.int (0 : Int32)), .unset, .unset] [(.int (0 : Int32)), (.int (0 : Int32))])) (fun t_ k_ => XS.iload X11.here hx rfl (hb hby at_195) rfl  k_) ?_
              refine Go.st (T' := T11) (g' := (mkF m 200 #[.val (.long p1), .second, .val (.long p2), .second, .val (.int p3), .val (.int p4), .val (.int p5), .val (.int p6), .val (.int s1), .val (.int k1), .val (.long m2), .second, .val (.int s2), .val (.int k2), .val (.int kd), .val (.ref b1), .val (.ref b3), .val (.ref b3), .val (.int (0 : Int32)), .unset, .unset] [])) (fun t_ k_ => XS.icmpNo X11.here hx rfl (hb hby at_197) rfl (teq (by decide)).2 k_) ?_
              refine Go.st (T' := T11) (g' := (mkF m 201 #[.val (.long p1), .second, .val (.long p2), .second, .val (.int p3), .val (.int p4), .val (.int p5), .val (.int p6), .val (.int s1), .val (.int k1), .val (.long m2), .second, .val (.int s2), .val (.int k2), .val (.int kd), .val (.ref b1), .val (.ref b3), .val (.ref b3), .val (.int (0 : Int32)), .unset, .unset] [(.int (1 : Int32))])) (fun t_ k_ => XS.iconst X11.here hx rfl (hb hby at_200) k_) ?_
              refine Go.st (T' := T11) (g' := (mkF m 205 #[.val (.long p1), .second, .val (.long p2), .second, .val (.int p3), .val (.int p4), .val (.int p5), .val (.int p6), .val (.int s1), .val (.int k1), .val (.long m2), .second, .val (.int s2), .val (.int k2), .val (.int kd), .val (.ref b1), .val (.ref b3), .val (.ref b3), .val (.int (0 : Int32)), .unset, .unset] [(.int (1 : Int32))])) (fun t_ k_ => XS.goto X11.here hx rfl (pc0 := 201) (pc' := 205) rfl (hb hby at_201) (by decide) (by decide) k_) ?_
              refine Go.st (T' := T11) (g' := (mkF m 207 #[.val (.long p1), .second, .val (.long p2), .second, .val (.int p3), .val (.int p4), .val (.int p5), .val (.int p6), .val (.int s1), .val (.int k1), .val (.long m2), .second, .val (.int s2), .val (.int k2), .val (.int kd), .val (.ref b1), .val (.ref b3), .val (.ref b3), .val (.int (0 : Int32)), .val (.int (1 : Int32)), .unset] [])) (fun t_ k_ => XS.istore X11.here hx rfl (hb hby at_205) rfl (l' := #[.val (.long p1), .second, .val (.long p2), .second, .val (.int p3), .val (.int p4), .val (.int p5), .val (.int p6), .val (.int s1), .val (.int k1), .val (.long m2), .second, .val (.int s2), .val (.int k2), .val (.int kd), .val (.ref b1), .val (.ref b3), .val (.ref b3), .val (.int (0 : Int32)), .val (.int (1 : Int32)), .unset]) rfl k_) ?_
              refine Go.st (T' := T11) (g' := (mkF m 209 #[.val (.long p1), .second, .val (.long p2), .second, .val (.int p3), .val (.int p4), .val (.int p5), .val (.int p6), .val (.int s1), .val (.int k1), .val (.long m2), .second, .val (.int s2), .val (.int k2), .val (.int kd), .val (.ref b1), .val (.ref b3), .val (.ref b3), .val (.int (0 : Int32)), .val (.int (1 : Int32)), .unset] [(.int kd)])) (fun t_ k_ => XS.iload X11.here hx rfl (hb hby at_207) rfl  k_) ?_
              by_cases hc209 : kd = (0 : Int32)
              · refine Go.st (T' := T11) (g' := (mkF m 212 #[.val (.long p1), .second, .val (.long p2), .second, .val (.int p3), .val (.int p4), .val (.int p5), .val (.int p6), .val (.int s1), .val (.int k1), .val (.long m2), .second, .val (.int s2), .val (.int k2), .val (.int kd), .val (.ref b1), .val (.ref b3), .val (.ref b3), .val (.int (0 : Int32)), .val (.int (1 : Int32)), .unset] [])) (fun t_ k_ => XS.ifNo X11.here hx rfl (hb hby at_209) rfl ((if0 _ _).trans (teq hc209).2) k_) ?_
                refine Go.st (T' := T11) (g' := (mkF m 214 #[.val (.long p1), .second, .val (.long p2), .second, .val (.int p3), .val (.int p4), .val (.int p5), .val (.int p6), .val (.int s1), .val (.int k1), .val (.long m2), .second, .val (.int s2), .val (.int k2), .val (.int kd), .val (.ref b1), .val (.ref b3), .val (.ref b3), .val (.int (0 : Int32)), .val (.int (1 : Int32)), .unset] [(.ref b3)])) (fun t_ k_ => XS.aload X11.here hx rfl (hb hby at_212) rfl rfl k_) ?_
                refine Go.st (T' := T11) (g' := (mkF m 216 #[.val (.long p1), .second, .val (.long p2), .second, .val (.int p3), .val (.int p4), .val (.int p5), .val (.int p6), .val (.int s1), .val (.int k1), .val (.long m2), .second, .val (.int s2), .val (.int k2), .val (.int kd), .val (.ref b1), .val (.ref b3), .val (.ref b3), .val (.int (0 : Int32)), .val (.int (1 : Int32)), .unset] [(.ref b1), (.ref b3)])) (fun t_ k_ => XS.aload X11.here hx rfl (hb hby at_214) rfl rfl k_) ?_
                obtain ⟨cq12, kq12, q12a, q12b, q12c⟩ := isOf hZ e11 Eq4
                obtain ⟨_, _, ⟨T12, L12, k12, n12⟩, -, X12, ⟨Lc12, hQ12, l12, y12, z12⟩, st12⟩ := X11.virtualBack hx (y := (⟨"com/example/chronoid/chronoid/id/UniqueKey", "equals", "(Ljava/lang/Object;)Z"⟩ : MethodName)) (z := (⟨"com/example/chronoid/chronoid/id/UniqueKey", "equals", "(Ljava/lang/Object;)Z"⟩ : MethodName)) hown (mvT hZ (hw _ (List.mem_of_getElem? (i := 17) rfl))) (mvT hZ (hw _ (List.mem_of_getElem? (i := 18) rfl))) (notFace_of_selects (args := #[]) (mvT hZ (hw _ (List.mem_of_getElem? (i := 20) rfl)))) (mvT hZ (hw _ (List.mem_of_getElem? (i := 20) rfl))) (mvT hZ (hw _ (List.mem_of_getElem? (i := 19) rfl))) (by decide) (backOf (W := 0) (rm3 l Z a0 hw [] b3 b1 m2 s2 k2 p1 s1 k1 (0 : Int32) T4.heap n0 (Nat.le_trans (Nat.le_trans (Nat.le_trans (Nat.le_trans Z0 E1.1) Kq2.1) E3.1) Kq4.1) ((Exa.ext E3 Eq2).keep Kq4) F0q4 F1q4 F2q4 ((Fld.ext E3 F0q2).keep Kq4 (ninS (Nat.ne_of_lt (Nat.lt_of_lt_of_le Eq2.lt (Nat.le_of_eq q3.symm))) nin0)) ((Fld.ext E3 F1q2).keep Kq4 (ninS (Nat.ne_of_lt (Nat.lt_of_lt_of_le Eq2.lt (Nat.le_of_eq q3.symm))) nin0)) ((Fld.ext E3 F2q2).keep Kq4 (ninS (Nat.ne_of_lt (Nat.lt_of_lt_of_le Eq2.lt (Nat.le_of_eq q3.symm))) nin0)) ((if_neg (fun q => hc178 q.2.2.symm)).symm)) hZ (hw _ (List.mem_of_getElem? (i := 21) rfl)) (hw _ (List.mem_of_getElem? (i := 4) rfl)) (by decide) (by decide)) q12a q12c (g := (mkF m 216 #[.val (.long p1), .second, .val (.long p2), .second, .val (.int p3), .val (.int p4), .val (.int p5), .val (.int p6), .val (.int s1), .val (.int k1), .val (.long m2), .second, .val (.int s2), .val (.int k2), .val (.int kd), .val (.ref b1), .val (.ref b3), .val (.ref b3), .val (.int (0 : Int32)), .val (.int (1 : Int32)), .unset] [(.ref b1), (.ref b3)])) rfl (by rw [hml]; rfl) (Steps.refl _) (argsL := [(.ref b1)]) (rest := []) (lenOf pd_3 rfl) rfl (by show 2 * 0 + _ ≤ _; exact Nat.le_of_eq rfl) (hb hby at_216) (fun _ _ => ⟨rfl, e11, (by decide : 2 + 0 ≤ _), (by decide : 6 + 0 ≤ _)⟩)
                dsimp only [Pt.U, Pt.locs, Pt.cells, Pt.slots] at X12 l12 y12 z12 st12 hQ12
                subst l12 y12 z12
                obtain ⟨rfl, Nq12, e12⟩ := hQ12
                have N12 := Fr.app N11 Nq12
                refine Go.ts (T' := T12) (g' := (mkF m 219 #[.val (.long p1), .second, .val (.long p2), .second, .val (.int p3), .val (.int p4), .val (.int p5), .val (.int p6), .val (.int s1), .val (.int k1), .val (.long m2), .second, .val (.int s2), .val (.int k2), .val (.int kd), .val (.ref b1), .val (.ref b3), .val (.ref b3), .val (.int (0 : Int32)), .val (.int (1 : Int32)), .unset] [(.int (0 : Int32))])) st12 ?_
                refine Go.st (T' := T12) (g' := (mkF m 221 #[.val (.long p1), .second, .val (.long p2), .second, .val (.int p3), .val (.int p4), .val (.int p5), .val (.int p6), .val (.int s1), .val (.int k1), .val (.long m2), .second, .val (.int s2), .val (.int k2), .val (.int kd), .val (.ref b1), .val (.ref b3), .val (.ref b3), .val (.int (0 : Int32)), .val (.int (1 : Int32)), .unset] [(.int (0 : Int32)), (.int (0 : Int32))])) (fun t_ k_ => XS.iload X12.here hx rfl (hb hby at_219) rfl  k_) ?_
                refine Go.st (T' := T12) (g' := (mkF m 224 #[.val (.long p1), .second, .val (.long p2), .second, .val (.int p3), .val (.int p4), .val (.int p5), .val (.int p6), .val (.int s1), .val (.int k1), .val (.long m2), .second, .val (.int s2), .val (.int k2), .val (.int kd), .val (.ref b1), .val (.ref b3), .val (.ref b3), .val (.int (0 : Int32)), .val (.int (1 : Int32)), .unset] [])) (fun t_ k_ => XS.icmpNo X12.here hx rfl (hb hby at_221) rfl (teq (by decide)).2 k_) ?_
                refine Go.st (T' := T12) (g' := (mkF m 225 #[.val (.long p1), .second, .val (.long p2), .second, .val (.int p3), .val (.int p4), .val (.int p5), .val (.int p6), .val (.int s1), .val (.int k1), .val (.long m2), .second, .val (.int s2), .val (.int k2), .val (.int kd), .val (.ref b1), .val (.ref b3), .val (.ref b3), .val (.int (0 : Int32)), .val (.int (1 : Int32)), .unset] [(.int (1 : Int32))])) (fun t_ k_ => XS.iconst X12.here hx rfl (hb hby at_224) k_) ?_
                refine Go.st (T' := T12) (g' := (mkF m 229 #[.val (.long p1), .second, .val (.long p2), .second, .val (.int p3), .val (.int p4), .val (.int p5), .val (.int p6), .val (.int s1), .val (.int k1), .val (.long m2), .second, .val (.int s2), .val (.int k2), .val (.int kd), .val (.ref b1), .val (.ref b3), .val (.ref b3), .val (.int (0 : Int32)), .val (.int (1 : Int32)), .unset] [(.int (1 : Int32))])) (fun t_ k_ => XS.goto X12.here hx rfl (pc0 := 225) (pc' := 229) rfl (hb hby at_225) (by decide) (by decide) k_) ?_
                refine Go.st (T' := T12) (g' := (mkF m 231 #[.val (.long p1), .second, .val (.long p2), .second, .val (.int p3), .val (.int p4), .val (.int p5), .val (.int p6), .val (.int s1), .val (.int k1), .val (.long m2), .second, .val (.int s2), .val (.int k2), .val (.int kd), .val (.ref b1), .val (.ref b3), .val (.ref b3), .val (.int (0 : Int32)), .val (.int (1 : Int32)), .val (.int (1 : Int32))] [])) (fun t_ k_ => XS.istore X12.here hx rfl (hb hby at_229) rfl (l' := #[.val (.long p1), .second, .val (.long p2), .second, .val (.int p3), .val (.int p4), .val (.int p5), .val (.int p6), .val (.int s1), .val (.int k1), .val (.long m2), .second, .val (.int s2), .val (.int k2), .val (.int kd), .val (.ref b1), .val (.ref b3), .val (.ref b3), .val (.int (0 : Int32)), .val (.int (1 : Int32)), .val (.int (1 : Int32))]) rfl k_) ?_
                refine Go.st (T' := T12) (g' := (mkF m 233 #[.val (.long p1), .second, .val (.long p2), .second, .val (.int p3), .val (.int p4), .val (.int p5), .val (.int p6), .val (.int s1), .val (.int k1), .val (.long m2), .second, .val (.int s2), .val (.int k2), .val (.int kd), .val (.ref b1), .val (.ref b3), .val (.ref b3), .val (.int (0 : Int32)), .val (.int (1 : Int32)), .val (.int (1 : Int32))] [(.int (1 : Int32))])) (fun t_ k_ => XS.iload X12.here hx rfl (hb hby at_231) rfl  k_) ?_
                refine Go.st (T' := T12) (g' := (mkF m 236 #[.val (.long p1), .second, .val (.long p2), .second, .val (.int p3), .val (.int p4), .val (.int p5), .val (.int p6), .val (.int s1), .val (.int k1), .val (.long m2), .second, .val (.int s2), .val (.int k2), .val (.int kd), .val (.ref b1), .val (.ref b3), .val (.ref b3), .val (.int (0 : Int32)), .val (.int (1 : Int32)), .val (.int (1 : Int32))] [])) (fun t_ k_ => XS.ifNo X12.here hx rfl (hb hby at_233) rfl ((if0 _ _).trans (feq (by decide)).1) k_) ?_
                refine Go.st (T' := T12) (g' := (mkF m 238 #[.val (.long p1), .second, .val (.long p2), .second, .val (.int p3), .val (.int p4), .val (.int p5), .val (.int p6), .val (.int s1), .val (.int k1), .val (.long m2), .second, .val (.int s2), .val (.int k2), .val (.int kd), .val (.ref b1), .val (.ref b3), .val (.ref b3), .val (.int (0 : Int32)), .val (.int (1 : Int32)), .val (.int (1 : Int32))] [(.int (1 : Int32))])) (fun t_ k_ => XS.iload X12.here hx rfl (hb hby at_236) rfl  k_) ?_
                refine Go.st (T' := T12) (g' := (mkF m 241 #[.val (.long p1), .second, .val (.long p2), .second, .val (.int p3), .val (.int p4), .val (.int p5), .val (.int p6), .val (.int s1), .val (.int k1), .val (.long m2), .second, .val (.int s2), .val (.int k2), .val (.int kd), .val (.ref b1), .val (.ref b3), .val (.ref b3), .val (.int (0 : Int32)), .val (.int (1 : Int32)), .val (.int (1 : Int32))] [])) (fun t_ k_ => XS.ifNo X12.here hx rfl (hb hby at_238) rfl ((if0 _ _).trans (feq (by decide)).1) k_) ?_
                refine Go.st (T' := T12) (g' := (mkF m 242 #[.val (.long p1), .second, .val (.long p2), .second, .val (.int p3), .val (.int p4), .val (.int p5), .val (.int p6), .val (.int s1), .val (.int k1), .val (.long m2), .second, .val (.int s2), .val (.int k2), .val (.int kd), .val (.ref b1), .val (.ref b3), .val (.ref b3), .val (.int (0 : Int32)), .val (.int (1 : Int32)), .val (.int (1 : Int32))] [(.int (1 : Int32))])) (fun t_ k_ => XS.iconst X12.here hx rfl (hb hby at_241) k_) ?_
                refine Go.st (T' := T12) (g' := (mkF m 246 #[.val (.long p1), .second, .val (.long p2), .second, .val (.int p3), .val (.int p4), .val (.int p5), .val (.int p6), .val (.int s1), .val (.int k1), .val (.long m2), .second, .val (.int s2), .val (.int k2), .val (.int kd), .val (.ref b1), .val (.ref b3), .val (.ref b3), .val (.int (0 : Int32)), .val (.int (1 : Int32)), .val (.int (1 : Int32))] [(.int (1 : Int32))])) (fun t_ k_ => XS.goto X12.here hx rfl (pc0 := 242) (pc' := 246) rfl (hb hby at_242) (by decide) (by decide) k_) ?_
                refine Go.retB X12 hx Bd.returns hlk (t := .boolean) (by simp) (hb hby at_246) (by decide) (by decide) ?_
                rw [e12]
                exact ⟨rfl, N12⟩
              · refine Go.st (T' := T11) (g' := (mkF m 224 #[.val (.long p1), .second, .val (.long p2), .second, .val (.int p3), .val (.int p4), .val (.int p5), .val (.int p6), .val (.int s1), .val (.int k1), .val (.long m2), .second, .val (.int s2), .val (.int k2), .val (.int kd), .val (.ref b1), .val (.ref b3), .val (.ref b3), .val (.int (0 : Int32)), .val (.int (1 : Int32)), .unset] [])) (fun t_ k_ => XS.ifYes X11.here hx rfl (pc0 := 209) (pc' := 224) rfl (hb hby at_209) rfl ((if0 _ _).trans (feq hc209).2) (by decide) (by decide) k_) ?_
                refine Go.st (T' := T11) (g' := (mkF m 225 #[.val (.long p1), .second, .val (.long p2), .second, .val (.int p3), .val (.int p4), .val (.int p5), .val (.int p6), .val (.int s1), .val (.int k1), .val (.long m2), .second, .val (.int s2), .val (.int k2), .val (.int kd), .val (.ref b1), .val (.ref b3), .val (.ref b3), .val (.int (0 : Int32)), .val (.int (1 : Int32)), .unset] [(.int (1 : Int32))])) (fun t_ k_ => XS.iconst X11.here hx rfl (hb hby at_224) k_) ?_
                refine Go.st (T' := T11) (g' := (mkF m 229 #[.val (.long p1), .second, .val (.long p2), .second, .val (.int p3), .val (.int p4), .val (.int p5), .val (.int p6), .val (.int s1), .val (.int k1), .val (.long m2), .second, .val (.int s2), .val (.int k2), .val (.int kd), .val (.ref b1), .val (.ref b3), .val (.ref b3), .val (.int (0 : Int32)), .val (.int (1 : Int32)), .unset] [(.int (1 : Int32))])) (fun t_ k_ => XS.goto X11.here hx rfl (pc0 := 225) (pc' := 229) rfl (hb hby at_225) (by decide) (by decide) k_) ?_
                refine Go.st (T' := T11) (g' := (mkF m 231 #[.val (.long p1), .second, .val (.long p2), .second, .val (.int p3), .val (.int p4), .val (.int p5), .val (.int p6), .val (.int s1), .val (.int k1), .val (.long m2), .second, .val (.int s2), .val (.int k2), .val (.int kd), .val (.ref b1), .val (.ref b3), .val (.ref b3), .val (.int (0 : Int32)), .val (.int (1 : Int32)), .val (.int (1 : Int32))] [])) (fun t_ k_ => XS.istore X11.here hx rfl (hb hby at_229) rfl (l' := #[.val (.long p1), .second, .val (.long p2), .second, .val (.int p3), .val (.int p4), .val (.int p5), .val (.int p6), .val (.int s1), .val (.int k1), .val (.long m2), .second, .val (.int s2), .val (.int k2), .val (.int kd), .val (.ref b1), .val (.ref b3), .val (.ref b3), .val (.int (0 : Int32)), .val (.int (1 : Int32)), .val (.int (1 : Int32))]) rfl k_) ?_
                refine Go.st (T' := T11) (g' := (mkF m 233 #[.val (.long p1), .second, .val (.long p2), .second, .val (.int p3), .val (.int p4), .val (.int p5), .val (.int p6), .val (.int s1), .val (.int k1), .val (.long m2), .second, .val (.int s2), .val (.int k2), .val (.int kd), .val (.ref b1), .val (.ref b3), .val (.ref b3), .val (.int (0 : Int32)), .val (.int (1 : Int32)), .val (.int (1 : Int32))] [(.int (1 : Int32))])) (fun t_ k_ => XS.iload X11.here hx rfl (hb hby at_231) rfl  k_) ?_
                refine Go.st (T' := T11) (g' := (mkF m 236 #[.val (.long p1), .second, .val (.long p2), .second, .val (.int p3), .val (.int p4), .val (.int p5), .val (.int p6), .val (.int s1), .val (.int k1), .val (.long m2), .second, .val (.int s2), .val (.int k2), .val (.int kd), .val (.ref b1), .val (.ref b3), .val (.ref b3), .val (.int (0 : Int32)), .val (.int (1 : Int32)), .val (.int (1 : Int32))] [])) (fun t_ k_ => XS.ifNo X11.here hx rfl (hb hby at_233) rfl ((if0 _ _).trans (feq (by decide)).1) k_) ?_
                refine Go.st (T' := T11) (g' := (mkF m 238 #[.val (.long p1), .second, .val (.long p2), .second, .val (.int p3), .val (.int p4), .val (.int p5), .val (.int p6), .val (.int s1), .val (.int k1), .val (.long m2), .second, .val (.int s2), .val (.int k2), .val (.int kd), .val (.ref b1), .val (.ref b3), .val (.ref b3), .val (.int (0 : Int32)), .val (.int (1 : Int32)), .val (.int (1 : Int32))] [(.int (1 : Int32))])) (fun t_ k_ => XS.iload X11.here hx rfl (hb hby at_236) rfl  k_) ?_
                refine Go.st (T' := T11) (g' := (mkF m 241 #[.val (.long p1), .second, .val (.long p2), .second, .val (.int p3), .val (.int p4), .val (.int p5), .val (.int p6), .val (.int s1), .val (.int k1), .val (.long m2), .second, .val (.int s2), .val (.int k2), .val (.int kd), .val (.ref b1), .val (.ref b3), .val (.ref b3), .val (.int (0 : Int32)), .val (.int (1 : Int32)), .val (.int (1 : Int32))] [])) (fun t_ k_ => XS.ifNo X11.here hx rfl (hb hby at_238) rfl ((if0 _ _).trans (feq (by decide)).1) k_) ?_
                refine Go.st (T' := T11) (g' := (mkF m 242 #[.val (.long p1), .second, .val (.long p2), .second, .val (.int p3), .val (.int p4), .val (.int p5), .val (.int p6), .val (.int s1), .val (.int k1), .val (.long m2), .second, .val (.int s2), .val (.int k2), .val (.int kd), .val (.ref b1), .val (.ref b3), .val (.ref b3), .val (.int (0 : Int32)), .val (.int (1 : Int32)), .val (.int (1 : Int32))] [(.int (1 : Int32))])) (fun t_ k_ => XS.iconst X11.here hx rfl (hb hby at_241) k_) ?_
                refine Go.st (T' := T11) (g' := (mkF m 246 #[.val (.long p1), .second, .val (.long p2), .second, .val (.int p3), .val (.int p4), .val (.int p5), .val (.int p6), .val (.int s1), .val (.int k1), .val (.long m2), .second, .val (.int s2), .val (.int k2), .val (.int kd), .val (.ref b1), .val (.ref b3), .val (.ref b3), .val (.int (0 : Int32)), .val (.int (1 : Int32)), .val (.int (1 : Int32))] [(.int (1 : Int32))])) (fun t_ k_ => XS.goto X11.here hx rfl (pc0 := 242) (pc' := 246) rfl (hb hby at_242) (by decide) (by decide) k_) ?_
                refine Go.retB X11 hx Bd.returns hlk (t := .boolean) (by simp) (hb hby at_246) (by decide) (by decide) ?_
                rw [e11]
                exact ⟨rfl, N11⟩
          · refine Go.st (T' := T4) (g' := (mkF m 185 #[.val (.long p1), .second, .val (.long p2), .second, .val (.int p3), .val (.int p4), .val (.int p5), .val (.int p6), .val (.int s1), .val (.int k1), .val (.long m2), .second, .val (.int s2), .val (.int k2), .val (.int kd), .val (.ref b1), .val (.ref b3), .val (.ref b3), .unset, .unset, .unset] [])) (fun t_ k_ => XS.icmpYes X4.here hx rfl (pc0 := 171) (pc' := 185) rfl (hb hby at_171) rfl (feq hc171).2 (by decide) (by decide) k_) ?_
            refine Go.st (T' := T4) (g' := (mkF m 186 #[.val (.long p1), .second, .val (.long p2), .second, .val (.int p3), .val (.int p4), .val (.int p5), .val (.int p6), .val (.int s1), .val (.int k1), .val (.long m2), .second, .val (.int s2), .val (.int k2), .val (.int kd), .val (.ref b1), .val (.ref b3), .val (.ref b3), .unset, .unset, .unset] [(.int (0 : Int32))])) (fun t_ k_ => XS.iconst X4.here hx rfl (hb hby at_185) k_) ?_
            refine Go.st (T' := T4) (g' := (mkF m 188 #[.val (.long p1), .second, .val (.long p2), .second, .val (.int p3), .val (.int p4), .val (.int p5), .val (.int p6), .val (.int s1), .val (.int k1), .val (.long m2), .second, .val (.int s2), .val (.int k2), .val (.int kd), .val (.ref b1), .val (.ref b3), .val (.ref b3), .val (.int (0 : Int32)), .unset, .unset] [])) (fun t_ k_ => XS.istore X4.here hx rfl (hb hby at_186) rfl (l' := #[.val (.long p1), .second, .val (.long p2), .second, .val (.int p3), .val (.int p4), .val (.int p5), .val (.int p6), .val (.int s1), .val (.int k1), .val (.long m2), .second, .val (.int s2), .val (.int k2), .val (.int kd), .val (.ref b1), .val (.ref b3), .val (.ref b3), .val (.int (0 : Int32)), .unset, .unset]) rfl k_) ?_
            refine Go.st (T' := T4) (g' := (mkF m 190 #[.val (.long p1), .second, .val (.long p2), .second, .val (.int p3), .val (.int p4), .val (.int p5), .val (.int p6), .val (.int s1), .val (.int k1), .val (.long m2), .second, .val (.int s2), .val (.int k2), .val (.int kd), .val (.ref b1), .val (.ref b3), .val (.ref b3), .val (.int (0 : Int32)), .unset, .unset] [(.ref b1)])) (fun t_ k_ => XS.aload X4.here hx rfl (hb hby at_188) rfl rfl k_) ?_
            refine Go.st (T' := T4) (g' := (mkF m 192 #[.val (.long p1), .second, .val (.long p2), .second, .val (.int p3), .val (.int p4), .val (.int p5), .val (.int p6), .val (.int s1), .val (.int k1), .val (.long m2), .second, .val (.int s2), .val (.int k2), .val (.int kd), .val (.ref b1), .val (.ref b3), .val (.ref b3), .val (.int (0 : Int32)), .unset, .unset] [(.ref b3), (.ref b1)])) (fun t_ k_ => XS.aload X4.here hx rfl (hb hby at_190) rfl rfl k_) ?_
            obtain ⟨cq13, kq13, q13a, q13b, q13c⟩ := isOf hZ rfl ((Exa.ext E3 Eq2).keep Kq4)
            obtain ⟨_, _, ⟨T13, L13, k13, n13⟩, -, X13, ⟨Lc13, hQ13, l13, y13, z13⟩, st13⟩ := X4.virtualBack hx (y := (⟨"com/example/chronoid/chronoid/id/UniqueKey", "equals", "(Ljava/lang/Object;)Z"⟩ : MethodName)) (z := (⟨"com/example/chronoid/chronoid/id/UniqueKey", "equals", "(Ljava/lang/Object;)Z"⟩ : MethodName)) hown (mvT hZ (hw _ (List.mem_of_getElem? (i := 17) rfl))) (mvT hZ (hw _ (List.mem_of_getElem? (i := 18) rfl))) (notFace_of_selects (args := #[]) (mvT hZ (hw _ (List.mem_of_getElem? (i := 20) rfl)))) (mvT hZ (hw _ (List.mem_of_getElem? (i := 20) rfl))) (mvT hZ (hw _ (List.mem_of_getElem? (i := 19) rfl))) (by decide) (backOf (W := 0) (rm3 l Z a0 hw [] b1 b3 p1 s1 k1 m2 s2 k2 (0 : Int32) T4.heap n0 (Nat.le_trans (Nat.le_trans (Nat.le_trans (Nat.le_trans Z0 E1.1) Kq2.1) E3.1) Kq4.1) Eq4 ((Fld.ext E3 F0q2).keep Kq4 (ninS (Nat.ne_of_lt (Nat.lt_of_lt_of_le Eq2.lt (Nat.le_of_eq q3.symm))) nin0)) ((Fld.ext E3 F1q2).keep Kq4 (ninS (Nat.ne_of_lt (Nat.lt_of_lt_of_le Eq2.lt (Nat.le_of_eq q3.symm))) nin0)) ((Fld.ext E3 F2q2).keep Kq4 (ninS (Nat.ne_of_lt (Nat.lt_of_lt_of_le Eq2.lt (Nat.le_of_eq q3.symm))) nin0)) F0q4 F1q4 F2q4 ((if_neg (fun q => hc171 q.2.1)).symm)) hZ (hw _ (List.mem_of_getElem? (i := 21) rfl)) (hw _ (List.mem_of_getElem? (i := 4) rfl)) (by decide) (by decide)) q13a q13c (g := (mkF m 192 #[.val (.long p1), .second, .val (.long p2), .second, .val (.int p3), .val (.int p4), .val (.int p5), .val (.int p6), .val (.int s1), .val (.int k1), .val (.long m2), .second, .val (.int s2), .val (.int k2), .val (.int kd), .val (.ref b1), .val (.ref b3), .val (.ref b3), .val (.int (0 : Int32)), .unset, .unset] [(.ref b3), (.ref b1)])) rfl (by rw [hml]; rfl) (Steps.refl _) (argsL := [(.ref b3)]) (rest := []) (lenOf pd_3 rfl) rfl (by show 2 * 0 + _ ≤ _; exact Nat.le_of_eq rfl) (hb hby at_192) (fun _ _ => ⟨rfl, rfl, (by decide : 2 + 0 ≤ _), (by decide : 6 + 0 ≤ _)⟩)
            dsimp only [Pt.U, Pt.locs, Pt.cells, Pt.slots] at X13 l13 y13 z13 st13 hQ13
            subst l13 y13 z13
            obtain ⟨rfl, Nq13, e13⟩ := hQ13
            have N13 := Fr.app N4 Nq13
            refine Go.ts (T' := T13) (g' := (mkF m 195 #[.val (.long p1), .second, .val (.long p2), .second, .val (.int p3), .val (.int p4), .val (.int p5), .val (.int p6), .val (.int s1), .val (.int k1), .val (.long m2), .second, .val (.int s2), .val (.int k2), .val (.int kd), .val (.ref b1), .val (.ref b3), .val (.ref b3), .val (.int (0 : Int32)), .unset, .unset] [(.int (0 : Int32))])) st13 ?_
            refine Go.st (T' := T13) (g' := (mkF m 197 #[.val (.long p1), .second, .val (.long p2), .second, .val (.int p3), .val (.int p4), .val (.int p5), .val (.int p6), .val (.int s1), .val (.int k1), .val (.long m2), .second, .val (.int s2), .val (.int k2), .val (.int kd), .val (.ref b1), .val (.ref b3), .val (.ref b3), .val (.int (0 : Int32)), .unset, .unset] [(.int (0 : Int32)), (.int (0 : Int32))])) (fun t_ k_ => XS.iload X13.here hx rfl (hb hby at_195) rfl  k_) ?_
            refine Go.st (T' := T13) (g' := (mkF m 200 #[.val (.long p1), .second, .val (.long p2), .second, .val (.int p3), .val (.int p4), .val (.int p5), .val (.int p6), .val (.int s1), .val (.int k1), .val (.long m2), .second, .val (.int s2), .val (.int k2), .val (.int kd), .val (.ref b1), .val (.ref b3), .val (.ref b3), .val (.int (0 : Int32)), .unset, .unset] [])) (fun t_ k_ => XS.icmpNo X13.here hx rfl (hb hby at_197) rfl (teq (by decide)).2 k_) ?_
            refine Go.st (T' := T13) (g' := (mkF m 201 #[.val (.long p1), .second, .val (.long p2), .second, .val (.int p3), .val (.int p4), .val (.int p5), .val (.int p6), .val (.int s1), .val (.int k1), .val (.long m2), .second, .val (.int s2), .val (.int k2), .val (.int kd), .val (.ref b1), .val (.ref b3), .val (.ref b3), .val (.int (0 : Int32)), .unset, .unset] [(.int (1 : Int32))])) (fun t_ k_ => XS.iconst X13.here hx rfl (hb hby at_200) k_) ?_
            refine Go.st (T' := T13) (g' := (mkF m 205 #[.val (.long p1), .second, .val (.long p2), .second, .val (.int p3), .val (.int p4), .val (.int p5), .val (.int p6), .val (.int s1), .val (.int k1), .val (.long m2), .second, .val (.int s2), .val (.int k2), .val (.int kd), .val (.ref b1), .val (.ref b3), .val (.ref b3), .val (.int (0 : Int32)), .unset, .unset] [(.int (1 : Int32))])) (fun t_ k_ => XS.goto X13.here hx rfl (pc0 := 201) (pc' := 205) rfl (hb hby at_201) (by decide) (by decide) k_) ?_
            refine Go.st (T' := T13) (g' := (mkF m 207 #[.val (.long p1), .second, .val (.long p2), .second, .val (.int p3), .val (.int p4), .val (.int p5), .val (.int p6), .val (.int s1), .val (.int k1), .val (.long m2), .second, .val (.int s2), .val (.int k2), .val (.int kd), .val (.ref b1), .val (.ref b3), .val (.ref b3), .val (.int (0 : Int32)), .val (.int (1 : Int32)), .unset] [])) (fun t_ k_ => XS.istore X13.here hx rfl (hb hby at_205) rfl (l' := #[.val (.long p1), .second, .val (.long p2), .second, .val (.int p3), .val (.int p4), .val (.int p5), .val (.int p6), .val (.int s1), .val (.int k1), .val (.long m2), .second, .val (.int s2), .val (.int k2), .val (.int kd), .val (.ref b1), .val (.ref b3), .val (.ref b3), .val (.int (0 : Int32)), .val (.int (1 : Int32)), .unset]) rfl k_) ?_
            refine Go.st (T' := T13) (g' := (mkF m 209 #[.val (.long p1), .second, .val (.long p2), .second, .val (.int p3), .val (.int p4), .val (.int p5), .val (.int p6), .val (.int s1), .val (.int k1), .val (.long m2), .second, .val (.int s2), .val (.int k2), .val (.int kd), .val (.ref b1), .val (.ref b3), .val (.ref b3), .val (.int (0 : Int32)), .val (.int (1 : Int32)), .unset] [(.int kd)])) (fun t_ k_ => XS.iload X13.here hx rfl (hb hby at_207) rfl  k_) ?_
            by_cases hc209 : kd = (0 : Int32)
            · refine Go.st (T' := T13) (g' := (mkF m 212 #[.val (.long p1), .second, .val (.long p2), .second, .val (.int p3), .val (.int p4), .val (.int p5), .val (.int p6), .val (.int s1), .val (.int k1), .val (.long m2), .second, .val (.int s2), .val (.int k2), .val (.int kd), .val (.ref b1), .val (.ref b3), .val (.ref b3), .val (.int (0 : Int32)), .val (.int (1 : Int32)), .unset] [])) (fun t_ k_ => XS.ifNo X13.here hx rfl (hb hby at_209) rfl ((if0 _ _).trans (teq hc209).2) k_) ?_
              refine Go.st (T' := T13) (g' := (mkF m 214 #[.val (.long p1), .second, .val (.long p2), .second, .val (.int p3), .val (.int p4), .val (.int p5), .val (.int p6), .val (.int s1), .val (.int k1), .val (.long m2), .second, .val (.int s2), .val (.int k2), .val (.int kd), .val (.ref b1), .val (.ref b3), .val (.ref b3), .val (.int (0 : Int32)), .val (.int (1 : Int32)), .unset] [(.ref b3)])) (fun t_ k_ => XS.aload X13.here hx rfl (hb hby at_212) rfl rfl k_) ?_
              refine Go.st (T' := T13) (g' := (mkF m 216 #[.val (.long p1), .second, .val (.long p2), .second, .val (.int p3), .val (.int p4), .val (.int p5), .val (.int p6), .val (.int s1), .val (.int k1), .val (.long m2), .second, .val (.int s2), .val (.int k2), .val (.int kd), .val (.ref b1), .val (.ref b3), .val (.ref b3), .val (.int (0 : Int32)), .val (.int (1 : Int32)), .unset] [(.ref b1), (.ref b3)])) (fun t_ k_ => XS.aload X13.here hx rfl (hb hby at_214) rfl rfl k_) ?_
              obtain ⟨cq14, kq14, q14a, q14b, q14c⟩ := isOf hZ e13 Eq4
              obtain ⟨_, _, ⟨T14, L14, k14, n14⟩, -, X14, ⟨Lc14, hQ14, l14, y14, z14⟩, st14⟩ := X13.virtualBack hx (y := (⟨"com/example/chronoid/chronoid/id/UniqueKey", "equals", "(Ljava/lang/Object;)Z"⟩ : MethodName)) (z := (⟨"com/example/chronoid/chronoid/id/UniqueKey", "equals", "(Ljava/lang/Object;)Z"⟩ : MethodName)) hown (mvT hZ (hw _ (List.mem_of_getElem? (i := 17) rfl))) (mvT hZ (hw _ (List.mem_of_getElem? (i := 18) rfl))) (notFace_of_selects (args := #[]) (mvT hZ (hw _ (List.mem_of_getElem? (i := 20) rfl)))) (mvT hZ (hw _ (List.mem_of_getElem? (i := 20) rfl))) (mvT hZ (hw _ (List.mem_of_getElem? (i := 19) rfl))) (by decide) (backOf (W := 0) (rm3 l Z a0 hw [] b3 b1 m2 s2 k2 p1 s1 k1 (0 : Int32) T4.heap n0 (Nat.le_trans (Nat.le_trans (Nat.le_trans (Nat.le_trans Z0 E1.1) Kq2.1) E3.1) Kq4.1) ((Exa.ext E3 Eq2).keep Kq4) F0q4 F1q4 F2q4 ((Fld.ext E3 F0q2).keep Kq4 (ninS (Nat.ne_of_lt (Nat.lt_of_lt_of_le Eq2.lt (Nat.le_of_eq q3.symm))) nin0)) ((Fld.ext E3 F1q2).keep Kq4 (ninS (Nat.ne_of_lt (Nat.lt_of_lt_of_le Eq2.lt (Nat.le_of_eq q3.symm))) nin0)) ((Fld.ext E3 F2q2).keep Kq4 (ninS (Nat.ne_of_lt (Nat.lt_of_lt_of_le Eq2.lt (Nat.le_of_eq q3.symm))) nin0)) ((if_neg (fun q => hc171 q.2.1.symm)).symm)) hZ (hw _ (List.mem_of_getElem? (i := 21) rfl)) (hw _ (List.mem_of_getElem? (i := 4) rfl)) (by decide) (by decide)) q14a q14c (g := (mkF m 216 #[.val (.long p1), .second, .val (.long p2), .second, .val (.int p3), .val (.int p4), .val (.int p5), .val (.int p6), .val (.int s1), .val (.int k1), .val (.long m2), .second, .val (.int s2), .val (.int k2), .val (.int kd), .val (.ref b1), .val (.ref b3), .val (.ref b3), .val (.int (0 : Int32)), .val (.int (1 : Int32)), .unset] [(.ref b1), (.ref b3)])) rfl (by rw [hml]; rfl) (Steps.refl _) (argsL := [(.ref b1)]) (rest := []) (lenOf pd_3 rfl) rfl (by show 2 * 0 + _ ≤ _; exact Nat.le_of_eq rfl) (hb hby at_216) (fun _ _ => ⟨rfl, e13, (by decide : 2 + 0 ≤ _), (by decide : 6 + 0 ≤ _)⟩)
              dsimp only [Pt.U, Pt.locs, Pt.cells, Pt.slots] at X14 l14 y14 z14 st14 hQ14
              subst l14 y14 z14
              obtain ⟨rfl, Nq14, e14⟩ := hQ14
              have N14 := Fr.app N13 Nq14
              refine Go.ts (T' := T14) (g' := (mkF m 219 #[.val (.long p1), .second, .val (.long p2), .second, .val (.int p3), .val (.int p4), .val (.int p5), .val (.int p6), .val (.int s1), .val (.int k1), .val (.long m2), .second, .val (.int s2), .val (.int k2), .val (.int kd), .val (.ref b1), .val (.ref b3), .val (.ref b3), .val (.int (0 : Int32)), .val (.int (1 : Int32)), .unset] [(.int (0 : Int32))])) st14 ?_
              refine Go.st (T' := T14) (g' := (mkF m 221 #[.val (.long p1), .second, .val (.long p2), .second, .val (.int p3), .val (.int p4), .val (.int p5), .val (.int p6), .val (.int s1), .val (.int k1), .val (.long m2), .second, .val (.int s2), .val (.int k2), .val (.int kd), .val (.ref b1), .val (.ref b3), .val (.ref b3), .val (.int (0 : Int32)), .val (.int (1 : Int32)), .unset] [(.int (0 : Int32)), (.int (0 : Int32))])) (fun t_ k_ => XS.iload X14.here hx rfl (hb hby at_219) rfl  k_) ?_
              refine Go.st (T' := T14) (g' := (mkF m 224 #[.val (.long p1), .second, .val (.long p2), .second, .val (.int p3), .val (.int p4), .val (.int p5), .val (.int p6), .val (.int s1), .val (.int k1), .val (.long m2), .second, .val (.int s2), .val (.int k2), .val (.int kd), .val (.ref b1), .val (.ref b3), .val (.ref b3), .val (.int (0 : Int32)), .val (.int (1 : Int32)), .unset] [])) (fun t_ k_ => XS.icmpNo X14.here hx rfl (hb hby at_221) rfl (teq (by decide)).2 k_) ?_
              refine Go.st (T' := T14) (g' := (mkF m 225 #[.val (.long p1), .second, .val (.long p2), .second, .val (.int p3), .val (.int p4), .val (.int p5), .val (.int p6), .val (.int s1), .val (.int k1), .val (.long m2), .second, .val (.int s2), .val (.int k2), .val (.int kd), .val (.ref b1), .val (.ref b3), .val (.ref b3), .val (.int (0 : Int32)), .val (.int (1 : Int32)), .unset] [(.int (1 : Int32))])) (fun t_ k_ => XS.iconst X14.here hx rfl (hb hby at_224) k_) ?_
              refine Go.st (T' := T14) (g' := (mkF m 229 #[.val (.long p1), .second, .val (.long p2), .second, .val (.int p3), .val (.int p4), .val (.int p5), .val (.int p6), .val (.int s1), .val (.int k1), .val (.long m2), .second, .val (.int s2), .val (.int k2), .val (.int kd), .val (.ref b1), .val (.ref b3), .val (.ref b3), .val (.int (0 : Int32)), .val (.int (1 : Int32)), .unset] [(.int (1 : Int32))])) (fun t_ k_ => XS.goto X14.here hx rfl (pc0 := 225) (pc' := 229) rfl (hb hby at_225) (by decide) (by decide) k_) ?_
              refine Go.st (T' := T14) (g' := (mkF m 231 #[.val (.long p1), .second, .val (.long p2), .second, .val (.int p3), .val (.int p4), .val (.int p5), .val (.int p6), .val (.int s1), .val (.int k1), .val (.long m2), .second, .val (.int s2), .val (.int k2), .val (.int kd), .val (.ref b1), .val (.ref b3), .val (.ref b3), .val (.int (0 : Int32)), .val (.int (1 : Int32)), .val (.int (1 : Int32))] [])) (fun t_ k_ => XS.istore X14.here hx rfl (hb hby at_229) rfl (l' := #[.val (.long p1), .second, .val (.long p2), .second, .val (.int p3), .val (.int p4), .val (.int p5), .val (.int p6), .val (.int s1), .val (.int k1), .val (.long m2), .second, .val (.int s2), .val (.int k2), .val (.int kd), .val (.ref b1), .val (.ref b3), .val (.ref b3), .val (.int (0 : Int32)), .val (.int (1 : Int32)), .val (.int (1 : Int32))]) rfl k_) ?_
              refine Go.st (T' := T14) (g' := (mkF m 233 #[.val (.long p1), .second, .val (.long p2), .second, .val (.int p3), .val (.int p4), .val (.int p5), .val (.int p6), .val (.int s1), .val (.int k1), .val (.long m2), .second, .val (.int s2), .val (.int k2), .val (.int kd), .val (.ref b1), .val (.ref b3), .val (.ref b3), .val (.int (0 : Int32)), .val (.int (1 : Int32)), .val (.int (1 : Int32))] [(.int (1 : Int32))])) (fun t_ k_ => XS.iload X14.here hx rfl (hb hby at_231) rfl  k_) ?_
              refine Go.st (T' := T14) (g' := (mkF m 236 #[.val (.long p1), .second, .val (.long p2), .second, .val (.int p3), .val (.int p4), .val (.int p5), .val (.int p6), .val (.int s1), .val (.int k1), .val (.long m2), .second, .val (.int s2), .val (.int k2), .val (.int kd), .val (.ref b1), .val (.ref b3), .val (.ref b3), .val (.int (0 : Int32)), .val (.int (1 : Int32)), .val (.int (1 : Int32))] [])) (fun t_ k_ => XS.ifNo X14.here hx rfl (hb hby at_233) rfl ((if0 _ _).trans (feq (by decide)).1) k_) ?_
              refine Go.st (T' := T14) (g' := (mkF m 238 #[.val (.long p1), .second, .val (.long p2), .second, .val (.int p3), .val (.int p4), .val (.int p5), .val (.int p6), .val (.int s1), .val (.int k1), .val (.long m2), .second, .val (.int s2), .val (.int k2), .val (.int kd), .val (.ref b1), .val (.ref b3), .val (.ref b3), .val (.int (0 : Int32)), .val (.int (1 : Int32)), .val (.int (1 : Int32))] [(.int (1 : Int32))])) (fun t_ k_ => XS.iload X14.here hx rfl (hb hby at_236) rfl  k_) ?_
              refine Go.st (T' := T14) (g' := (mkF m 241 #[.val (.long p1), .second, .val (.long p2), .second, .val (.int p3), .val (.int p4), .val (.int p5), .val (.int p6), .val (.int s1), .val (.int k1), .val (.long m2), .second, .val (.int s2), .val (.int k2), .val (.int kd), .val (.ref b1), .val (.ref b3), .val (.ref b3), .val (.int (0 : Int32)), .val (.int (1 : Int32)), .val (.int (1 : Int32))] [])) (fun t_ k_ => XS.ifNo X14.here hx rfl (hb hby at_238) rfl ((if0 _ _).trans (feq (by decide)).1) k_) ?_
              refine Go.st (T' := T14) (g' := (mkF m 242 #[.val (.long p1), .second, .val (.long p2), .second, .val (.int p3), .val (.int p4), .val (.int p5), .val (.int p6), .val (.int s1), .val (.int k1), .val (.long m2), .second, .val (.int s2), .val (.int k2), .val (.int kd), .val (.ref b1), .val (.ref b3), .val (.ref b3), .val (.int (0 : Int32)), .val (.int (1 : Int32)), .val (.int (1 : Int32))] [(.int (1 : Int32))])) (fun t_ k_ => XS.iconst X14.here hx rfl (hb hby at_241) k_) ?_
              refine Go.st (T' := T14) (g' := (mkF m 246 #[.val (.long p1), .second, .val (.long p2), .second, .val (.int p3), .val (.int p4), .val (.int p5), .val (.int p6), .val (.int s1), .val (.int k1), .val (.long m2), .second, .val (.int s2), .val (.int k2), .val (.int kd), .val (.ref b1), .val (.ref b3), .val (.ref b3), .val (.int (0 : Int32)), .val (.int (1 : Int32)), .val (.int (1 : Int32))] [(.int (1 : Int32))])) (fun t_ k_ => XS.goto X14.here hx rfl (pc0 := 242) (pc' := 246) rfl (hb hby at_242) (by decide) (by decide) k_) ?_
              refine Go.retB X14 hx Bd.returns hlk (t := .boolean) (by simp) (hb hby at_246) (by decide) (by decide) ?_
              rw [e14]
              exact ⟨rfl, N14⟩
            · refine Go.st (T' := T13) (g' := (mkF m 224 #[.val (.long p1), .second, .val (.long p2), .second, .val (.int p3), .val (.int p4), .val (.int p5), .val (.int p6), .val (.int s1), .val (.int k1), .val (.long m2), .second, .val (.int s2), .val (.int k2), .val (.int kd), .val (.ref b1), .val (.ref b3), .val (.ref b3), .val (.int (0 : Int32)), .val (.int (1 : Int32)), .unset] [])) (fun t_ k_ => XS.ifYes X13.here hx rfl (pc0 := 209) (pc' := 224) rfl (hb hby at_209) rfl ((if0 _ _).trans (feq hc209).2) (by decide) (by decide) k_) ?_
              refine Go.st (T' := T13) (g' := (mkF m 225 #[.val (.long p1), .second, .val (.long p2), .second, .val (.int p3), .val (.int p4), .val (.int p5), .val (.int p6), .val (.int s1), .val (.int k1), .val (.long m2), .second, .val (.int s2), .val (.int k2), .val (.int kd), .val (.ref b1), .val (.ref b3), .val (.ref b3), .val (.int (0 : Int32)), .val (.int (1 : Int32)), .unset] [(.int (1 : Int32))])) (fun t_ k_ => XS.iconst X13.here hx rfl (hb hby at_224) k_) ?_
              refine Go.st (T' := T13) (g' := (mkF m 229 #[.val (.long p1), .second, .val (.long p2), .second, .val (.int p3), .val (.int p4), .val (.int p5), .val (.int p6), .val (.int s1), .val (.int k1), .val (.long m2), .second, .val (.int s2), .val (.int k2), .val (.int kd), .val (.ref b1), .val (.ref b3), .val (.ref b3), .val (.int (0 : Int32)), .val (.int (1 : Int32)), .unset] [(.int (1 : Int32))])) (fun t_ k_ => XS.goto X13.here hx rfl (pc0 := 225) (pc' := 229) rfl (hb hby at_225) (by decide) (by decide) k_) ?_
              refine Go.st (T' := T13) (g' := (mkF m 231 #[.val (.long p1), .second, .val (.long p2), .second, .val (.int p3), .val (.int p4), .val (.int p5), .val (.int p6), .val (.int s1), .val (.int k1), .val (.long m2), .second, .val (.int s2), .val (.int k2), .val (.int kd), .val (.ref b1), .val (.ref b3), .val (.ref b3), .val (.int (0 : Int32)), .val (.int (1 : Int32)), .val (.int (1 : Int32))] [])) (fun t_ k_ => XS.istore X13.here hx rfl (hb hby at_229) rfl (l' := #[.val (.long p1), .second, .val (.long p2), .second, .val (.int p3), .val (.int p4), .val (.int p5), .val (.int p6), .val (.int s1), .val (.int k1), .val (.long m2), .second, .val (.int s2), .val (.int k2), .val (.int kd), .val (.ref b1), .val (.ref b3), .val (.ref b3), .val (.int (0 : Int32)), .val (.int (1 : Int32)), .val (.int (1 : Int32))]) rfl k_) ?_
              refine Go.st (T' := T13) (g' := (mkF m 233 #[.val (.long p1), .second, .val (.long p2), .second, .val (.int p3), .val (.int p4), .val (.int p5), .val (.int p6), .val (.int s1), .val (.int k1), .val (.long m2), .second, .val (.int s2), .val (.int k2), .val (.int kd), .val (.ref b1), .val (.ref b3), .val (.ref b3), .val (.int (0 : Int32)), .val (.int (1 : Int32)), .val (.int (1 : Int32))] [(.int (1 : Int32))])) (fun t_ k_ => XS.iload X13.here hx rfl (hb hby at_231) rfl  k_) ?_
              refine Go.st (T' := T13) (g' := (mkF m 236 #[.val (.long p1), .second, .val (.long p2), .second, .val (.int p3), .val (.int p4), .val (.int p5), .val (.int p6), .val (.int s1), .val (.int k1), .val (.long m2), .second, .val (.int s2), .val (.int k2), .val (.int kd), .val (.ref b1), .val (.ref b3), .val (.ref b3), .val (.int (0 : Int32)), .val (.int (1 : Int32)), .val (.int (1 : Int32))] [])) (fun t_ k_ => XS.ifNo X13.here hx rfl (hb hby at_233) rfl ((if0 _ _).trans (feq (by decide)).1) k_) ?_
              refine Go.st (T' := T13) (g' := (mkF m 238 #[.val (.long p1), .second, .val (.long p2), .second, .val (.int p3), .val (.int p4), .val (.int p5), .val (.int p6), .val (.int s1), .val (.int k1), .val (.long m2), .second, .val (.int s2), .val (.int k2), .val (.int kd), .val (.ref b1), .val (.ref b3), .val (.ref b3), .val (.int (0 : Int32)), .val (.int (1 : Int32)), .val (.int (1 : Int32))] [(.int (1 : Int32))])) (fun t_ k_ => XS.iload X13.here hx rfl (hb hby at_236) rfl  k_) ?_
              refine Go.st (T' := T13) (g' := (mkF m 241 #[.val (.long p1), .second, .val (.long p2), .second, .val (.int p3), .val (.int p4), .val (.int p5), .val (.int p6), .val (.int s1), .val (.int k1), .val (.long m2), .second, .val (.int s2), .val (.int k2), .val (.int kd), .val (.ref b1), .val (.ref b3), .val (.ref b3), .val (.int (0 : Int32)), .val (.int (1 : Int32)), .val (.int (1 : Int32))] [])) (fun t_ k_ => XS.ifNo X13.here hx rfl (hb hby at_238) rfl ((if0 _ _).trans (feq (by decide)).1) k_) ?_
              refine Go.st (T' := T13) (g' := (mkF m 242 #[.val (.long p1), .second, .val (.long p2), .second, .val (.int p3), .val (.int p4), .val (.int p5), .val (.int p6), .val (.int s1), .val (.int k1), .val (.long m2), .second, .val (.int s2), .val (.int k2), .val (.int kd), .val (.ref b1), .val (.ref b3), .val (.ref b3), .val (.int (0 : Int32)), .val (.int (1 : Int32)), .val (.int (1 : Int32))] [(.int (1 : Int32))])) (fun t_ k_ => XS.iconst X13.here hx rfl (hb hby at_241) k_) ?_
              refine Go.st (T' := T13) (g' := (mkF m 246 #[.val (.long p1), .second, .val (.long p2), .second, .val (.int p3), .val (.int p4), .val (.int p5), .val (.int p6), .val (.int s1), .val (.int k1), .val (.long m2), .second, .val (.int s2), .val (.int k2), .val (.int kd), .val (.ref b1), .val (.ref b3), .val (.ref b3), .val (.int (0 : Int32)), .val (.int (1 : Int32)), .val (.int (1 : Int32))] [(.int (1 : Int32))])) (fun t_ k_ => XS.goto X13.here hx rfl (pc0 := 242) (pc' := 246) rfl (hb hby at_242) (by decide) (by decide) k_) ?_
              refine Go.retB X13 hx Bd.returns hlk (t := .boolean) (by simp) (hb hby at_246) (by decide) (by decide) ?_
              rw [e13]
              exact ⟨rfl, N13⟩
        · refine Go.st (T' := T4) (g' := (mkF m 185 #[.val (.long p1), .second, .val (.long p2), .second, .val (.int p3), .val (.int p4), .val (.int p5), .val (.int p6), .val (.int s1), .val (.int k1), .val (.long m2), .second, .val (.int s2), .val (.int k2), .val (.int kd), .val (.ref b1), .val (.ref b3), .val (.ref b3), .unset, .unset, .unset] [])) (fun t_ k_ => XS.ifYes X4.here hx rfl (pc0 := 164) (pc' := 185) rfl (hb hby at_164) rfl ((if0 _ _).trans (feq (lcw_ne hc164)).2) (by decide) (by decide) k_) ?_
          refine Go.st (T' := T4) (g' := (mkF m 186 #[.val (.long p1), .second, .val (.long p2), .second, .val (.int p3), .val (.int p4), .val (.int p5), .val (.int p6), .val (.int s1), .val (.int k1), .val (.long m2), .second, .val (.int s2), .val (.int k2), .val (.int kd), .val (.ref b1), .val (.ref b3), .val (.ref b3), .unset, .unset, .unset] [(.int (0 : Int32))])) (fun t_ k_ => XS.iconst X4.here hx rfl (hb hby at_185) k_) ?_
          refine Go.st (T' := T4) (g' := (mkF m 188 #[.val (.long p1), .second, .val (.long p2), .second, .val (.int p3), .val (.int p4), .val (.int p5), .val (.int p6), .val (.int s1), .val (.int k1), .val (.long m2), .second, .val (.int s2), .val (.int k2), .val (.int kd), .val (.ref b1), .val (.ref b3), .val (.ref b3), .val (.int (0 : Int32)), .unset, .unset] [])) (fun t_ k_ => XS.istore X4.here hx rfl (hb hby at_186) rfl (l' := #[.val (.long p1), .second, .val (.long p2), .second, .val (.int p3), .val (.int p4), .val (.int p5), .val (.int p6), .val (.int s1), .val (.int k1), .val (.long m2), .second, .val (.int s2), .val (.int k2), .val (.int kd), .val (.ref b1), .val (.ref b3), .val (.ref b3), .val (.int (0 : Int32)), .unset, .unset]) rfl k_) ?_
          refine Go.st (T' := T4) (g' := (mkF m 190 #[.val (.long p1), .second, .val (.long p2), .second, .val (.int p3), .val (.int p4), .val (.int p5), .val (.int p6), .val (.int s1), .val (.int k1), .val (.long m2), .second, .val (.int s2), .val (.int k2), .val (.int kd), .val (.ref b1), .val (.ref b3), .val (.ref b3), .val (.int (0 : Int32)), .unset, .unset] [(.ref b1)])) (fun t_ k_ => XS.aload X4.here hx rfl (hb hby at_188) rfl rfl k_) ?_
          refine Go.st (T' := T4) (g' := (mkF m 192 #[.val (.long p1), .second, .val (.long p2), .second, .val (.int p3), .val (.int p4), .val (.int p5), .val (.int p6), .val (.int s1), .val (.int k1), .val (.long m2), .second, .val (.int s2), .val (.int k2), .val (.int kd), .val (.ref b1), .val (.ref b3), .val (.ref b3), .val (.int (0 : Int32)), .unset, .unset] [(.ref b3), (.ref b1)])) (fun t_ k_ => XS.aload X4.here hx rfl (hb hby at_190) rfl rfl k_) ?_
          obtain ⟨cq15, kq15, q15a, q15b, q15c⟩ := isOf hZ rfl ((Exa.ext E3 Eq2).keep Kq4)
          obtain ⟨_, _, ⟨T15, L15, k15, n15⟩, -, X15, ⟨Lc15, hQ15, l15, y15, z15⟩, st15⟩ := X4.virtualBack hx (y := (⟨"com/example/chronoid/chronoid/id/UniqueKey", "equals", "(Ljava/lang/Object;)Z"⟩ : MethodName)) (z := (⟨"com/example/chronoid/chronoid/id/UniqueKey", "equals", "(Ljava/lang/Object;)Z"⟩ : MethodName)) hown (mvT hZ (hw _ (List.mem_of_getElem? (i := 17) rfl))) (mvT hZ (hw _ (List.mem_of_getElem? (i := 18) rfl))) (notFace_of_selects (args := #[]) (mvT hZ (hw _ (List.mem_of_getElem? (i := 20) rfl)))) (mvT hZ (hw _ (List.mem_of_getElem? (i := 20) rfl))) (mvT hZ (hw _ (List.mem_of_getElem? (i := 19) rfl))) (by decide) (backOf (W := 0) (rm3 l Z a0 hw [] b1 b3 p1 s1 k1 m2 s2 k2 (0 : Int32) T4.heap n0 (Nat.le_trans (Nat.le_trans (Nat.le_trans (Nat.le_trans Z0 E1.1) Kq2.1) E3.1) Kq4.1) Eq4 ((Fld.ext E3 F0q2).keep Kq4 (ninS (Nat.ne_of_lt (Nat.lt_of_lt_of_le Eq2.lt (Nat.le_of_eq q3.symm))) nin0)) ((Fld.ext E3 F1q2).keep Kq4 (ninS (Nat.ne_of_lt (Nat.lt_of_lt_of_le Eq2.lt (Nat.le_of_eq q3.symm))) nin0)) ((Fld.ext E3 F2q2).keep Kq4 (ninS (Nat.ne_of_lt (Nat.lt_of_lt_of_le Eq2.lt (Nat.le_of_eq q3.symm))) nin0)) F0q4 F1q4 F2q4 ((if_neg (fun q => hc164 q.1)).symm)) hZ (hw _ (List.mem_of_getElem? (i := 21) rfl)) (hw _ (List.mem_of_getElem? (i := 4) rfl)) (by decide) (by decide)) q15a q15c (g := (mkF m 192 #[.val (.long p1), .second, .val (.long p2), .second, .val (.int p3), .val (.int p4), .val (.int p5), .val (.int p6), .val (.int s1), .val (.int k1), .val (.long m2), .second, .val (.int s2), .val (.int k2), .val (.int kd), .val (.ref b1), .val (.ref b3), .val (.ref b3), .val (.int (0 : Int32)), .unset, .unset] [(.ref b3), (.ref b1)])) rfl (by rw [hml]; rfl) (Steps.refl _) (argsL := [(.ref b3)]) (rest := []) (lenOf pd_3 rfl) rfl (by show 2 * 0 + _ ≤ _; exact Nat.le_of_eq rfl) (hb hby at_192) (fun _ _ => ⟨rfl, rfl, (by decide : 2 + 0 ≤ _), (by decide : 6 + 0 ≤ _)⟩)
          dsimp only [Pt.U, Pt.locs, Pt.cells, Pt.slots] at X15 l15 y15 z15 st15 hQ15
          subst l15 y15 z15
          obtain ⟨rfl, Nq15, e15⟩ := hQ15
          have N15 := Fr.app N4 Nq15
          refine Go.ts (T' := T15) (g' := (mkF m 195 #[.val (.long p1), .second, .val (.long p2), .second, .val (.int p3), .val (.int p4), .val (.int p5), .val (.int p6), .val (.int s1), .val (.int k1), .val (.long m2), .second, .val (.int s2), .val (.int k2), .val (.int kd), .val (.ref b1), .val (.ref b3), .val (.ref b3), .val (.int (0 : Int32)), .unset, .unset] [(.int (0 : Int32))])) st15 ?_
          refine Go.st (T' := T15) (g' := (mkF m 197 #[.val (.long p1), .second, .val (.long p2), .second, .val (.int p3), .val (.int p4), .val (.int p5), .val (.int p6), .val (.int s1), .val (.int k1), .val (.long m2), .second, .val (.int s2), .val (.int k2), .val (.int kd), .val (.ref b1), .val (.ref b3), .val (.ref b3), .val (.int (0 : Int32)), .unset, .unset] [(.int (0 : Int32)), (.int (0 : Int32))])) (fun t_ k_ => XS.iload X15.here hx rfl (hb hby at_195) rfl  k_) ?_
          refine Go.st (T' := T15) (g' := (mkF m 200 #[.val (.long p1), .second, .val (.long p2), .second, .val (.int p3), .val (.int p4), .val (.int p5), .val (.int p6), .val (.int s1), .val (.int k1), .val (.long m2), .second, .val (.int s2), .val (.int k2), .val (.int kd), .val (.ref b1), .val (.ref b3), .val (.ref b3), .val (.int (0 : Int32)), .unset, .unset] [])) (fun t_ k_ => XS.icmpNo X15.here hx rfl (hb hby at_197) rfl (teq (by decide)).2 k_) ?_
          refine Go.st (T' := T15) (g' := (mkF m 201 #[.val (.long p1), .second, .val (.long p2), .second, .val (.int p3), .val (.int p4), .val (.int p5), .val (.int p6), .val (.int s1), .val (.int k1), .val (.long m2), .second, .val (.int s2), .val (.int k2), .val (.int kd), .val (.ref b1), .val (.ref b3), .val (.ref b3), .val (.int (0 : Int32)), .unset, .unset] [(.int (1 : Int32))])) (fun t_ k_ => XS.iconst X15.here hx rfl (hb hby at_200) k_) ?_
          refine Go.st (T' := T15) (g' := (mkF m 205 #[.val (.long p1), .second, .val (.long p2), .second, .val (.int p3), .val (.int p4), .val (.int p5), .val (.int p6), .val (.int s1), .val (.int k1), .val (.long m2), .second, .val (.int s2), .val (.int k2), .val (.int kd), .val (.ref b1), .val (.ref b3), .val (.ref b3), .val (.int (0 : Int32)), .unset, .unset] [(.int (1 : Int32))])) (fun t_ k_ => XS.goto X15.here hx rfl (pc0 := 201) (pc' := 205) rfl (hb hby at_201) (by decide) (by decide) k_) ?_
          refine Go.st (T' := T15) (g' := (mkF m 207 #[.val (.long p1), .second, .val (.long p2), .second, .val (.int p3), .val (.int p4), .val (.int p5), .val (.int p6), .val (.int s1), .val (.int k1), .val (.long m2), .second, .val (.int s2), .val (.int k2), .val (.int kd), .val (.ref b1), .val (.ref b3), .val (.ref b3), .val (.int (0 : Int32)), .val (.int (1 : Int32)), .unset] [])) (fun t_ k_ => XS.istore X15.here hx rfl (hb hby at_205) rfl (l' := #[.val (.long p1), .second, .val (.long p2), .second, .val (.int p3), .val (.int p4), .val (.int p5), .val (.int p6), .val (.int s1), .val (.int k1), .val (.long m2), .second, .val (.int s2), .val (.int k2), .val (.int kd), .val (.ref b1), .val (.ref b3), .val (.ref b3), .val (.int (0 : Int32)), .val (.int (1 : Int32)), .unset]) rfl k_) ?_
          refine Go.st (T' := T15) (g' := (mkF m 209 #[.val (.long p1), .second, .val (.long p2), .second, .val (.int p3), .val (.int p4), .val (.int p5), .val (.int p6), .val (.int s1), .val (.int k1), .val (.long m2), .second, .val (.int s2), .val (.int k2), .val (.int kd), .val (.ref b1), .val (.ref b3), .val (.ref b3), .val (.int (0 : Int32)), .val (.int (1 : Int32)), .unset] [(.int kd)])) (fun t_ k_ => XS.iload X15.here hx rfl (hb hby at_207) rfl  k_) ?_
          by_cases hc209 : kd = (0 : Int32)
          · refine Go.st (T' := T15) (g' := (mkF m 212 #[.val (.long p1), .second, .val (.long p2), .second, .val (.int p3), .val (.int p4), .val (.int p5), .val (.int p6), .val (.int s1), .val (.int k1), .val (.long m2), .second, .val (.int s2), .val (.int k2), .val (.int kd), .val (.ref b1), .val (.ref b3), .val (.ref b3), .val (.int (0 : Int32)), .val (.int (1 : Int32)), .unset] [])) (fun t_ k_ => XS.ifNo X15.here hx rfl (hb hby at_209) rfl ((if0 _ _).trans (teq hc209).2) k_) ?_
            refine Go.st (T' := T15) (g' := (mkF m 214 #[.val (.long p1), .second, .val (.long p2), .second, .val (.int p3), .val (.int p4), .val (.int p5), .val (.int p6), .val (.int s1), .val (.int k1), .val (.long m2), .second, .val (.int s2), .val (.int k2), .val (.int kd), .val (.ref b1), .val (.ref b3), .val (.ref b3), .val (.int (0 : Int32)), .val (.int (1 : Int32)), .unset] [(.ref b3)])) (fun t_ k_ => XS.aload X15.here hx rfl (hb hby at_212) rfl rfl k_) ?_
            refine Go.st (T' := T15) (g' := (mkF m 216 #[.val (.long p1), .second, .val (.long p2), .second, .val (.int p3), .val (.int p4), .val (.int p5), .val (.int p6), .val (.int s1), .val (.int k1), .val (.long m2), .second, .val (.int s2), .val (.int k2), .val (.int kd), .val (.ref b1), .val (.ref b3), .val (.ref b3), .val (.int (0 : Int32)), .val (.int (1 : Int32)), .unset] [(.ref b1), (.ref b3)])) (fun t_ k_ => XS.aload X15.here hx rfl (hb hby at_214) rfl rfl k_) ?_
            obtain ⟨cq16, kq16, q16a, q16b, q16c⟩ := isOf hZ e15 Eq4
            obtain ⟨_, _, ⟨T16, L16, k16, n16⟩, -, X16, ⟨Lc16, hQ16, l16, y16, z16⟩, st16⟩ := X15.virtualBack hx (y := (⟨"com/example/chronoid/chronoid/id/UniqueKey", "equals", "(Ljava/lang/Object;)Z"⟩ : MethodName)) (z := (⟨"com/example/chronoid/chronoid/id/UniqueKey", "equals", "(Ljava/lang/Object;)Z"⟩ : MethodName)) hown (mvT hZ (hw _ (List.mem_of_getElem? (i := 17) rfl))) (mvT hZ (hw _ (List.mem_of_getElem? (i := 18) rfl))) (notFace_of_selects (args := #[]) (mvT hZ (hw _ (List.mem_of_getElem? (i := 20) rfl)))) (mvT hZ (hw _ (List.mem_of_getElem? (i := 20) rfl))) (mvT hZ (hw _ (List.mem_of_getElem? (i := 19) rfl))) (by decide) (backOf (W := 0) (rm3 l Z a0 hw [] b3 b1 m2 s2 k2 p1 s1 k1 (0 : Int32) T4.heap n0 (Nat.le_trans (Nat.le_trans (Nat.le_trans (Nat.le_trans Z0 E1.1) Kq2.1) E3.1) Kq4.1) ((Exa.ext E3 Eq2).keep Kq4) F0q4 F1q4 F2q4 ((Fld.ext E3 F0q2).keep Kq4 (ninS (Nat.ne_of_lt (Nat.lt_of_lt_of_le Eq2.lt (Nat.le_of_eq q3.symm))) nin0)) ((Fld.ext E3 F1q2).keep Kq4 (ninS (Nat.ne_of_lt (Nat.lt_of_lt_of_le Eq2.lt (Nat.le_of_eq q3.symm))) nin0)) ((Fld.ext E3 F2q2).keep Kq4 (ninS (Nat.ne_of_lt (Nat.lt_of_lt_of_le Eq2.lt (Nat.le_of_eq q3.symm))) nin0)) ((if_neg (fun q => hc164 q.1.symm)).symm)) hZ (hw _ (List.mem_of_getElem? (i := 21) rfl)) (hw _ (List.mem_of_getElem? (i := 4) rfl)) (by decide) (by decide)) q16a q16c (g := (mkF m 216 #[.val (.long p1), .second, .val (.long p2), .second, .val (.int p3), .val (.int p4), .val (.int p5), .val (.int p6), .val (.int s1), .val (.int k1), .val (.long m2), .second, .val (.int s2), .val (.int k2), .val (.int kd), .val (.ref b1), .val (.ref b3), .val (.ref b3), .val (.int (0 : Int32)), .val (.int (1 : Int32)), .unset] [(.ref b1), (.ref b3)])) rfl (by rw [hml]; rfl) (Steps.refl _) (argsL := [(.ref b1)]) (rest := []) (lenOf pd_3 rfl) rfl (by show 2 * 0 + _ ≤ _; exact Nat.le_of_eq rfl) (hb hby at_216) (fun _ _ => ⟨rfl, e15, (by decide : 2 + 0 ≤ _), (by decide : 6 + 0 ≤ _)⟩)
            dsimp only [Pt.U, Pt.locs, Pt.cells, Pt.slots] at X16 l16 y16 z16 st16 hQ16
            subst l16 y16 z16
            obtain ⟨rfl, Nq16, e16⟩ := hQ16
            have N16 := Fr.app N15 Nq16
            refine Go.ts (T' := T16) (g' := (mkF m 219 #[.val (.long p1), .second, .val (.long p2), .second, .val (.int p3), .val (.int p4), .val (.int p5), .val (.int p6), .val (.int s1), .val (.int k1), .val (.long m2), .second, .val (.int s2), .val (.int k2), .val (.int kd), .val (.ref b1), .val (.ref b3), .val (.ref b3), .val (.int (0 : Int32)), .val (.int (1 : Int32)), .unset] [(.int (0 : Int32))])) st16 ?_
            refine Go.st (T' := T16) (g' := (mkF m 221 #[.val (.long p1), .second, .val (.long p2), .second, .val (.int p3), .val (.int p4), .val (.int p5), .val (.int p6), .val (.int s1), .val (.int k1), .val (.long m2), .second, .val (.int s2), .val (.int k2), .val (.int kd), .val (.ref b1), .val (.ref b3), .val (.ref b3), .val (.int (0 : Int32)), .val (.int (1 : Int32)), .unset] [(.int (0 : Int32)), (.int (0 : Int32))])) (fun t_ k_ => XS.iload X16.here hx rfl (hb hby at_219) rfl  k_) ?_
            refine Go.st (T' := T16) (g' := (mkF m 224 #[.val (.long p1), .second, .val (.long p2), .second, .val (.int p3), .val (.int p4), .val (.int p5), .val (.int p6), .val (.int s1), .val (.int k1), .val (.long m2), .second, .val (.int s2), .val (.int k2), .val (.int kd), .val (.ref b1), .val (.ref b3), .val (.ref b3), .val (.int (0 : Int32)), .val (.int (1 : Int32)), .unset] [])) (fun t_ k_ => XS.icmpNo X16.here hx rfl (hb hby at_221) rfl (teq (by decide)).2 k_) ?_
            refine Go.st (T' := T16) (g' := (mkF m 225 #[.val (.long p1), .second, .val (.long p2), .second, .val (.int p3), .val (.int p4), .val (.int p5), .val (.int p6), .val (.int s1), .val (.int k1), .val (.long m2), .second, .val (.int s2), .val (.int k2), .val (.int kd), .val (.ref b1), .val (.ref b3), .val (.ref b3), .val (.int (0 : Int32)), .val (.int (1 : Int32)), .unset] [(.int (1 : Int32))])) (fun t_ k_ => XS.iconst X16.here hx rfl (hb hby at_224) k_) ?_
            refine Go.st (T' := T16) (g' := (mkF m 229 #[.val (.long p1), .second, .val (.long p2), .second, .val (.int p3), .val (.int p4), .val (.int p5), .val (.int p6), .val (.int s1), .val (.int k1), .val (.long m2), .second, .val (.int s2), .val (.int k2), .val (.int kd), .val (.ref b1), .val (.ref b3), .val (.ref b3), .val (.int (0 : Int32)), .val (.int (1 : Int32)), .unset] [(.int (1 : Int32))])) (fun t_ k_ => XS.goto X16.here hx rfl (pc0 := 225) (pc' := 229) rfl (hb hby at_225) (by decide) (by decide) k_) ?_
            refine Go.st (T' := T16) (g' := (mkF m 231 #[.val (.long p1), .second, .val (.long p2), .second, .val (.int p3), .val (.int p4), .val (.int p5), .val (.int p6), .val (.int s1), .val (.int k1), .val (.long m2), .second, .val (.int s2), .val (.int k2), .val (.int kd), .val (.ref b1), .val (.ref b3), .val (.ref b3), .val (.int (0 : Int32)), .val (.int (1 : Int32)), .val (.int (1 : Int32))] [])) (fun t_ k_ => XS.istore X16.here hx rfl (hb hby at_229) rfl (l' := #[.val (.long p1), .second, .val (.long p2), .second, .val (.int p3), .val (.int p4), .val (.int p5), .val (.int p6), .val (.int s1), .val (.int k1), .val (.long m2), .second, .val (.int s2), .val (.int k2), .val (.int kd), .val (.ref b1), .val (.ref b3), .val (.ref b3), .val (.int (0 : Int32)), .val (.int (1 : Int32)), .val (.int (1 : Int32))]) rfl k_) ?_
            refine Go.st (T' := T16) (g' := (mkF m 233 #[.val (.long p1), .second, .val (.long p2), .second, .val (.int p3), .val (.int p4), .val (.int p5), .val (.int p6), .val (.int s1), .val (.int k1), .val (.long m2), .second, .val (.int s2), .val (.int k2), .val (.int kd), .val (.ref b1), .val (.ref b3), .val (.ref b3), .val (.int (0 : Int32)), .val (.int (1 : Int32)), .val (.int (1 : Int32))] [(.int (1 : Int32))])) (fun t_ k_ => XS.iload X16.here hx rfl (hb hby at_231) rfl  k_) ?_
            refine Go.st (T' := T16) (g' := (mkF m 236 #[.val (.long p1), .second, .val (.long p2), .second, .val (.int p3), .val (.int p4), .val (.int p5), .val (.int p6), .val (.int s1), .val (.int k1), .val (.long m2), .second, .val (.int s2), .val (.int k2), .val (.int kd), .val (.ref b1), .val (.ref b3), .val (.ref b3), .val (.int (0 : Int32)), .val (.int (1 : Int32)), .val (.int (1 : Int32))] [])) (fun t_ k_ => XS.ifNo X16.here hx rfl (hb hby at_233) rfl ((if0 _ _).trans (feq (by decide)).1) k_) ?_
            refine Go.st (T' := T16) (g' := (mkF m 238 #[.val (.long p1), .second, .val (.long p2), .second, .val (.int p3), .val (.int p4), .val (.int p5), .val (.int p6), .val (.int s1), .val (.int k1), .val (.long m2), .second, .val (.int s2), .val (.int k2), .val (.int kd), .val (.ref b1), .val (.ref b3), .val (.ref b3), .val (.int (0 : Int32)), .val (.int (1 : Int32)), .val (.int (1 : Int32))] [(.int (1 : Int32))])) (fun t_ k_ => XS.iload X16.here hx rfl (hb hby at_236) rfl  k_) ?_
            refine Go.st (T' := T16) (g' := (mkF m 241 #[.val (.long p1), .second, .val (.long p2), .second, .val (.int p3), .val (.int p4), .val (.int p5), .val (.int p6), .val (.int s1), .val (.int k1), .val (.long m2), .second, .val (.int s2), .val (.int k2), .val (.int kd), .val (.ref b1), .val (.ref b3), .val (.ref b3), .val (.int (0 : Int32)), .val (.int (1 : Int32)), .val (.int (1 : Int32))] [])) (fun t_ k_ => XS.ifNo X16.here hx rfl (hb hby at_238) rfl ((if0 _ _).trans (feq (by decide)).1) k_) ?_
            refine Go.st (T' := T16) (g' := (mkF m 242 #[.val (.long p1), .second, .val (.long p2), .second, .val (.int p3), .val (.int p4), .val (.int p5), .val (.int p6), .val (.int s1), .val (.int k1), .val (.long m2), .second, .val (.int s2), .val (.int k2), .val (.int kd), .val (.ref b1), .val (.ref b3), .val (.ref b3), .val (.int (0 : Int32)), .val (.int (1 : Int32)), .val (.int (1 : Int32))] [(.int (1 : Int32))])) (fun t_ k_ => XS.iconst X16.here hx rfl (hb hby at_241) k_) ?_
            refine Go.st (T' := T16) (g' := (mkF m 246 #[.val (.long p1), .second, .val (.long p2), .second, .val (.int p3), .val (.int p4), .val (.int p5), .val (.int p6), .val (.int s1), .val (.int k1), .val (.long m2), .second, .val (.int s2), .val (.int k2), .val (.int kd), .val (.ref b1), .val (.ref b3), .val (.ref b3), .val (.int (0 : Int32)), .val (.int (1 : Int32)), .val (.int (1 : Int32))] [(.int (1 : Int32))])) (fun t_ k_ => XS.goto X16.here hx rfl (pc0 := 242) (pc' := 246) rfl (hb hby at_242) (by decide) (by decide) k_) ?_
            refine Go.retB X16 hx Bd.returns hlk (t := .boolean) (by simp) (hb hby at_246) (by decide) (by decide) ?_
            rw [e16]
            exact ⟨rfl, N16⟩
          · refine Go.st (T' := T15) (g' := (mkF m 224 #[.val (.long p1), .second, .val (.long p2), .second, .val (.int p3), .val (.int p4), .val (.int p5), .val (.int p6), .val (.int s1), .val (.int k1), .val (.long m2), .second, .val (.int s2), .val (.int k2), .val (.int kd), .val (.ref b1), .val (.ref b3), .val (.ref b3), .val (.int (0 : Int32)), .val (.int (1 : Int32)), .unset] [])) (fun t_ k_ => XS.ifYes X15.here hx rfl (pc0 := 209) (pc' := 224) rfl (hb hby at_209) rfl ((if0 _ _).trans (feq hc209).2) (by decide) (by decide) k_) ?_
            refine Go.st (T' := T15) (g' := (mkF m 225 #[.val (.long p1), .second, .val (.long p2), .second, .val (.int p3), .val (.int p4), .val (.int p5), .val (.int p6), .val (.int s1), .val (.int k1), .val (.long m2), .second, .val (.int s2), .val (.int k2), .val (.int kd), .val (.ref b1), .val (.ref b3), .val (.ref b3), .val (.int (0 : Int32)), .val (.int (1 : Int32)), .unset] [(.int (1 : Int32))])) (fun t_ k_ => XS.iconst X15.here hx rfl (hb hby at_224) k_) ?_
            refine Go.st (T' := T15) (g' := (mkF m 229 #[.val (.long p1), .second, .val (.long p2), .second, .val (.int p3), .val (.int p4), .val (.int p5), .val (.int p6), .val (.int s1), .val (.int k1), .val (.long m2), .second, .val (.int s2), .val (.int k2), .val (.int kd), .val (.ref b1), .val (.ref b3), .val (.ref b3), .val (.int (0 : Int32)), .val (.int (1 : Int32)), .unset] [(.int (1 : Int32))])) (fun t_ k_ => XS.goto X15.here hx rfl (pc0 := 225) (pc' := 229) rfl (hb hby at_225) (by decide) (by decide) k_) ?_
            refine Go.st (T' := T15) (g' := (mkF m 231 #[.val (.long p1), .second, .val (.long p2), .second, .val (.int p3), .val (.int p4), .val (.int p5), .val (.int p6), .val (.int s1), .val (.int k1), .val (.long m2), .second, .val (.int s2), .val (.int k2), .val (.int kd), .val (.ref b1), .val (.ref b3), .val (.ref b3), .val (.int (0 : Int32)), .val (.int (1 : Int32)), .val (.int (1 : Int32))] [])) (fun t_ k_ => XS.istore X15.here hx rfl (hb hby at_229) rfl (l' := #[.val (.long p1), .second, .val (.long p2), .second, .val (.int p3), .val (.int p4), .val (.int p5), .val (.int p6), .val (.int s1), .val (.int k1), .val (.long m2), .second, .val (.int s2), .val (.int k2), .val (.int kd), .val (.ref b1), .val (.ref b3), .val (.ref b3), .val (.int (0 : Int32)), .val (.int (1 : Int32)), .val (.int (1 : Int32))]) rfl k_) ?_
            refine Go.st (T' := T15) (g' := (mkF m 233 #[.val (.long p1), .second, .val (.long p2), .second, .val (.int p3), .val (.int p4), .val (.int p5), .val (.int p6), .val (.int s1), .val (.int k1), .val (.long m2), .second, .val (.int s2), .val (.int k2), .val (.int kd), .val (.ref b1), .val (.ref b3), .val (.ref b3), .val (.int (0 : Int32)), .val (.int (1 : Int32)), .val (.int (1 : Int32))] [(.int (1 : Int32))])) (fun t_ k_ => XS.iload X15.here hx rfl (hb hby at_231) rfl  k_) ?_
            refine Go.st (T' := T15) (g' := (mkF m 236 #[.val (.long p1), .second, .val (.long p2), .second, .val (.int p3), .val (.int p4), .val (.int p5), .val (.int p6), .val (.int s1), .val (.int k1), .val (.long m2), .second, .val (.int s2), .val (.int k2), .val (.int kd), .val (.ref b1), .val (.ref b3), .val (.ref b3), .val (.int (0 : Int32)), .val (.int (1 : Int32)), .val (.int (1 : Int32))] [])) (fun t_ k_ => XS.ifNo X15.here hx rfl (hb hby at_233) rfl ((if0 _ _).trans (feq (by decide)).1) k_) ?_
            refine Go.st (T' := T15) (g' := (mkF m 238 #[.val (.long p1), .second, .val (.long p2), .second, .val (.int p3), .val (.int p4), .val (.int p5), .val (.int p6), .val (.int s1), .val (.int k1), .val (.long m2), .second, .val (.int s2), .val (.int k2), .val (.int kd), .val (.ref b1), .val (.ref b3), .val (.ref b3), .val (.int (0 : Int32)), .val (.int (1 : Int32)), .val (.int (1 : Int32))] [(.int (1 : Int32))])) (fun t_ k_ => XS.iload X15.here hx rfl (hb hby at_236) rfl  k_) ?_
            refine Go.st (T' := T15) (g' := (mkF m 241 #[.val (.long p1), .second, .val (.long p2), .second, .val (.int p3), .val (.int p4), .val (.int p5), .val (.int p6), .val (.int s1), .val (.int k1), .val (.long m2), .second, .val (.int s2), .val (.int k2), .val (.int kd), .val (.ref b1), .val (.ref b3), .val (.ref b3), .val (.int (0 : Int32)), .val (.int (1 : Int32)), .val (.int (1 : Int32))] [])) (fun t_ k_ => XS.ifNo X15.here hx rfl (hb hby at_238) rfl ((if0 _ _).trans (feq (by decide)).1) k_) ?_
            refine Go.st (T' := T15) (g' := (mkF m 242 #[.val (.long p1), .second, .val (.long p2), .second, .val (.int p3), .val (.int p4), .val (.int p5), .val (.int p6), .val (.int s1), .val (.int k1), .val (.long m2), .second, .val (.int s2), .val (.int k2), .val (.int kd), .val (.ref b1), .val (.ref b3), .val (.ref b3), .val (.int (0 : Int32)), .val (.int (1 : Int32)), .val (.int (1 : Int32))] [(.int (1 : Int32))])) (fun t_ k_ => XS.iconst X15.here hx rfl (hb hby at_241) k_) ?_
            refine Go.st (T' := T15) (g' := (mkF m 246 #[.val (.long p1), .second, .val (.long p2), .second, .val (.int p3), .val (.int p4), .val (.int p5), .val (.int p6), .val (.int s1), .val (.int k1), .val (.long m2), .second, .val (.int s2), .val (.int k2), .val (.int kd), .val (.ref b1), .val (.ref b3), .val (.ref b3), .val (.int (0 : Int32)), .val (.int (1 : Int32)), .val (.int (1 : Int32))] [(.int (1 : Int32))])) (fun t_ k_ => XS.goto X15.here hx rfl (pc0 := 242) (pc' := 246) rfl (hb hby at_242) (by decide) (by decide) k_) ?_
            refine Go.retB X15 hx Bd.returns hlk (t := .boolean) (by simp) (hb hby at_246) (by decide) (by decide) ?_
            rw [e15]
            exact ⟨rfl, N15⟩
set_option maxRecDepth 65536 in
set_option maxHeartbeats 40000000 in
theorem comes_1 {Post : Tables → Env → Array Value → State → Outcome → State → Prop} (hpost : ∀ tb e args s v u, (limb_1_1.after args s (.returned v) u = true ∧ limb_1_2.after args s (.returned v) u = true ∧ True) → FrameEnd s (.returned v) u (Jvm.fieldLocs frame_1_writes args s ++ Jvm.arrayLocs frame_1_arrays args s ++ Jvm.staticLocs frame_1_statics s) 16 128 → Post tb e args s (.returned v) u) :
    ArmFor flags0 classFile x code maxLocals ret World_1 tables_1 room_1 Calls_1 rest_1 Pre_1 Post := by
  intro l hfl _ _ p e ha hc hk s m args below hf hA hF happ hP
  obtain ⟨hcalls, hrest, hpre⟩ := hP
  obtain ⟨-, -, -, hnamed, -, -, -, hat⟩ := (Spec.applies_iff hf).mp happ
  obtain ⟨hg, hn⟩ := and_e (Cond.before_iff.mp (show (Jvm.Cond.and given_1 narrow_1).before args s = true from hpre))
  obtain ⟨ga0, gar0⟩ := and_e hg
  obtain ⟨ga1, gar1⟩ := and_e gar0
  obtain ⟨ga2, gar2⟩ := and_e gar1
  obtain ⟨ga3, gar3⟩ := and_e gar2
  obtain ⟨ga4, gar4⟩ := and_e gar3
  obtain ⟨ga5, gar5⟩ := and_e gar4
  obtain ⟨v0, v1, v2, v3, v4, v5, rfl⟩ : ∃ v0 v1 v2 v3 v4 v5 : Value, args = #[v0, v1, v2, v3, v4, v5] := by
    have hs : args.size = 6 := by simpa [Cond.value, given_1] using ga0
    obtain ⟨L⟩ := args
    match L, hs with
    | [v0, v1, v2, v3, v4, v5], _ => exact ⟨v0, v1, v2, v3, v4, v5, rfl⟩
  have hw := fun d (hd : d ∈ tables_1) => atoms_spec (ws := Jvm.Cond.code x code maxLocals ret :: tables_1) hat d (List.mem_cons_of_mem _ hd)
  have hfit : Fit s := fun {y c} hc i hi => by
    obtain ⟨ha, rfl⟩ := Array.getElem?_eq_some_iff.mp hc
    have q := List.all_eq_true.mp ((Array.all_eq_true_iff_forall_mem.mp hF) _ (Array.getElem_mem ha)) i (List.mem_range.mpr hi)
    simpa [Array.getElem?_eq_getElem hi] using q
  obtain ⟨i0, ei0⟩ := isL_v ga1
  obtain rfl : v0 = (.long i0) := Option.some.inj ei0
  obtain ⟨i1, ei1⟩ := isL_v ga2
  obtain rfl : v1 = (.long i1) := Option.some.inj ei1
  obtain ⟨i2, ei2⟩ := is_v ga3
  obtain rfl : v2 = (.int i2) := Option.some.inj ei2
  obtain ⟨i3, ei3⟩ := is_v ga4
  obtain rfl : v3 = (.int i3) := Option.some.inj ei3
  obtain ⟨i4, ei4⟩ := is_v ga5
  obtain rfl : v4 = (.int i4) := Option.some.inj ei4
  obtain ⟨i5, ei5⟩ := is_v gar5
  obtain rfl : v5 = (.int i5) := Option.some.inj ei5
  obtain ⟨hsets, hown0⟩ := atoms_of _ (rest_1_c_eq ▸ (show rest_1_c.before _ s = true from hrest))
  obtain ⟨ar, ev_c⟩ := arr_v (Cond.before_iff.mp (hsets _ (List.mem_of_getElem? (i := 4) rfl)))
  have S_c := Sta.start ev_c (Or.inr ⟨(hw _ (List.mem_of_getElem? (i := 29) rfl)), (hsets _ (List.mem_of_getElem? (i := 2) rfl))⟩)
  obtain ⟨cl, A_c⟩ := Arr.start ev_c (Cond.before_iff.mp (hsets _ (List.mem_of_getElem? (i := 4) rfl)))
  have z_c := own_256 ev_c A_c (hsets _ (List.mem_of_getElem? (i := 6) rfl))
  have hb_c := own_cache ev_c A_c (Cond.before_iff.mp (hsets _ (List.mem_of_getElem? (i := 7) rfl)))
  have S_h := Sta.start (eqI_v (Cond.before_iff.mp (hsets _ (List.mem_of_getElem? (i := 3) rfl)))) (Or.inr ⟨(hw _ (List.mem_of_getElem? (i := 29) rfl)), (hsets _ (List.mem_of_getElem? (i := 0) rfl))⟩)
  obtain ⟨n, o, h1, h2, h3, _, L, rfl, ⟨rfl, N⟩, hq⟩ := rm0 l s _ hw tables_1 i0 i1 i2 i3 i4 i5 ar cl s.heap s.heap.size (Nat.le_refl _) (Old.start s) S_h S_c A_c z_c hb_c p e ha hc hk s m _ below hf ((Spec.applies_iff_loose hf).mp happ).1 ⟨rfl, State.Warmed39.refl s, rfl⟩ trivial
  refine ⟨n, _, h1, h2, h3, hpost _ _ _ _ _ _ ⟨Cond.after_iff.mpr rfl, Cond.after_iff.mpr (eq_i res_at (Term.int_eval (1)) rfl), trivial⟩ ⟨hq.1, hq.2.1, (hq.2.2.sift fun y hy => Or.inr (N y hy)).mono (by decide) (by decide)⟩⟩
theorem main_1_1 : Claimed_1_1 := comes_1 fun _ _ _ _ _ _ h hF => ⟨h.1, hF⟩
theorem main_1_2 : Claimed_1_2 := comes_1 fun _ _ _ _ _ _ h hF => ⟨h.2.1, hF⟩
end Jvm.Pilot.@@N@@
namespace Jvm.Pilot.@@N@@
open Jvm Jvm.ClassFile Sem Op Lib Jvm.Free Jvm.Stand Jvm.Pilot.@@N@@.Jvm.D
/-! MADE BY PROGRAM (witnessworld.py) out of the Statement's table words and the real class files: 16 classes; the members and pool entries that the words name. The judged class is class 1, her method 1. -/
namespace start1
open Jvm.ClassFile
def u (s : String) : CpInfo := .utf8 (stringToUtf16 s)
/-- a pool by its gaps: so many unusable entries, then the entry; so many at the end -/
def gap : Nat → List CpInfo → List CpInfo
  | 0, r => r
  | n + 1, r => .unusable :: gap n r
def poolList (es : List (Nat × CpInfo)) (last : Nat) : List CpInfo := es.foldr (fun e r => gap e.1 (e.2 :: r)) (gap last [])
def pool (es : List (Nat × CpInfo)) (last : Nat) : Array CpInfo := ⟨poolList es last⟩
def fileOf (pool : Array CpInfo) (this : Nat) (attrs : Array Attribute := #[]) (ms : Array MethodInfo := #[]) (fl : Nat := 33) (sup : Nat := 0) (ifs : Array Nat := #[]) (fds : Array FieldInfo := #[]) : ClassFile where
  minorVersion := 0
  majorVersion := 65
  constantPool := pool
  accessFlags := fl
  thisClass := this
  superClass := sup
  interfaces := ifs
  fields := fds
  methods := ms
  attributes := attrs
def plain (name : String) (sup : Option ClassId) : Class where
  name := name
  kind := .ordinary
  loader := none
  accessFlags := 33
  super := sup
  interfaces := #[]
  cf := none
  fields := #[]
  methods := #[]
  instanceTypes := #[]
  staticTypes := #[]
  resolved := #[]
  callSites := []
  init := .initialized
  statics := none
  mirror := none

def pool0 : Array CpInfo := pool [(5, u "<init>"), (0, u "()V"), (1, .class_ 10), (1, u "java/lang/Object")] 113

def k0c0 : Code := { maxStack := 0, maxLocals := 1, code := object_method_1_code, exceptionTable := #[], attributes := #[] }
def k0m0 : Method := { name := "<init>", desc := "()V", sig := { parameters := [], returnType := none }, accessFlags := 1, code := some k0c0 }
/-- java/lang/Object -/
def k0 : Class := { plain "java/lang/Object" none with
  accessFlags := 33
  interfaces := #[]
  cf := some (fileOf pool0 8 #[] #[{ accessFlags := 1, nameIndex := 5, descriptorIndex := 6, attributes := #[] }] 33 0 #[] #[])
  fields := #[]
  methods := #[k0m0]
  instanceTypes := #[]
  staticTypes := #[]
  resolved := Array.replicate 124 none
  statics := none }

def pool1 : Array CpInfo := pool [(2, .class_ 4), (1, u "java/lang/Object"), (0, u "<init>"), (0, u "()V"), (0, .integer 16777215), (0, .integer 65535), (0, .class_ 10), (0, u "com/example/chronoid/chronoid/id/UniqueKey"), (0, .methodref 9 12), (0, .nameAndType 5 13), (0, u "(JII)V"), (0, .methodref 15 16), (0, .class_ 17), (0, .nameAndType 18 19), (0, u "java/lang/Integer"), (0, u "valueOf"), (0, u "(I)Ljava/lang/Integer;"), (0, .methodref 9 21), (0, .nameAndType 22 23), (0, u "equals"), (0, u "(Ljava/lang/Object;)Z"), (0, .class_ 25), (0, u "com/example/chronoid/chronoid/id/UniqueKeyEqualsPinLaw"), (2, u "law"), (0, u "(JJIIII)Z")] 3

def k1m0 : Method := { name := "<init>", desc := "()V", sig := { parameters := [], returnType := none }, accessFlags := 1, code := none }
def k1c1 : Code := { maxStack := 6, maxLocals := 21, code := code, exceptionTable := #[], attributes := #[] }
def k1m1 : Method := { name := "law", desc := "(JJIIII)Z", sig := { parameters := [.long, .long, .int, .int, .int, .int], returnType := some .boolean }, accessFlags := 9, code := some k1c1 }
/-- com/example/chronoid/chronoid/id/UniqueKeyEqualsPinLaw -/
def k1 : Class := { plain "com/example/chronoid/chronoid/id/UniqueKeyEqualsPinLaw" (some 0) with
  accessFlags := 49
  interfaces := #[]
  cf := some (fileOf pool1 24 #[] #[{ accessFlags := 1, nameIndex := 5, descriptorIndex := 6, attributes := #[] }, { accessFlags := 9, nameIndex := 28, descriptorIndex := 29, attributes := #[] }] 49 2 #[] #[])
  fields := #[]
  methods := #[k1m0, k1m1]
  instanceTypes := #[]
  staticTypes := #[]
  resolved := Array.replicate 33 none
  statics := none }

def pool2 : Array CpInfo := pool [(1, .methodref 2 3), (0, .class_ 4), (0, .nameAndType 5 6), (0, u "java/lang/Object"), (0, u "<init>"), (0, u "()V"), (0, .fieldref 8 9), (0, .class_ 10), (0, .nameAndType 11 12), (0, u "com/example/chronoid/chronoid/id/UniqueKey"), (0, u "microseconds"), (0, u "J"), (0, .fieldref 8 14), (0, .nameAndType 15 16), (0, u "sequence"), (0, u "I"), (0, .fieldref 8 18), (0, .nameAndType 19 16), (0, u "member"), (33, u "(JII)V"), (43, u "LENGTH"), (2, u "MAX_SEQUENCE"), (1, u "MAX_MEMBER"), (6, u "equals"), (0, u "(Ljava/lang/Object;)Z")] 3

def k2c0 : Code := { maxStack := 3, maxLocals := 5, code := prog_10_method_1_code, exceptionTable := #[], attributes := #[] }
def k2m0 : Method := { name := "<init>", desc := "(JII)V", sig := { parameters := [.long, .int, .int], returnType := none }, accessFlags := 0, code := some k2c0 }
def k2c1 : Code := { maxStack := 4, maxLocals := 3, code := prog_10_method_7_code, exceptionTable := #[], attributes := #[] }
def k2m1 : Method := { name := "equals", desc := "(Ljava/lang/Object;)Z", sig := { parameters := [(.object "java/lang/Object")], returnType := some .boolean }, accessFlags := 1, code := some k2c1 }
/-- com/example/chronoid/chronoid/id/UniqueKey -/
def k2 : Class := { plain "com/example/chronoid/chronoid/id/UniqueKey" (some 0) with
  accessFlags := 49
  interfaces := #[]
  cf := some (fileOf pool2 8 #[] #[{ accessFlags := 0, nameIndex := 5, descriptorIndex := 53, attributes := #[] }, { accessFlags := 1, nameIndex := 109, descriptorIndex := 110, attributes := #[] }] 49 2 #[] #[{ accessFlags := 25, nameIndex := 97, descriptorIndex := 16, attributes := #[] }, { accessFlags := 24, nameIndex := 100, descriptorIndex := 16, attributes := #[] }, { accessFlags := 24, nameIndex := 102, descriptorIndex := 16, attributes := #[] }, { accessFlags := 18, nameIndex := 11, descriptorIndex := 12, attributes := #[] }, { accessFlags := 18, nameIndex := 15, descriptorIndex := 16, attributes := #[] }, { accessFlags := 18, nameIndex := 19, descriptorIndex := 16, attributes := #[] }])
  fields := #[{ name := "LENGTH", type := .int, accessFlags := 25, slot := 0, constantValue := 0 }, { name := "MAX_SEQUENCE", type := .int, accessFlags := 24, slot := 1, constantValue := 0 }, { name := "MAX_MEMBER", type := .int, accessFlags := 24, slot := 2, constantValue := 0 }, { name := "microseconds", type := .long, accessFlags := 18, slot := 0, constantValue := 0 }, { name := "sequence", type := .int, accessFlags := 18, slot := 1, constantValue := 0 }, { name := "member", type := .int, accessFlags := 18, slot := 2, constantValue := 0 }]
  methods := #[k2m0, k2m1]
  instanceTypes := #[.long, .int, .int]
  staticTypes := #[.int, .int, .int]
  resolved := Array.replicate 114 none
  statics := none }

def pool3 : Array CpInfo := pool [(1, .class_ 2), (0, u "java/io/Serializable"), (0, .class_ 4), (0, u "java/lang/Object")] 2

/-- java/io/Serializable -/
def k3 : Class := { plain "java/io/Serializable" (some 0) with
  accessFlags := 1537
  interfaces := #[]
  cf := some (fileOf pool3 1 #[] #[] 1537 3 #[] #[])
  fields := #[]
  methods := #[]
  instanceTypes := #[]
  staticTypes := #[]
  resolved := Array.replicate 7 none
  statics := none }

def pool4 : Array CpInfo := pool [(1, .methodref 2 3), (0, .class_ 4), (0, .nameAndType 5 6), (0, u "java/lang/Object"), (0, u "<init>"), (0, u "()V"), (1, .class_ 10), (1, u "java/lang/Number"), (2, .class_ 14), (0, u "java/io/Serializable"), (0, u "serialVersionUID"), (0, u "J")] 20

def k4c0 : Code := { maxStack := 1, maxLocals := 1, code := jdk_18_method_1_code, exceptionTable := #[], attributes := #[] }
def k4m0 : Method := { name := "<init>", desc := "()V", sig := { parameters := [], returnType := none }, accessFlags := 1, code := some k4c0 }
/-- java/lang/Number -/
def k4 : Class := { plain "java/lang/Number" (some 0) with
  accessFlags := 1057
  interfaces := #[3]
  cf := some (fileOf pool4 8 #[] #[{ accessFlags := 1, nameIndex := 5, descriptorIndex := 6, attributes := #[] }] 1057 2 #[13] #[{ accessFlags := 26, nameIndex := 15, descriptorIndex := 16, attributes := #[] }])
  fields := #[{ name := "serialVersionUID", type := .long, accessFlags := 26, slot := 0, constantValue := 0 }]
  methods := #[k4m0]
  instanceTypes := #[]
  staticTypes := #[.long]
  resolved := Array.replicate 37 none
  statics := none }

def pool5 : Array CpInfo := pool [(1, .class_ 2), (0, u "java/lang/Comparable"), (0, .class_ 4), (0, u "java/lang/Object")] 7

/-- java/lang/Comparable -/
def k5 : Class := { plain "java/lang/Comparable" (some 0) with
  accessFlags := 1537
  interfaces := #[]
  cf := some (fileOf pool5 1 #[] #[] 1537 3 #[] #[])
  fields := #[]
  methods := #[]
  instanceTypes := #[]
  staticTypes := #[]
  resolved := Array.replicate 12 none
  statics := none }

def pool6 : Array CpInfo := pool [(1, .class_ 2), (0, u "java/lang/constant/Constable"), (0, .class_ 4), (0, u "java/lang/Object")] 6

/-- java/lang/constant/Constable -/
def k6 : Class := { plain "java/lang/constant/Constable" (some 0) with
  accessFlags := 1537
  interfaces := #[]
  cf := some (fileOf pool6 1 #[] #[] 1537 3 #[] #[])
  fields := #[]
  methods := #[]
  instanceTypes := #[]
  staticTypes := #[]
  resolved := Array.replicate 11 none
  statics := none }

def pool7 : Array CpInfo := pool [(1, .class_ 2), (0, u "java/lang/constant/ConstantDesc"), (0, .class_ 4), (0, u "java/lang/Object")] 32

/-- java/lang/constant/ConstantDesc -/
def k7 : Class := { plain "java/lang/constant/ConstantDesc" (some 0) with
  accessFlags := 1537
  interfaces := #[]
  cf := some (fileOf pool7 1 #[] #[] 1537 3 #[] #[])
  fields := #[]
  methods := #[]
  instanceTypes := #[]
  staticTypes := #[]
  resolved := Array.replicate 37 none
  statics := none }

def pool8 : Array CpInfo := pool [(1, .class_ 2), (0, u "java/lang/Integer"), (16, u "digits"), (0, u "[C"), (46, u "<init>"), (17, u "DigitOnes"), (0, u "[B"), (2, u "DigitTens"), (10, .nameAndType 67 101), (0, u "()V"), (85, u "valueOf"), (0, u "(I)Ljava/lang/Integer;"), (0, .class_ 190), (0, u "java/lang/Integer$IntegerCache"), (0, .fieldref 189 192), (0, .nameAndType 193 194), (0, u "high"), (0, u "I"), (0, .fieldref 189 196), (0, .nameAndType 197 198), (0, u "cache"), (0, u "[Ljava/lang/Integer;"), (0, .methodref 1 200), (0, .nameAndType 67 201), (0, u "(I)V"), (0, .methodref 203 100), (0, .class_ 204), (0, u "java/lang/Number"), (0, .fieldref 1 206), (0, .nameAndType 207 194), (0, u "value"), (94, u "TYPE"), (0, u "Ljava/lang/Class;"), (0, .class_ 305), (0, u "java/lang/Comparable"), (0, .class_ 307), (0, u "java/lang/constant/Constable"), (0, .class_ 309), (0, u "java/lang/constant/ConstantDesc"), (0, u "MIN_VALUE"), (1, u "MAX_VALUE"), (3, u "SIZE"), (1, u "BYTES"), (1, u "serialVersionUID"), (0, u "J")] 131

def k8c0 : Code := { maxStack := 3, maxLocals := 1, code := jdk_33_method_22_code, exceptionTable := #[], attributes := #[] }
def k8m0 : Method := { name := "valueOf", desc := "(I)Ljava/lang/Integer;", sig := { parameters := [.int], returnType := some (.object "java/lang/Integer") }, accessFlags := 9, code := some k8c0 }
def k8c1 : Code := { maxStack := 2, maxLocals := 2, code := jdk_33_method_23_code, exceptionTable := #[], attributes := #[] }
def k8m1 : Method := { name := "<init>", desc := "(I)V", sig := { parameters := [.int], returnType := none }, accessFlags := 1, code := some k8c1 }
/-- java/lang/Integer -/
def k8 : Class := { plain "java/lang/Integer" (some 4) with
  accessFlags := 49
  interfaces := #[5, 6, 7]
  cf := some (fileOf pool8 1 #[.nestMembers #[189]] #[{ accessFlags := 9, nameIndex := 187, descriptorIndex := 188, attributes := #[] }, { accessFlags := 1, nameIndex := 67, descriptorIndex := 201, attributes := #[] }] 49 203 #[304, 306, 308] #[{ accessFlags := 25, nameIndex := 310, descriptorIndex := 194, attributes := #[] }, { accessFlags := 25, nameIndex := 312, descriptorIndex := 194, attributes := #[] }, { accessFlags := 25, nameIndex := 302, descriptorIndex := 303, attributes := #[] }, { accessFlags := 24, nameIndex := 19, descriptorIndex := 20, attributes := #[] }, { accessFlags := 24, nameIndex := 89, descriptorIndex := 86, attributes := #[] }, { accessFlags := 24, nameIndex := 85, descriptorIndex := 86, attributes := #[] }, { accessFlags := 18, nameIndex := 207, descriptorIndex := 194, attributes := #[] }, { accessFlags := 25, nameIndex := 316, descriptorIndex := 194, attributes := #[] }, { accessFlags := 25, nameIndex := 318, descriptorIndex := 194, attributes := #[] }, { accessFlags := 26, nameIndex := 320, descriptorIndex := 321, attributes := #[] }])
  fields := #[{ name := "MIN_VALUE", type := .int, accessFlags := 25, slot := 0, constantValue := 0 }, { name := "MAX_VALUE", type := .int, accessFlags := 25, slot := 1, constantValue := 0 }, { name := "TYPE", type := (.object "java/lang/Class"), accessFlags := 25, slot := 2, constantValue := 0 }, { name := "digits", type := (.array .char), accessFlags := 24, slot := 3, constantValue := 0 }, { name := "DigitTens", type := (.array .byte), accessFlags := 24, slot := 4, constantValue := 0 }, { name := "DigitOnes", type := (.array .byte), accessFlags := 24, slot := 5, constantValue := 0 }, { name := "value", type := .int, accessFlags := 18, slot := 0, constantValue := 0 }, { name := "SIZE", type := .int, accessFlags := 25, slot := 6, constantValue := 0 }, { name := "BYTES", type := .int, accessFlags := 25, slot := 7, constantValue := 0 }, { name := "serialVersionUID", type := .long, accessFlags := 26, slot := 8, constantValue := 0 }]
  methods := #[k8m0, k8m1]
  instanceTypes := #[.int]
  staticTypes := #[.int, .int, (.object "java/lang/Class"), (.array .char), (.array .byte), (.array .byte), .int, .int, .long]
  resolved := Array.replicate 453 none
  statics := none }

def pool9 : Array CpInfo := pool [(2, .class_ 4), (1, u "java/lang/Object"), (0, u "<init>"), (0, u "()V"), (0, .class_ 8), (0, u "java/lang/Integer"), (7, .class_ 18), (1, u "java/lang/Integer$IntegerCache"), (0, u "$assertionsDisabled"), (0, u "Z"), (26, u "high"), (0, u "I"), (8, u "archivedCache"), (0, u "[Ljava/lang/Integer;"), (12, u "cache"), (0, u "low")] 27

def k9m0 : Method := { name := "<init>", desc := "()V", sig := { parameters := [], returnType := none }, accessFlags := 2, code := none }
/-- java/lang/Integer$IntegerCache -/
def k9 : Class := { plain "java/lang/Integer$IntegerCache" (some 0) with
  accessFlags := 48
  interfaces := #[]
  cf := some (fileOf pool9 16 #[.nestHost 7] #[{ accessFlags := 2, nameIndex := 5, descriptorIndex := 6, attributes := #[] }] 48 2 #[] #[{ accessFlags := 24, nameIndex := 72, descriptorIndex := 48, attributes := #[] }, { accessFlags := 24, nameIndex := 47, descriptorIndex := 48, attributes := #[] }, { accessFlags := 24, nameIndex := 71, descriptorIndex := 58, attributes := #[] }, { accessFlags := 8, nameIndex := 57, descriptorIndex := 58, attributes := #[] }, { accessFlags := 4120, nameIndex := 19, descriptorIndex := 20, attributes := #[] }])
  fields := #[{ name := "low", type := .int, accessFlags := 24, slot := 0, constantValue := 0 }, { name := "high", type := .int, accessFlags := 24, slot := 1, constantValue := 0 }, { name := "cache", type := (.array (.object "java/lang/Integer")), accessFlags := 24, slot := 2, constantValue := 0 }, { name := "archivedCache", type := (.array (.object "java/lang/Integer")), accessFlags := 8, slot := 3, constantValue := 0 }, { name := "$assertionsDisabled", type := .boolean, accessFlags := 4120, slot := 4, constantValue := 0 }]
  methods := #[k9m0]
  instanceTypes := #[]
  staticTypes := #[.int, .int, (.array (.object "java/lang/Integer")), (.array (.object "java/lang/Integer")), .boolean]
  resolved := Array.replicate 100 none
  statics := some 0 }

def pool10 : Array CpInfo := pool [(1, u "java/lang/Cloneable"), (0, .class_ 1), (0, u "java/lang/Object"), (0, .class_ 3)] 3

/-- java/lang/Cloneable -/
def k10 : Class := { plain "java/lang/Cloneable" (some 0) with
  accessFlags := 1537
  interfaces := #[]
  cf := some (fileOf pool10 2 #[] #[] 1537 4 #[] #[])
  fields := #[]
  methods := #[]
  instanceTypes := #[]
  staticTypes := #[]
  resolved := Array.replicate 8 none
  statics := none }

/-- the primitive byte -/
def k11 : Class := { plain "byte" none with kind := .primitive 'B', accessFlags := 0x411 }
/-- [B -/
def k12 : Class := { plain "[B" (some 0) with kind := .array 11 .byte, interfaces := #[10, 3], accessFlags := 1041 }

/-- the primitive int -/
def k13 : Class := { plain "int" none with kind := .primitive 'I', accessFlags := 0x411 }
/-- [I -/
def k14 : Class := { plain "[I" (some 0) with kind := .array 13 .int, interfaces := #[10, 3], accessFlags := 1041 }

/-- [Ljava/lang/Integer; -/
def k15 : Class := { plain "[Ljava/lang/Integer;" (some 0) with kind := .array 8 (.object "java/lang/Integer"), interfaces := #[10, 3], accessFlags := 1041 }

def heap : Heap := #[{ cls := 9, slots := #[.int 0, .int 127, .ref 1, .null, .int 0], vm := .statics 9 },
  { cls := 15, slots := #[.ref 2, .ref 3, .ref 4, .ref 5, .ref 6, .ref 7, .ref 8, .ref 9, .ref 10, .ref 11, .ref 12, .ref 13, .ref 14, .ref 15, .ref 16, .ref 17, .ref 18, .ref 19, .ref 20, .ref 21, .ref 22, .ref 23, .ref 24, .ref 25, .ref 26, .ref 27, .ref 28, .ref 29, .ref 30, .ref 31, .ref 32, .ref 33, .ref 34, .ref 35, .ref 36, .ref 37, .ref 38, .ref 39, .ref 40, .ref 41, .ref 42, .ref 43, .ref 44, .ref 45, .ref 46, .ref 47, .ref 48, .ref 49, .ref 50, .ref 51, .ref 52, .ref 53, .ref 54, .ref 55, .ref 56, .ref 57, .ref 58, .ref 59, .ref 60, .ref 61, .ref 62, .ref 63, .ref 64, .ref 65, .ref 66, .ref 67, .ref 68, .ref 69, .ref 70, .ref 71, .ref 72, .ref 73, .ref 74, .ref 75, .ref 76, .ref 77, .ref 78, .ref 79, .ref 80, .ref 81, .ref 82, .ref 83, .ref 84, .ref 85, .ref 86, .ref 87, .ref 88, .ref 89, .ref 90, .ref 91, .ref 92, .ref 93, .ref 94, .ref 95, .ref 96, .ref 97, .ref 98, .ref 99, .ref 100, .ref 101, .ref 102, .ref 103, .ref 104, .ref 105, .ref 106, .ref 107, .ref 108, .ref 109, .ref 110, .ref 111, .ref 112, .ref 113, .ref 114, .ref 115, .ref 116, .ref 117, .ref 118, .ref 119, .ref 120, .ref 121, .ref 122, .ref 123, .ref 124, .ref 125, .ref 126, .ref 127, .ref 128, .ref 129, .ref 130, .ref 131, .ref 132, .ref 133, .ref 134, .ref 135, .ref 136, .ref 137, .ref 138, .ref 139, .ref 140, .ref 141, .ref 142, .ref 143, .ref 144, .ref 145, .ref 146, .ref 147, .ref 148, .ref 149, .ref 150, .ref 151, .ref 152, .ref 153, .ref 154, .ref 155, .ref 156, .ref 157, .ref 158, .ref 159, .ref 160, .ref 161, .ref 162, .ref 163, .ref 164, .ref 165, .ref 166, .ref 167, .ref 168, .ref 169, .ref 170, .ref 171, .ref 172, .ref 173, .ref 174, .ref 175, .ref 176, .ref 177, .ref 178, .ref 179, .ref 180, .ref 181, .ref 182, .ref 183, .ref 184, .ref 185, .ref 186, .ref 187, .ref 188, .ref 189, .ref 190, .ref 191, .ref 192, .ref 193, .ref 194, .ref 195, .ref 196, .ref 197, .ref 198, .ref 199, .ref 200, .ref 201, .ref 202, .ref 203, .ref 204, .ref 205, .ref 206, .ref 207, .ref 208, .ref 209, .ref 210, .ref 211, .ref 212, .ref 213, .ref 214, .ref 215, .ref 216, .ref 217, .ref 218, .ref 219, .ref 220, .ref 221, .ref 222, .ref 223, .ref 224, .ref 225, .ref 226, .ref 227, .ref 228, .ref 229, .ref 230, .ref 231, .ref 232, .ref 233, .ref 234, .ref 235, .ref 236, .ref 237, .ref 238, .ref 239, .ref 240, .ref 241, .ref 242, .ref 243, .ref 244, .ref 245, .ref 246, .ref 247, .ref 248, .ref 249, .ref 250, .ref 251, .ref 252, .ref 253, .ref 254, .ref 255, .ref 256, .ref 257], vm := .none },
  { cls := 8, slots := #[.int (-128)], vm := .none },
  { cls := 8, slots := #[.int (-127)], vm := .none },
  { cls := 8, slots := #[.int (-126)], vm := .none },
  { cls := 8, slots := #[.int (-125)], vm := .none },
  { cls := 8, slots := #[.int (-124)], vm := .none },
  { cls := 8, slots := #[.int (-123)], vm := .none },
  { cls := 8, slots := #[.int (-122)], vm := .none },
  { cls := 8, slots := #[.int (-121)], vm := .none },
  { cls := 8, slots := #[.int (-120)], vm := .none },
  { cls := 8, slots := #[.int (-119)], vm := .none },
  { cls := 8, slots := #[.int (-118)], vm := .none },
  { cls := 8, slots := #[.int (-117)], vm := .none },
  { cls := 8, slots := #[.int (-116)], vm := .none },
  { cls := 8, slots := #[.int (-115)], vm := .none },
  { cls := 8, slots := #[.int (-114)], vm := .none },
  { cls := 8, slots := #[.int (-113)], vm := .none },
  { cls := 8, slots := #[.int (-112)], vm := .none },
  { cls := 8, slots := #[.int (-111)], vm := .none },
  { cls := 8, slots := #[.int (-110)], vm := .none },
  { cls := 8, slots := #[.int (-109)], vm := .none },
  { cls := 8, slots := #[.int (-108)], vm := .none },
  { cls := 8, slots := #[.int (-107)], vm := .none },
  { cls := 8, slots := #[.int (-106)], vm := .none },
  { cls := 8, slots := #[.int (-105)], vm := .none },
  { cls := 8, slots := #[.int (-104)], vm := .none },
  { cls := 8, slots := #[.int (-103)], vm := .none },
  { cls := 8, slots := #[.int (-102)], vm := .none },
  { cls := 8, slots := #[.int (-101)], vm := .none },
  { cls := 8, slots := #[.int (-100)], vm := .none },
  { cls := 8, slots := #[.int (-99)], vm := .none },
  { cls := 8, slots := #[.int (-98)], vm := .none },
  { cls := 8, slots := #[.int (-97)], vm := .none },
  { cls := 8, slots := #[.int (-96)], vm := .none },
  { cls := 8, slots := #[.int (-95)], vm := .none },
  { cls := 8, slots := #[.int (-94)], vm := .none },
  { cls := 8, slots := #[.int (-93)], vm := .none },
  { cls := 8, slots := #[.int (-92)], vm := .none },
  { cls := 8, slots := #[.int (-91)], vm := .none },
  { cls := 8, slots := #[.int (-90)], vm := .none },
  { cls := 8, slots := #[.int (-89)], vm := .none },
  { cls := 8, slots := #[.int (-88)], vm := .none },
  { cls := 8, slots := #[.int (-87)], vm := .none },
  { cls := 8, slots := #[.int (-86)], vm := .none },
  { cls := 8, slots := #[.int (-85)], vm := .none },
  { cls := 8, slots := #[.int (-84)], vm := .none },
  { cls := 8, slots := #[.int (-83)], vm := .none },
  { cls := 8, slots := #[.int (-82)], vm := .none },
  { cls := 8, slots := #[.int (-81)], vm := .none },
  { cls := 8, slots := #[.int (-80)], vm := .none },
  { cls := 8, slots := #[.int (-79)], vm := .none },
  { cls := 8, slots := #[.int (-78)], vm := .none },
  { cls := 8, slots := #[.int (-77)], vm := .none },
  { cls := 8, slots := #[.int (-76)], vm := .none },
  { cls := 8, slots := #[.int (-75)], vm := .none },
  { cls := 8, slots := #[.int (-74)], vm := .none },
  { cls := 8, slots := #[.int (-73)], vm := .none },
  { cls := 8, slots := #[.int (-72)], vm := .none },
  { cls := 8, slots := #[.int (-71)], vm := .none },
  { cls := 8, slots := #[.int (-70)], vm := .none },
  { cls := 8, slots := #[.int (-69)], vm := .none },
  { cls := 8, slots := #[.int (-68)], vm := .none },
  { cls := 8, slots := #[.int (-67)], vm := .none },
  { cls := 8, slots := #[.int (-66)], vm := .none },
  { cls := 8, slots := #[.int (-65)], vm := .none },
  { cls := 8, slots := #[.int (-64)], vm := .none },
  { cls := 8, slots := #[.int (-63)], vm := .none },
  { cls := 8, slots := #[.int (-62)], vm := .none },
  { cls := 8, slots := #[.int (-61)], vm := .none },
  { cls := 8, slots := #[.int (-60)], vm := .none },
  { cls := 8, slots := #[.int (-59)], vm := .none },
  { cls := 8, slots := #[.int (-58)], vm := .none },
  { cls := 8, slots := #[.int (-57)], vm := .none },
  { cls := 8, slots := #[.int (-56)], vm := .none },
  { cls := 8, slots := #[.int (-55)], vm := .none },
  { cls := 8, slots := #[.int (-54)], vm := .none },
  { cls := 8, slots := #[.int (-53)], vm := .none },
  { cls := 8, slots := #[.int (-52)], vm := .none },
  { cls := 8, slots := #[.int (-51)], vm := .none },
  { cls := 8, slots := #[.int (-50)], vm := .none },
  { cls := 8, slots := #[.int (-49)], vm := .none },
  { cls := 8, slots := #[.int (-48)], vm := .none },
  { cls := 8, slots := #[.int (-47)], vm := .none },
  { cls := 8, slots := #[.int (-46)], vm := .none },
  { cls := 8, slots := #[.int (-45)], vm := .none },
  { cls := 8, slots := #[.int (-44)], vm := .none },
  { cls := 8, slots := #[.int (-43)], vm := .none },
  { cls := 8, slots := #[.int (-42)], vm := .none },
  { cls := 8, slots := #[.int (-41)], vm := .none },
  { cls := 8, slots := #[.int (-40)], vm := .none },
  { cls := 8, slots := #[.int (-39)], vm := .none },
  { cls := 8, slots := #[.int (-38)], vm := .none },
  { cls := 8, slots := #[.int (-37)], vm := .none },
  { cls := 8, slots := #[.int (-36)], vm := .none },
  { cls := 8, slots := #[.int (-35)], vm := .none },
  { cls := 8, slots := #[.int (-34)], vm := .none },
  { cls := 8, slots := #[.int (-33)], vm := .none },
  { cls := 8, slots := #[.int (-32)], vm := .none },
  { cls := 8, slots := #[.int (-31)], vm := .none },
  { cls := 8, slots := #[.int (-30)], vm := .none },
  { cls := 8, slots := #[.int (-29)], vm := .none },
  { cls := 8, slots := #[.int (-28)], vm := .none },
  { cls := 8, slots := #[.int (-27)], vm := .none },
  { cls := 8, slots := #[.int (-26)], vm := .none },
  { cls := 8, slots := #[.int (-25)], vm := .none },
  { cls := 8, slots := #[.int (-24)], vm := .none },
  { cls := 8, slots := #[.int (-23)], vm := .none },
  { cls := 8, slots := #[.int (-22)], vm := .none },
  { cls := 8, slots := #[.int (-21)], vm := .none },
  { cls := 8, slots := #[.int (-20)], vm := .none },
  { cls := 8, slots := #[.int (-19)], vm := .none },
  { cls := 8, slots := #[.int (-18)], vm := .none },
  { cls := 8, slots := #[.int (-17)], vm := .none },
  { cls := 8, slots := #[.int (-16)], vm := .none },
  { cls := 8, slots := #[.int (-15)], vm := .none },
  { cls := 8, slots := #[.int (-14)], vm := .none },
  { cls := 8, slots := #[.int (-13)], vm := .none },
  { cls := 8, slots := #[.int (-12)], vm := .none },
  { cls := 8, slots := #[.int (-11)], vm := .none },
  { cls := 8, slots := #[.int (-10)], vm := .none },
  { cls := 8, slots := #[.int (-9)], vm := .none },
  { cls := 8, slots := #[.int (-8)], vm := .none },
  { cls := 8, slots := #[.int (-7)], vm := .none },
  { cls := 8, slots := #[.int (-6)], vm := .none },
  { cls := 8, slots := #[.int (-5)], vm := .none },
  { cls := 8, slots := #[.int (-4)], vm := .none },
  { cls := 8, slots := #[.int (-3)], vm := .none },
  { cls := 8, slots := #[.int (-2)], vm := .none },
  { cls := 8, slots := #[.int (-1)], vm := .none },
  { cls := 8, slots := #[.int 0], vm := .none },
  { cls := 8, slots := #[.int 1], vm := .none },
  { cls := 8, slots := #[.int 2], vm := .none },
  { cls := 8, slots := #[.int 3], vm := .none },
  { cls := 8, slots := #[.int 4], vm := .none },
  { cls := 8, slots := #[.int 5], vm := .none },
  { cls := 8, slots := #[.int 6], vm := .none },
  { cls := 8, slots := #[.int 7], vm := .none },
  { cls := 8, slots := #[.int 8], vm := .none },
  { cls := 8, slots := #[.int 9], vm := .none },
  { cls := 8, slots := #[.int 10], vm := .none },
  { cls := 8, slots := #[.int 11], vm := .none },
  { cls := 8, slots := #[.int 12], vm := .none },
  { cls := 8, slots := #[.int 13], vm := .none },
  { cls := 8, slots := #[.int 14], vm := .none },
  { cls := 8, slots := #[.int 15], vm := .none },
  { cls := 8, slots := #[.int 16], vm := .none },
  { cls := 8, slots := #[.int 17], vm := .none },
  { cls := 8, slots := #[.int 18], vm := .none },
  { cls := 8, slots := #[.int 19], vm := .none },
  { cls := 8, slots := #[.int 20], vm := .none },
  { cls := 8, slots := #[.int 21], vm := .none },
  { cls := 8, slots := #[.int 22], vm := .none },
  { cls := 8, slots := #[.int 23], vm := .none },
  { cls := 8, slots := #[.int 24], vm := .none },
  { cls := 8, slots := #[.int 25], vm := .none },
  { cls := 8, slots := #[.int 26], vm := .none },
  { cls := 8, slots := #[.int 27], vm := .none },
  { cls := 8, slots := #[.int 28], vm := .none },
  { cls := 8, slots := #[.int 29], vm := .none },
  { cls := 8, slots := #[.int 30], vm := .none },
  { cls := 8, slots := #[.int 31], vm := .none },
  { cls := 8, slots := #[.int 32], vm := .none },
  { cls := 8, slots := #[.int 33], vm := .none },
  { cls := 8, slots := #[.int 34], vm := .none },
  { cls := 8, slots := #[.int 35], vm := .none },
  { cls := 8, slots := #[.int 36], vm := .none },
  { cls := 8, slots := #[.int 37], vm := .none },
  { cls := 8, slots := #[.int 38], vm := .none },
  { cls := 8, slots := #[.int 39], vm := .none },
  { cls := 8, slots := #[.int 40], vm := .none },
  { cls := 8, slots := #[.int 41], vm := .none },
  { cls := 8, slots := #[.int 42], vm := .none },
  { cls := 8, slots := #[.int 43], vm := .none },
  { cls := 8, slots := #[.int 44], vm := .none },
  { cls := 8, slots := #[.int 45], vm := .none },
  { cls := 8, slots := #[.int 46], vm := .none },
  { cls := 8, slots := #[.int 47], vm := .none },
  { cls := 8, slots := #[.int 48], vm := .none },
  { cls := 8, slots := #[.int 49], vm := .none },
  { cls := 8, slots := #[.int 50], vm := .none },
  { cls := 8, slots := #[.int 51], vm := .none },
  { cls := 8, slots := #[.int 52], vm := .none },
  { cls := 8, slots := #[.int 53], vm := .none },
  { cls := 8, slots := #[.int 54], vm := .none },
  { cls := 8, slots := #[.int 55], vm := .none },
  { cls := 8, slots := #[.int 56], vm := .none },
  { cls := 8, slots := #[.int 57], vm := .none },
  { cls := 8, slots := #[.int 58], vm := .none },
  { cls := 8, slots := #[.int 59], vm := .none },
  { cls := 8, slots := #[.int 60], vm := .none },
  { cls := 8, slots := #[.int 61], vm := .none },
  { cls := 8, slots := #[.int 62], vm := .none },
  { cls := 8, slots := #[.int 63], vm := .none },
  { cls := 8, slots := #[.int 64], vm := .none },
  { cls := 8, slots := #[.int 65], vm := .none },
  { cls := 8, slots := #[.int 66], vm := .none },
  { cls := 8, slots := #[.int 67], vm := .none },
  { cls := 8, slots := #[.int 68], vm := .none },
  { cls := 8, slots := #[.int 69], vm := .none },
  { cls := 8, slots := #[.int 70], vm := .none },
  { cls := 8, slots := #[.int 71], vm := .none },
  { cls := 8, slots := #[.int 72], vm := .none },
  { cls := 8, slots := #[.int 73], vm := .none },
  { cls := 8, slots := #[.int 74], vm := .none },
  { cls := 8, slots := #[.int 75], vm := .none },
  { cls := 8, slots := #[.int 76], vm := .none },
  { cls := 8, slots := #[.int 77], vm := .none },
  { cls := 8, slots := #[.int 78], vm := .none },
  { cls := 8, slots := #[.int 79], vm := .none },
  { cls := 8, slots := #[.int 80], vm := .none },
  { cls := 8, slots := #[.int 81], vm := .none },
  { cls := 8, slots := #[.int 82], vm := .none },
  { cls := 8, slots := #[.int 83], vm := .none },
  { cls := 8, slots := #[.int 84], vm := .none },
  { cls := 8, slots := #[.int 85], vm := .none },
  { cls := 8, slots := #[.int 86], vm := .none },
  { cls := 8, slots := #[.int 87], vm := .none },
  { cls := 8, slots := #[.int 88], vm := .none },
  { cls := 8, slots := #[.int 89], vm := .none },
  { cls := 8, slots := #[.int 90], vm := .none },
  { cls := 8, slots := #[.int 91], vm := .none },
  { cls := 8, slots := #[.int 92], vm := .none },
  { cls := 8, slots := #[.int 93], vm := .none },
  { cls := 8, slots := #[.int 94], vm := .none },
  { cls := 8, slots := #[.int 95], vm := .none },
  { cls := 8, slots := #[.int 96], vm := .none },
  { cls := 8, slots := #[.int 97], vm := .none },
  { cls := 8, slots := #[.int 98], vm := .none },
  { cls := 8, slots := #[.int 99], vm := .none },
  { cls := 8, slots := #[.int 100], vm := .none },
  { cls := 8, slots := #[.int 101], vm := .none },
  { cls := 8, slots := #[.int 102], vm := .none },
  { cls := 8, slots := #[.int 103], vm := .none },
  { cls := 8, slots := #[.int 104], vm := .none },
  { cls := 8, slots := #[.int 105], vm := .none },
  { cls := 8, slots := #[.int 106], vm := .none },
  { cls := 8, slots := #[.int 107], vm := .none },
  { cls := 8, slots := #[.int 108], vm := .none },
  { cls := 8, slots := #[.int 109], vm := .none },
  { cls := 8, slots := #[.int 110], vm := .none },
  { cls := 8, slots := #[.int 111], vm := .none },
  { cls := 8, slots := #[.int 112], vm := .none },
  { cls := 8, slots := #[.int 113], vm := .none },
  { cls := 8, slots := #[.int 114], vm := .none },
  { cls := 8, slots := #[.int 115], vm := .none },
  { cls := 8, slots := #[.int 116], vm := .none },
  { cls := 8, slots := #[.int 117], vm := .none },
  { cls := 8, slots := #[.int 118], vm := .none },
  { cls := 8, slots := #[.int 119], vm := .none },
  { cls := 8, slots := #[.int 120], vm := .none },
  { cls := 8, slots := #[.int 121], vm := .none },
  { cls := 8, slots := #[.int 122], vm := .none },
  { cls := 8, slots := #[.int 123], vm := .none },
  { cls := 8, slots := #[.int 124], vm := .none },
  { cls := 8, slots := #[.int 125], vm := .none },
  { cls := 8, slots := #[.int 126], vm := .none },
  { cls := 8, slots := #[.int 127], vm := .none }]
def classes : Array Class := #[k0, k1, k2, k3, k4, k5, k6, k7, k8, k9, k10, k11, k12, k13, k14, k15]
def interned : List (Array UInt16 × Addr) := []
def slotsUsed : Nat := 517
def theMethod : MethodId := ⟨1, 1⟩
def args0 : Array Value := #[.long 5, .long 7, .int 9, .int 5, .int 3, .int 24]
def aboutOver (below : List Frame) : State where
  vm := { classes := classes, interned := interned.toArray }
  heap := heap
  slotsUsed := slotsUsed
  threads := #[{ frames := .invoking theMethod args0 :: below }]
def below0 : List Frame := [.native { method := ⟨0, 0⟩, args := #[] }]
def about1 : State := aboutOver below0
def p0 : Program := .bare "" "" ""
def e0 : Env := launch0.env 0 0 0
theorem w_frames : about1.frames = Frame.invoking theMethod args0 :: below0 := rfl
set_option maxRecDepth 65536 in
theorem w_args : argsFit about1.vm theMethod args0 = true := by decide +kernel
set_option maxRecDepth 65536 in
theorem w_heap : heapFits about1 = true := by decide +kernel
set_option maxRecDepth 65536 in
theorem w_runnable : about1.curStatus? = some .runnable := by decide +kernel
set_option maxRecDepth 65536 in
theorem w_alone : about1.alone = true := by decide +kernel
set_option maxRecDepth 65536 in
theorem w_named : about1.methodNamed? x = some theMethod := by decide +kernel
set_option maxRecDepth 65536 in
theorem w_hears : about1.hears theMethod below0 = true := by decide +kernel
set_option maxRecDepth 65536 in
theorem w_ripe : about1.ripe theMethod args0 below0 = true := by decide +kernel
theorem w_running : about1.status = .running := rfl
set_option maxRecDepth 65536 in
theorem w_room : about1.hasRoom e0.platform room_1 = true :=
  launch0.hasRoom_least _ room_1 (by decide +kernel) (by decide +kernel) (by decide +kernel) (by decide +kernel) (by decide +kernel) (by decide +kernel)
theorem allAtoms_all (ts : List Jvm.Cond) (a : Array Jvm.Value) (st : Jvm.State) : (allAtoms ts).before a st = ts.all (fun c => c.before a st) := by
  induction ts with
  | nil => rfl
  | cons c t ih =>
    show (Jvm.Cond.and c (allAtoms t)).before a st = _
    rw [Jvm.Cond.before_and, ih, List.all_cons]
def words1 : List Jvm.Cond := Jvm.Cond.code x code maxLocals ret :: tables_1
/-- a 'code' word, met by the world's own term for the bytes: nothing is compared byte by byte -/
theorem code_word {y : MethodName} {bytes : ByteArray} {mx : Nat} {rt : Option FieldType} {a : Array Value} {s : State} {m : MethodId} {meth : Method} {c : Code} (h1 : s.methodNamed? y = some m) (h2 : s.vm.method? m = some meth) (h3 : meth.code = some c) (h4 : c.code = bytes)
    (h5 : (c.maxLocals == mx && c.exceptionTable.isEmpty && decide (c.maxStack ≤ mostOperands) && decide (meth.sig.returnType = rt) && !meth.locks && decide (parseMethodDescriptor y.desc = some meth.sig)) = true) : (Jvm.Cond.code y bytes mx rt).before a s = true := by
  simp only [Bool.and_eq_true, beq_iff_eq, Bool.not_eq_true', decide_eq_true_eq] at h5
  obtain ⟨⟨⟨⟨⟨g1, g2⟩, g3⟩, g4⟩, g5⟩, g6⟩ := h5
  simp [Cond.before, Cond.holds, Cond.value, h1, h2, h3, h4, g1, g2, g3, g4, g5, g6]
def isCode : Jvm.Cond → Bool
  | .code _ _ _ _ => true
  | _ => false
theorem all_split {L : List Jvm.Cond} {P : Jvm.Cond → Bool} (h1 : L.all (fun c => isCode c || P c) = true) (h2 : ∀ c ∈ L.filter isCode, P c = true) : L.all P = true := by
  refine List.all_eq_true.mpr fun c hc => ?_
  have h := List.all_eq_true.mp h1 c hc
  rcases Bool.eq_false_or_eq_true (isCode c) with hi | hi
  · exact h2 c (List.mem_filter.mpr ⟨hc, hi⟩)
  · simpa [hi] using h
set_option maxRecDepth 65536 in
theorem w_c0 : (Jvm.Cond.code x code maxLocals ret).before args0 about1 = true := code_word (m := ⟨1, 1⟩) (meth := k1m1) (c := k1c1) (by decide +kernel) rfl rfl rfl (by decide +kernel)
set_option maxRecDepth 65536 in
theorem w_c1 : (Jvm.Cond.code ({ cls := "com/example/chronoid/chronoid/id/UniqueKey", name := "<init>", desc := "(JII)V" } : Jvm.MethodName) prog_10_method_1_code (5 : Nat) (Option.none : Option Jvm.ClassFile.FieldType)).before args0 about1 = true := code_word (m := ⟨2, 0⟩) (meth := k2m0) (c := k2c0) (by decide +kernel) rfl rfl rfl (by decide +kernel)
set_option maxRecDepth 65536 in
theorem w_c2 : (Jvm.Cond.code ({ cls := "java/lang/Object", name := "<init>", desc := "()V" } : Jvm.MethodName) object_method_1_code (1 : Nat) (Option.none : Option Jvm.ClassFile.FieldType)).before args0 about1 = true := code_word (m := ⟨0, 0⟩) (meth := k0m0) (c := k0c0) (by decide +kernel) rfl rfl rfl (by decide +kernel)
set_option maxRecDepth 65536 in
theorem w_c3 : (Jvm.Cond.code ({ cls := "com/example/chronoid/chronoid/id/UniqueKey", name := "equals", desc := "(Ljava/lang/Object;)Z" } : Jvm.MethodName) prog_10_method_7_code (3 : Nat) (Option.some Jvm.ClassFile.FieldType.boolean)).before args0 about1 = true := code_word (m := ⟨2, 1⟩) (meth := k2m1) (c := k2c1) (by decide +kernel) rfl rfl rfl (by decide +kernel)
set_option maxRecDepth 65536 in
theorem w_c4 : (Jvm.Cond.code ({ cls := "java/lang/Integer", name := "valueOf", desc := "(I)Ljava/lang/Integer;" } : Jvm.MethodName) jdk_33_method_22_code (1 : Nat) (Option.some (Jvm.ClassFile.FieldType.object "java/lang/Integer"))).before args0 about1 = true := code_word (m := ⟨8, 0⟩) (meth := k8m0) (c := k8c0) (by decide +kernel) rfl rfl rfl (by decide +kernel)
set_option maxRecDepth 65536 in
theorem w_c5 : (Jvm.Cond.code ({ cls := "java/lang/Integer", name := "<init>", desc := "(I)V" } : Jvm.MethodName) jdk_33_method_23_code (2 : Nat) (Option.none : Option Jvm.ClassFile.FieldType)).before args0 about1 = true := code_word (m := ⟨8, 1⟩) (meth := k8m1) (c := k8c1) (by decide +kernel) rfl rfl rfl (by decide +kernel)
set_option maxRecDepth 65536 in
theorem w_c6 : (Jvm.Cond.code ({ cls := "java/lang/Number", name := "<init>", desc := "()V" } : Jvm.MethodName) jdk_18_method_1_code (1 : Nat) (Option.none : Option Jvm.ClassFile.FieldType)).before args0 about1 = true := code_word (m := ⟨4, 0⟩) (meth := k4m0) (c := k4c0) (by decide +kernel) rfl rfl rfl (by decide +kernel)
def codes1 : List Jvm.Cond := [Jvm.Cond.code x code maxLocals ret, Jvm.Cond.code ({ cls := "com/example/chronoid/chronoid/id/UniqueKey", name := "<init>", desc := "(JII)V" } : Jvm.MethodName) prog_10_method_1_code (5 : Nat) (Option.none : Option Jvm.ClassFile.FieldType), Jvm.Cond.code ({ cls := "java/lang/Object", name := "<init>", desc := "()V" } : Jvm.MethodName) object_method_1_code (1 : Nat) (Option.none : Option Jvm.ClassFile.FieldType), Jvm.Cond.code ({ cls := "com/example/chronoid/chronoid/id/UniqueKey", name := "equals", desc := "(Ljava/lang/Object;)Z" } : Jvm.MethodName) prog_10_method_7_code (3 : Nat) (Option.some Jvm.ClassFile.FieldType.boolean), Jvm.Cond.code ({ cls := "java/lang/Integer", name := "valueOf", desc := "(I)Ljava/lang/Integer;" } : Jvm.MethodName) jdk_33_method_22_code (1 : Nat) (Option.some (Jvm.ClassFile.FieldType.object "java/lang/Integer")), Jvm.Cond.code ({ cls := "java/lang/Integer", name := "<init>", desc := "(I)V" } : Jvm.MethodName) jdk_33_method_23_code (2 : Nat) (Option.none : Option Jvm.ClassFile.FieldType), Jvm.Cond.code ({ cls := "java/lang/Number", name := "<init>", desc := "()V" } : Jvm.MethodName) jdk_18_method_1_code (1 : Nat) (Option.none : Option Jvm.ClassFile.FieldType)]
set_option maxRecDepth 65536 in
theorem codes_eq : words1.filter isCode = codes1 := rfl
theorem w_codes : ∀ c ∈ words1.filter isCode, c.before args0 about1 = true := by
  rw [codes_eq]
  intro c hc
  simp only [codes1, List.mem_cons, List.not_mem_nil, or_false] at hc
  rcases hc with rfl | rfl | rfl | rfl | rfl | rfl | rfl
  · exact w_c0
  · exact w_c1
  · exact w_c2
  · exact w_c3
  · exact w_c4
  · exact w_c5
  · exact w_c6
set_option maxRecDepth 65536 in
theorem w_t1 : (words1.take 24).all (fun c => isCode c || c.before args0 about1) = true := by decide +kernel
set_option maxRecDepth 65536 in
theorem w_t2 : ((words1.drop 24).take 24).all (fun c => isCode c || c.before args0 about1) = true := by decide +kernel
set_option maxRecDepth 65536 in
theorem w_t3 : ((words1.drop 24).drop 24).all (fun c => isCode c || c.before args0 about1) = true := by decide +kernel
theorem w_tables : (allAtoms (Jvm.Cond.code x code maxLocals ret :: tables_1)).before args0 about1 = true := by
  rw [allAtoms_all]
  show words1.all (fun c => c.before args0 about1) = true
  refine all_split ?_ w_codes
  rw [← List.take_append_drop 24 words1, List.all_append, w_t1, ← List.take_append_drop 24 (words1.drop 24), List.all_append, w_t2, w_t3]
  rfl
set_option maxRecDepth 65536 in
theorem w_rest : rest_1_c.before args0 about1 = true := by decide +kernel
set_option maxRecDepth 65536 in
theorem w_case : (Jvm.Cond.and given_1 narrow_1).before args0 about1 = true := by decide +kernel
theorem w_applies : (headSpec (Jvm.Cond.code x code maxLocals ret :: tables_1) room_1).applies x e0.platform about1 = true :=
  (Spec.applies_iff w_frames).mpr ⟨w_running, w_runnable, w_alone, w_named, w_hears, w_ripe, w_room, w_tables⟩
theorem atStart : AtStart classFile x code maxLocals ret World_1 tables_1 room_1 Calls_1 rest_1 Pre_1 launch0 p0 e0 about1 theMethod args0 below0 :=
  ⟨lists_1, trivial, launch0.admits_env _ _ _, launch0.least_env, fairChoices_fair.cas, fairChoices_fair.clock, w_frames, w_args, w_heap, w_applies, trivial, w_rest, w_case⟩
end start1
theorem witness_1 : WitnessClaimed_1 := ⟨start1.p0, start1.e0, start1.about1, start1.theMethod, start1.args0, start1.below0, start1.atStart⟩
end Jvm.Pilot.@@N@@
