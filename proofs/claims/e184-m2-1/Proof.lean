import JvmDerived
import JvmDerived.Pilot.@@N@@Statement
import JvmDerived.Pilot.@@N@@Code
set_option linter.unusedVariables false
set_option linter.unusedSimpArgs false
namespace Jvm.RoadKit
open Sem ClassFile Op Lib Jvm.Stand Jvm.Free Jvm.LawKit
section OwnKit
variable {p : Program} {l : Launch} {e : Env} {R : Room} {s : State} {m : MethodId} {args : Array Value} {below : List Frame} {meth : Method} {c : Code} {T : State} {locs : List Loc} {cells slots : Nat}
/-- the run from U ends the invocation, and P holds there -/
def OGo (p : Program) (e : Env) (below : List Frame) (P : Outcome → State → Prop) (U : State) : Prop :=
  ∃ s₂ o, Steps p.tables e below U s₂ ∧ s₂.status = .running ∧ Ended s₂ below o ∧ P o s₂
theorem OGo.by_ {P : Outcome → State → Prop} {U U' : State} (h : ∀ t, Steps p.tables e below U' t → Steps p.tables e below U t) (g : OGo p e below P U') : OGo p e below P U := by
  obtain ⟨t, o, a, b⟩ := g
  exact ⟨t, o, h t a, b⟩
abbrev OEnd (s : State) (Q : Option Value → Heap → List Loc → Prop) (k n : Nat) (o : Outcome) (U' : State) : Prop :=
  ∃ v L, o = .returned v ∧ Q v U'.heap L ∧ FrameEnd s o U' L k n
theorem own_lt {a : Addr} {n : Nat} (h : a < n) : @LT.lt Nat instLTNat a n := h
theorem own_ne {a b : Addr} (h : @LT.lt Nat instLTNat a b) : a ≠ b := Nat.ne_of_lt h
theorem own_ne' {a b : Addr} (h : @LT.lt Nat instLTNat b a) : a ≠ b := Nat.ne_of_gt h
variable {Q : Option Value → Heap → List Loc → Prop} {k n : Nat} {pc : Nat} {Ls : Array Slot} {rest : List Value}
theorem own_retW (X : Stand p l e R s m args below meth c T locs cells slots) (hx : p.tables.exec = Jvm.exec) (hlk : meth.locks = false) {w : Value} {t : FieldType} {i : Instr} (hret : meth.sig.returnType = some t) (hn : narrow t w = w)
    (hi : (i = .ireturn ∧ (t = .int ∨ t = .boolean ∨ t = .byte ∨ t = .char ∨ t = .short) ∧ ∃ z, w = .int z) ∨ (i = .lreturn ∧ t = .long ∧ ∃ z, w = .long z) ∨ (i = .dreturn ∧ t = .double ∧ ∃ z, w = .double z) ∨ (i = .freturn ∧ t = .float ∧ ∃ z, w = .float z) ∨ (i = .areturn ∧ t.isReference = true ∧ w.isRef = true))
    (hd : decode c.code pc = .ok (i, 1)) (hk : cells ≤ k) (hs : slots ≤ n) (hQ : Q (some w) T.heap locs) : OGo p e below (OEnd s Q k n) (T.setTop (mkF m pc Ls (w :: rest))) := by
  obtain ⟨fs, hr, hrun, hended, hW, hsame⟩ := X.leave (v := some w) (fun h => by rw [hret] at h; cases h) hlk
  exact ⟨_, _, retOut X hx hret hn hi hd hr, hrun, hended, _, _, rfl, hQ, ⟨_, rfl⟩, hW, hsame.mono hk hs⟩
theorem own_retI (X : Stand p l e R s m args below meth c T locs cells slots) (hx : p.tables.exec = Jvm.exec) (hlk : meth.locks = false) {z : Int32} (hret : meth.sig.returnType = some .int)
    (hd : decode c.code pc = .ok (.ireturn, 1)) (hk : cells ≤ k) (hs : slots ≤ n) (hQ : Q (some (.int z)) T.heap locs) : OGo p e below (OEnd s Q k n) (T.setTop (mkF m pc Ls (.int z :: rest))) :=
  own_retW X hx hlk hret rfl (Or.inl ⟨rfl, Or.inl rfl, z, rfl⟩) hd hk hs hQ
theorem own_retJ (X : Stand p l e R s m args below meth c T locs cells slots) (hx : p.tables.exec = Jvm.exec) (hlk : meth.locks = false) {z : Int64} (hret : meth.sig.returnType = some .long)
    (hd : decode c.code pc = .ok (.lreturn, 1)) (hk : cells ≤ k) (hs : slots ≤ n) (hQ : Q (some (.long z)) T.heap locs) : OGo p e below (OEnd s Q k n) (T.setTop (mkF m pc Ls (.long z :: rest))) :=
  own_retW X hx hlk hret rfl (Or.inr (Or.inl ⟨rfl, rfl, z, rfl⟩)) hd hk hs hQ
theorem own_retA (X : Stand p l e R s m args below meth c T locs cells slots) (hx : p.tables.exec = Jvm.exec) (hlk : meth.locks = false) {w : Value} {t : FieldType} (hret : meth.sig.returnType = some t) (ht : t.isReference = true) (hw : w.isRef = true)
    (hd : decode c.code pc = .ok (.areturn, 1)) (hk : cells ≤ k) (hs : slots ≤ n) (hQ : Q (some w) T.heap locs) : OGo p e below (OEnd s Q k n) (T.setTop (mkF m pc Ls (w :: rest))) :=
  own_retW X hx hlk hret (by cases t <;> cases w <;> simp [FieldType.isReference, Value.isRef] at ht hw <;> rfl) (Or.inr (Or.inr (Or.inr (Or.inr ⟨rfl, ht, hw⟩)))) hd hk hs hQ
theorem own_retN (X : Stand p l e R s m args below meth c T locs cells slots) (hx : p.tables.exec = Jvm.exec) (hlk : meth.locks = false) {z : Int32} {t : FieldType} (hret : meth.sig.returnType = some t) (ht : t = .boolean ∨ t = .byte ∨ t = .char ∨ t = .short)
    (hd : decode c.code pc = .ok (.ireturn, 1)) (hk : cells ≤ k) (hs : slots ≤ n) (hQ : Q (some (.int (nar t z))) T.heap locs) : OGo p e below (OEnd s Q k n) (T.setTop (mkF m pc Ls (.int z :: rest))) := by
  obtain ⟨fs, hr, hrun, hended, hW, hsame⟩ := X.leave (v := some (.int (nar t z))) (fun h => by rw [hret] at h; cases h) hlk
  exact ⟨_, _, retN X hx hret ht hd hr, hrun, hended, _, _, rfl, hQ, ⟨_, rfl⟩, hW, hsame.mono hk hs⟩
theorem own_ret (X : Stand p l e R s m args below meth c T locs cells slots) (hx : p.tables.exec = Jvm.exec) (hlk : meth.locks = false) (hret : meth.sig.returnType = none)
    (hd : decode c.code pc = .ok (.return_, 1)) (hk : cells ≤ k) (hs : slots ≤ n) (hQ : Q none T.heap locs) : OGo p e below (OEnd s Q k n) (T.setTop (mkF m pc Ls [])) := by
  obtain ⟨fs, hr, hrun, hended, hW, hsame⟩ := X.leave (v := none) (fun _ => rfl) hlk
  exact ⟨_, _, X.returnOut hx hret hd hr, hrun, hended, _, _, rfl, hQ, ⟨_, rfl⟩, hW, hsame.mono hk hs⟩
abbrev OEndW (s : State) (Q : Option Value → Heap → List Loc → Prop) (k n : Nat) (o : Outcome) (U' : State) : Prop :=
  ∃ v L, o = .returned v ∧ Q v U'.heap L ∧ ReturnedEndW s o U' L k n
variable {vm₁ : Vm} {j : Nat}
theorem own_wretW (X : Stand p l e R (s.setVm vm₁) m args below meth c T locs cells slots) (hS : s.Since vm₁ j) (hj : j ≤ T.heap.size) (hx : p.tables.exec = Jvm.exec) (hlk : meth.locks = false) {w : Value} {t : FieldType} {i : Instr} (hret : meth.sig.returnType = some t) (hn : narrow t w = w)
    (hi : (i = .ireturn ∧ (t = .int ∨ t = .boolean ∨ t = .byte ∨ t = .char ∨ t = .short) ∧ ∃ z, w = .int z) ∨ (i = .lreturn ∧ t = .long ∧ ∃ z, w = .long z) ∨ (i = .dreturn ∧ t = .double ∧ ∃ z, w = .double z) ∨ (i = .freturn ∧ t = .float ∧ ∃ z, w = .float z) ∨ (i = .areturn ∧ t.isReference = true ∧ w.isRef = true))
    (hd : decode c.code pc = .ok (i, 1)) (hk : cells ≤ k) (hs : slots ≤ n) (hQ : Q (some w) T.heap locs) : OGo p e below (OEndW s Q k n) (T.setTop (mkF m pc Ls (w :: rest))) := by
  obtain ⟨fs, hr, hrun, hended, h1, h2, h3, h4⟩ := X.leaveW hS hj (v := some w) (fun h => by rw [hret] at h; cases h) hlk
  exact ⟨_, _, retOut X hx hret hn hi hd hr, hrun, hended, _, _, rfl, hQ, h1, h2, h3, h4.mono hk hs⟩
theorem own_wretI (X : Stand p l e R (s.setVm vm₁) m args below meth c T locs cells slots) (hS : s.Since vm₁ j) (hj : j ≤ T.heap.size) (hx : p.tables.exec = Jvm.exec) (hlk : meth.locks = false) {z : Int32} (hret : meth.sig.returnType = some .int)
    (hd : decode c.code pc = .ok (.ireturn, 1)) (hk : cells ≤ k) (hs : slots ≤ n) (hQ : Q (some (.int z)) T.heap locs) : OGo p e below (OEndW s Q k n) (T.setTop (mkF m pc Ls (.int z :: rest))) :=
  own_wretW X hS hj hx hlk hret rfl (Or.inl ⟨rfl, Or.inl rfl, z, rfl⟩) hd hk hs hQ
theorem own_wretA (X : Stand p l e R (s.setVm vm₁) m args below meth c T locs cells slots) (hS : s.Since vm₁ j) (hj : j ≤ T.heap.size) (hx : p.tables.exec = Jvm.exec) (hlk : meth.locks = false) {w : Value} {t : FieldType} (hret : meth.sig.returnType = some t) (ht : t.isReference = true) (hw : w.isRef = true)
    (hd : decode c.code pc = .ok (.areturn, 1)) (hk : cells ≤ k) (hs : slots ≤ n) (hQ : Q (some w) T.heap locs) : OGo p e below (OEndW s Q k n) (T.setTop (mkF m pc Ls (w :: rest))) :=
  own_wretW X hS hj hx hlk hret (by cases t <;> cases w <;> simp [FieldType.isReference, Value.isRef] at ht hw <;> rfl) (Or.inr (Or.inr (Or.inr (Or.inr ⟨rfl, ht, hw⟩)))) hd hk hs hQ
theorem own_wretN (X : Stand p l e R (s.setVm vm₁) m args below meth c T locs cells slots) (hS : s.Since vm₁ j) (hj : j ≤ T.heap.size) (hx : p.tables.exec = Jvm.exec) (hlk : meth.locks = false) {z : Int32} {t : FieldType} (hret : meth.sig.returnType = some t) (ht : t = .boolean ∨ t = .byte ∨ t = .char ∨ t = .short)
    (hd : decode c.code pc = .ok (.ireturn, 1)) (hk : cells ≤ k) (hs : slots ≤ n) (hQ : Q (some (.int (nar t z))) T.heap locs) : OGo p e below (OEndW s Q k n) (T.setTop (mkF m pc Ls (.int z :: rest))) := by
  obtain ⟨fs, hr, hrun, hended, h1, h2, h3, h4⟩ := X.leaveW hS hj (v := some (.int (nar t z))) (fun h => by rw [hret] at h; cases h) hlk
  exact ⟨_, _, retN X hx hret ht hd hr, hrun, hended, _, _, rfl, hQ, h1, h2, h3, h4.mono hk hs⟩
theorem own_wret (X : Stand p l e R (s.setVm vm₁) m args below meth c T locs cells slots) (hS : s.Since vm₁ j) (hj : j ≤ T.heap.size) (hx : p.tables.exec = Jvm.exec) (hlk : meth.locks = false) (hret : meth.sig.returnType = none)
    (hd : decode c.code pc = .ok (.return_, 1)) (hk : cells ≤ k) (hs : slots ≤ n) (hQ : Q none T.heap locs) : OGo p e below (OEndW s Q k n) (T.setTop (mkF m pc Ls [])) := by
  obtain ⟨fs, hr, hrun, hended, h1, h2, h3, h4⟩ := X.leaveW hS hj (v := none) (fun _ => rfl) hlk
  exact ⟨_, _, X.returnOut hx hret hd hr, hrun, hended, _, _, rfl, hQ, h1, h2, h3, h4.mono hk hs⟩
end OwnKit
end Jvm.RoadKit
namespace Jvm.Pilot.@@N@@
open Jvm Jvm.ClassFile Sem Op Lib Jvm.Free Jvm.Stand Jvm.LawKit Jvm.RoadKit Bundle Jvm.Pilot.@@N@@.Jvm.D
theorem d_ini_0 : decode prog_52_method_1_code 0 = .ok (.aload_n 0, 1) := by decide +kernel
theorem d_ini_1 : decode prog_52_method_1_code 1 = .ok (.invokespecial 1, 3) := by decide +kernel
theorem d_ini_4 : decode prog_52_method_1_code 4 = .ok (.aload_n 0, 1) := by decide +kernel
theorem d_ini_5 : decode prog_52_method_1_code 5 = .ok (.iload_n 1, 1) := by decide +kernel
theorem d_ini_6 : decode prog_52_method_1_code 6 = .ok (.putfield 7, 3) := by decide +kernel
theorem d_ini_9 : decode prog_52_method_1_code 9 = .ok (.aload_n 0, 1) := by decide +kernel
theorem d_ini_10 : decode prog_52_method_1_code 10 = .ok (.iload_n 2, 1) := by decide +kernel
theorem d_ini_11 : decode prog_52_method_1_code 11 = .ok (.putfield 13, 3) := by decide +kernel
theorem d_ini_14 : decode prog_52_method_1_code 14 = .ok (.aload_n 0, 1) := by decide +kernel
theorem d_ini_15 : decode prog_52_method_1_code 15 = .ok (.iload_n 3, 1) := by decide +kernel
theorem d_ini_16 : decode prog_52_method_1_code 16 = .ok (.putfield 16, 3) := by decide +kernel
theorem d_ini_19 : decode prog_52_method_1_code 19 = .ok (.return_, 1) := by decide +kernel
theorem pn_com_example_intercept_rows_interceptrows_engine_Ordering : plainName "com/example/intercept_rows/interceptrows/engine/Ordering" = true := by first | (simp [plainName, overriddenIn]; done) | decide +kernel
theorem ef_ini (m : MethodId) (x0 : Addr) (x1 : Int32) (x2 : Int32) (x3 : Int32) : entryFrame m #[(.ref x0), (.int x1), (.int x2), (.int x3)] 4 = mkF m 0 #[.val (.ref x0), .val (.int x1), .val (.int x2), .val (.int x3)] [] := by first | (simp [entryFrame, mkF, argsToLocals, Value.category]; done) | rfl
def Q_ini (Z : State) (a : Addr) (p1 p2 p3 : Int32) (h0 : Heap) (n0 : Nat) (v : Option Value) (h : Heap) (L : List Loc) : Prop := v = none ∧ Fr n0 L ∧ Keep h0 h [a] ∧ Exa Z h a "com/example/intercept_rows/interceptrows/engine/Ordering" ∧ Fld Z h a "com/example/intercept_rows/interceptrows/engine/Ordering" "whenBefore" "Z" (.int (nar .boolean p1)) ∧ Fld Z h a "com/example/intercept_rows/interceptrows/engine/Ordering" "whenEqual" "Z" (.int (nar .boolean p2)) ∧ Fld Z h a "com/example/intercept_rows/interceptrows/engine/Ordering" "whenAfter" "Z" (.int (nar .boolean p3))
set_option maxRecDepth 65536 in
set_option maxHeartbeats 40000000 in
theorem rm_ini (l : Launch) (Z : State) (a0 : Array Value) (hw : ∀ d ∈ tables_1, d.before a0 Z = true) (ws : List Jvm.Cond) (a : Addr) (p1 p2 p3 : Int32) (h0 : Heap) (n0 : Nat) (Z0 : n0 ≤ h0.size) (E0 : Exa Z h0 a "com/example/intercept_rows/interceptrows/engine/Ordering") (g : n0 ≤ a) (F0 : Fld Z h0 a "com/example/intercept_rows/interceptrows/engine/Ordering" "whenBefore" "Z" (.int (0 : Int32))) (F1 : Fld Z h0 a "com/example/intercept_rows/interceptrows/engine/Ordering" "whenEqual" "Z" (.int (0 : Int32))) (F2 : Fld Z h0 a "com/example/intercept_rows/interceptrows/engine/Ordering" "whenAfter" "Z" (.int (0 : Int32))) :
    MetFree l (⟨"com/example/intercept_rows/interceptrows/engine/Ordering", "<init>", "(ZZZ)V"⟩ : MethodName) (head1 (Jvm.Cond.code (⟨"com/example/intercept_rows/interceptrows/engine/Ordering", "<init>", "(ZZZ)V"⟩ : MethodName) prog_52_method_1_code 4 none :: ws) ({ frames := 1, cells := 0, slots := 0, locals := 12 } : Room)) (fun a_ U => a_ = #[(.ref a), (.int p1), (.int p2), (.int p3)] ∧ Z.Warmed39 U.vm ∧ U.heap = h0) (fun _ _ _ _ _ => True) (fun _ U o U' => ∃ v L, o = .returned v ∧ Q_ini Z a p1 p2 p3 h0 n0 v U'.heap L ∧ FrameEnd U o U' L ({ frames := 1, cells := 0, slots := 0, locals := 12 } : Room).cells ({ frames := 1, cells := 0, slots := 0, locals := 12 } : Room).slots) := by
  refine MetFree.of_bodySF (plainFor_of_name pn_com_example_intercept_rows_interceptrows_engine_Ordering) hisR ?_
  intro p e s m args below meth c s₁ Bd hml0 hP hK
  obtain ⟨rfl, hZ, hh⟩ := hP
  have hx := Bd.exec
  have hby := Bd.bytes
  have hml : c.maxLocals = 4 := hml0
  have hown : s.vm.findClass "com/example/intercept_rows/interceptrows/engine/Ordering" = some m.cls := findClass_of_methodNamed Bd.named
  have hnm := (name_of_methodNamed Bd.named Bd.method).1
  have X0 : Stand p l e ({ frames := 1, cells := 0, slots := 0, locals := 12 } : Room) s m #[(.ref a), (.int p1), (.int p2), (.int p3)] below meth c s₁ [] 0 0 := Stand.of_body Bd
  have e0 : s₁.heap = h0 := by rw [← hh, Bd.state]; rfl
  have N0 := Fr.nil n0
  have hlk := Bd.notSynchronized
  have hret := Bd.returns
  show OGo p e below (OEnd s (Q_ini Z a p1 p2 p3 h0 n0) ({ frames := 1, cells := 0, slots := 0, locals := 12 } : Room).cells ({ frames := 1, cells := 0, slots := 0, locals := 12 } : Room).slots) (s₁.setTop (entryFrame m #[(.ref a), (.int p1), (.int p2), (.int p3)] 4))
  rw [ef_ini]
  show OGo p e below _ (s₁.setTop (mkF m 0 #[.val (.ref a), .val (.int p1), .val (.int p2), .val (.int p3)] []))
  refine OGo.by_ (fun t k => XS.aloadN X0.here hx rfl (hb hby d_ini_0) rfl rfl k) ?_
  show OGo p e below _ (s₁.setTop (mkF m 1 #[.val (.ref a), .val (.int p1), .val (.int p2), .val (.int p3)] [(.ref a)]))
  obtain ⟨T1, X1, e1, st1⟩ := initO X0 hx hZ hown (hw _ (List.mem_of_getElem? (i := 6) rfl)) (hw _ (List.mem_of_getElem? (i := 7) rfl)) (hw _ (List.mem_of_getElem? (i := 8) rfl)) e0 (g := (mkF m 1 #[.val (.ref a), .val (.int p1), .val (.int p2), .val (.int p3)] [(.ref a)])) rfl (by rw [hml]; rfl) rfl (hb hby d_ini_1) (by decide) (W := 0) (by show 2 * 0 + _ ≤ _; exact Nat.le_of_eq rfl) (by decide)
  refine OGo.by_ st1 ?_
  show OGo p e below _ (T1.setTop (mkF m 4 #[.val (.ref a), .val (.int p1), .val (.int p2), .val (.int p3)] []))
  refine OGo.by_ (fun t k => XS.aloadN X1.here hx rfl (hb hby d_ini_4) rfl rfl k) ?_
  show OGo p e below _ (T1.setTop (mkF m 5 #[.val (.ref a), .val (.int p1), .val (.int p2), .val (.int p3)] [(.ref a)]))
  refine OGo.by_ (fun t k => XS.iloadN X1.here hx rfl (hb hby d_ini_5) rfl k) ?_
  show OGo p e below _ (T1.setTop (mkF m 6 #[.val (.ref a), .val (.int p1), .val (.int p2), .val (.int p3)] [(.int p1), (.ref a)]))
  obtain ⟨T2, h2, X2, e2, W2, st2⟩ := putFN X1 hx hZ hown (hw _ (List.mem_of_getElem? (i := 9) rfl)) Via.refl e1 F0 E0 (Or.inr ⟨(hw _ (List.mem_of_getElem? (i := 10) rfl)), rfl, hnm⟩) (hw _ (List.mem_of_getElem? (i := 1) rfl)) (ty := .boolean) (v' := (.int (nar .boolean p1))) (by decide) rfl (fits_nar_bool _) (g := (mkF m 6 #[.val (.ref a), .val (.int p1), .val (.int p2), .val (.int p3)] [(.int p1), (.ref a)])) rfl rfl (hb hby d_ini_6)
  refine OGo.by_ st2 ?_
  show OGo p e below _ (T2.setTop (mkF m 9 #[.val (.ref a), .val (.int p1), .val (.int p2), .val (.int p3)] []))
  have N2 := Fr.snoc X2 N0 g
  have F0_2 := F0.same W2
  have F1_2 := F1.other W2 (Or.inr (slot_ne (C := "com/example/intercept_rows/interceptrows/engine/Ordering") (Or.inr (hw _ (List.mem_of_getElem? (i := 12) rfl))) (Or.inr (hw _ (List.mem_of_getElem? (i := 10) rfl))) (by decide) (t := .boolean) (t' := .boolean) (by decide) (by decide)))
  have F2_2 := F2.other W2 (Or.inr (slot_ne (C := "com/example/intercept_rows/interceptrows/engine/Ordering") (Or.inr (hw _ (List.mem_of_getElem? (i := 14) rfl))) (Or.inr (hw _ (List.mem_of_getElem? (i := 10) rfl))) (by decide) (t := .boolean) (t' := .boolean) (by decide) (by decide)))
  have E_2 := E0.wr W2
  have K_2 := Keep.wr (Keep.refl h0 [a]) W2 (Or.inl (List.mem_singleton.mpr rfl))
  refine OGo.by_ (fun t k => XS.aloadN X2.here hx rfl (hb hby d_ini_9) rfl rfl k) ?_
  show OGo p e below _ (T2.setTop (mkF m 10 #[.val (.ref a), .val (.int p1), .val (.int p2), .val (.int p3)] [(.ref a)]))
  refine OGo.by_ (fun t k => XS.iloadN X2.here hx rfl (hb hby d_ini_10) rfl k) ?_
  show OGo p e below _ (T2.setTop (mkF m 11 #[.val (.ref a), .val (.int p1), .val (.int p2), .val (.int p3)] [(.int p2), (.ref a)]))
  obtain ⟨T3, h3, X3, e3, W3, st3⟩ := putFN X2 hx hZ hown (hw _ (List.mem_of_getElem? (i := 11) rfl)) Via.refl e2 F1_2 E_2 (Or.inr ⟨(hw _ (List.mem_of_getElem? (i := 12) rfl)), rfl, hnm⟩) (hw _ (List.mem_of_getElem? (i := 1) rfl)) (ty := .boolean) (v' := (.int (nar .boolean p2))) (by decide) rfl (fits_nar_bool _) (g := (mkF m 11 #[.val (.ref a), .val (.int p1), .val (.int p2), .val (.int p3)] [(.int p2), (.ref a)])) rfl rfl (hb hby d_ini_11)
  refine OGo.by_ st3 ?_
  show OGo p e below _ (T3.setTop (mkF m 14 #[.val (.ref a), .val (.int p1), .val (.int p2), .val (.int p3)] []))
  have N3 := Fr.snoc X3 N2 g
  have F0_3 := F0_2.other W3 (Or.inr (slot_ne (C := "com/example/intercept_rows/interceptrows/engine/Ordering") (Or.inr (hw _ (List.mem_of_getElem? (i := 10) rfl))) (Or.inr (hw _ (List.mem_of_getElem? (i := 12) rfl))) (by decide) (t := .boolean) (t' := .boolean) (by decide) (by decide)))
  have F1_3 := F1_2.same W3
  have F2_3 := F2_2.other W3 (Or.inr (slot_ne (C := "com/example/intercept_rows/interceptrows/engine/Ordering") (Or.inr (hw _ (List.mem_of_getElem? (i := 14) rfl))) (Or.inr (hw _ (List.mem_of_getElem? (i := 12) rfl))) (by decide) (t := .boolean) (t' := .boolean) (by decide) (by decide)))
  have E_3 := E_2.wr W3
  have K_3 := Keep.wr K_2 W3 (Or.inl (List.mem_singleton.mpr rfl))
  refine OGo.by_ (fun t k => XS.aloadN X3.here hx rfl (hb hby d_ini_14) rfl rfl k) ?_
  show OGo p e below _ (T3.setTop (mkF m 15 #[.val (.ref a), .val (.int p1), .val (.int p2), .val (.int p3)] [(.ref a)]))
  refine OGo.by_ (fun t k => XS.iloadN X3.here hx rfl (hb hby d_ini_15) rfl k) ?_
  show OGo p e below _ (T3.setTop (mkF m 16 #[.val (.ref a), .val (.int p1), .val (.int p2), .val (.int p3)] [(.int p3), (.ref a)]))
  obtain ⟨T4, h4, X4, e4, W4, st4⟩ := putFN X3 hx hZ hown (hw _ (List.mem_of_getElem? (i := 13) rfl)) Via.refl e3 F2_3 E_3 (Or.inr ⟨(hw _ (List.mem_of_getElem? (i := 14) rfl)), rfl, hnm⟩) (hw _ (List.mem_of_getElem? (i := 1) rfl)) (ty := .boolean) (v' := (.int (nar .boolean p3))) (by decide) rfl (fits_nar_bool _) (g := (mkF m 16 #[.val (.ref a), .val (.int p1), .val (.int p2), .val (.int p3)] [(.int p3), (.ref a)])) rfl rfl (hb hby d_ini_16)
  refine OGo.by_ st4 ?_
  show OGo p e below _ (T4.setTop (mkF m 19 #[.val (.ref a), .val (.int p1), .val (.int p2), .val (.int p3)] []))
  have N4 := Fr.snoc X4 N3 g
  have F0_4 := F0_3.other W4 (Or.inr (slot_ne (C := "com/example/intercept_rows/interceptrows/engine/Ordering") (Or.inr (hw _ (List.mem_of_getElem? (i := 10) rfl))) (Or.inr (hw _ (List.mem_of_getElem? (i := 14) rfl))) (by decide) (t := .boolean) (t' := .boolean) (by decide) (by decide)))
  have F1_4 := F1_3.other W4 (Or.inr (slot_ne (C := "com/example/intercept_rows/interceptrows/engine/Ordering") (Or.inr (hw _ (List.mem_of_getElem? (i := 12) rfl))) (Or.inr (hw _ (List.mem_of_getElem? (i := 14) rfl))) (by decide) (t := .boolean) (t' := .boolean) (by decide) (by decide)))
  have F2_4 := F2_3.same W4
  have E_4 := E_3.wr W4
  have K_4 := Keep.wr K_3 W4 (Or.inl (List.mem_singleton.mpr rfl))
  exact own_ret X4 hx hlk hret (hb hby d_ini_19) (by decide) (by decide) (by rw [e4]; exact ⟨rfl, N4, K_4, E_4, F0_4, F1_4, F2_4⟩)
theorem d_hol_0 : decode prog_52_method_3_code 0 = .ok (.iload_n 1, 1) := by decide +kernel
theorem d_hol_1 : decode prog_52_method_3_code 1 = .ok (.ifCond .ge 11, 3) := by decide +kernel
theorem d_hol_4 : decode prog_52_method_3_code 4 = .ok (.aload_n 0, 1) := by decide +kernel
theorem d_hol_5 : decode prog_52_method_3_code 5 = .ok (.getfield 7, 3) := by decide +kernel
theorem d_hol_8 : decode prog_52_method_3_code 8 = .ok (.istore_n 2, 1) := by decide +kernel
theorem d_hol_9 : decode prog_52_method_3_code 9 = .ok (.goto 20, 3) := by decide +kernel
theorem d_hol_29 : decode prog_52_method_3_code 29 = .ok (.iload_n 2, 1) := by decide +kernel
theorem d_hol_30 : decode prog_52_method_3_code 30 = .ok (.ireturn, 1) := by decide +kernel
theorem d_hol_12 : decode prog_52_method_3_code 12 = .ok (.iload_n 1, 1) := by decide +kernel
theorem d_hol_13 : decode prog_52_method_3_code 13 = .ok (.ifCond .ne 11, 3) := by decide +kernel
theorem d_hol_16 : decode prog_52_method_3_code 16 = .ok (.aload_n 0, 1) := by decide +kernel
theorem d_hol_17 : decode prog_52_method_3_code 17 = .ok (.getfield 13, 3) := by decide +kernel
theorem d_hol_20 : decode prog_52_method_3_code 20 = .ok (.istore_n 2, 1) := by decide +kernel
theorem d_hol_21 : decode prog_52_method_3_code 21 = .ok (.goto 8, 3) := by decide +kernel
theorem d_hol_24 : decode prog_52_method_3_code 24 = .ok (.aload_n 0, 1) := by decide +kernel
theorem d_hol_25 : decode prog_52_method_3_code 25 = .ok (.getfield 16, 3) := by decide +kernel
theorem d_hol_28 : decode prog_52_method_3_code 28 = .ok (.istore_n 2, 1) := by decide +kernel
theorem ef_hol (m : MethodId) (x0 : Addr) (x1 : Int32) : entryFrame m #[(.ref x0), (.int x1)] 3 = mkF m 0 #[.val (.ref x0), .val (.int x1), .unset] [] := by first | (simp [entryFrame, mkF, argsToLocals, Value.category]; done) | rfl
def Q_hol (Z : State) (a : Addr) (p1 q1 q2 q3 : Int32) (h0 : Heap) (n0 : Nat) (v : Option Value) (h : Heap) (L : List Loc) : Prop := v = some (.int (nar .boolean (if p1 < (0 : Int32) then q1 else if p1 = (0 : Int32) then q2 else q3))) ∧ Fr n0 L ∧ h = h0
set_option maxRecDepth 65536 in
set_option maxHeartbeats 40000000 in
theorem rm_hol (l : Launch) (Z : State) (a0 : Array Value) (hw : ∀ d ∈ tables_1, d.before a0 Z = true) (ws : List Jvm.Cond) (a : Addr) (p1 q1 q2 q3 : Int32) (h0 : Heap) (n0 : Nat) (Z0 : n0 ≤ h0.size) (F0 : Fld Z h0 a "com/example/intercept_rows/interceptrows/engine/Ordering" "whenBefore" "Z" (.int q1)) (F1 : Fld Z h0 a "com/example/intercept_rows/interceptrows/engine/Ordering" "whenEqual" "Z" (.int q2)) (F2 : Fld Z h0 a "com/example/intercept_rows/interceptrows/engine/Ordering" "whenAfter" "Z" (.int q3)) :
    MetFree l (⟨"com/example/intercept_rows/interceptrows/engine/Ordering", "holds", "(I)Z"⟩ : MethodName) (head1 (Jvm.Cond.code (⟨"com/example/intercept_rows/interceptrows/engine/Ordering", "holds", "(I)Z"⟩ : MethodName) prog_52_method_3_code 3 (some .boolean) :: ws) ({ frames := 0, cells := 0, slots := 0, locals := 0 } : Room)) (fun a_ U => a_ = #[(.ref a), (.int p1)] ∧ Z.Warmed39 U.vm ∧ U.heap = h0) (fun _ _ _ _ _ => True) (fun _ U o U' => ∃ v L, o = .returned v ∧ Q_hol Z a p1 q1 q2 q3 h0 n0 v U'.heap L ∧ FrameEnd U o U' L ({ frames := 0, cells := 0, slots := 0, locals := 0 } : Room).cells ({ frames := 0, cells := 0, slots := 0, locals := 0 } : Room).slots) := by
  refine MetFree.of_bodySF (plainFor_of_name pn_com_example_intercept_rows_interceptrows_engine_Ordering) hisR ?_
  intro p e s m args below meth c s₁ Bd hml0 hP hK
  obtain ⟨rfl, hZ, hh⟩ := hP
  have hx := Bd.exec
  have hby := Bd.bytes
  have hml : c.maxLocals = 3 := hml0
  have hown : s.vm.findClass "com/example/intercept_rows/interceptrows/engine/Ordering" = some m.cls := findClass_of_methodNamed Bd.named
  have hnm := (name_of_methodNamed Bd.named Bd.method).1
  have X0 : Stand p l e ({ frames := 0, cells := 0, slots := 0, locals := 0 } : Room) s m #[(.ref a), (.int p1)] below meth c s₁ [] 0 0 := Stand.of_body Bd
  have e0 : s₁.heap = h0 := by rw [← hh, Bd.state]; rfl
  have N0 := Fr.nil n0
  have hlk := Bd.notSynchronized
  have hret := Bd.returns
  show OGo p e below (OEnd s (Q_hol Z a p1 q1 q2 q3 h0 n0) ({ frames := 0, cells := 0, slots := 0, locals := 0 } : Room).cells ({ frames := 0, cells := 0, slots := 0, locals := 0 } : Room).slots) (s₁.setTop (entryFrame m #[(.ref a), (.int p1)] 3))
  rw [ef_hol]
  show OGo p e below _ (s₁.setTop (mkF m 0 #[.val (.ref a), .val (.int p1), .unset] []))
  refine OGo.by_ (fun t k => XS.iloadN X0.here hx rfl (hb hby d_hol_0) rfl k) ?_
  show OGo p e below _ (s₁.setTop (mkF m 1 #[.val (.ref a), .val (.int p1), .unset] [(.int p1)]))
  by_cases hc1 : p1 < (0 : Int32)
  · refine OGo.by_ (fun t k => XS.ifNo X0.here hx rfl (hb hby d_hol_1) rfl ((if0 _ _).trans (tlt hc1).2.1) k) ?_
    show OGo p e below _ (s₁.setTop (mkF m 4 #[.val (.ref a), .val (.int p1), .unset] []))
    refine OGo.by_ (fun t k => XS.aloadN X0.here hx rfl (hb hby d_hol_4) rfl rfl k) ?_
    show OGo p e below _ (s₁.setTop (mkF m 5 #[.val (.ref a), .val (.int p1), .unset] [(.ref a)]))
    obtain ⟨T1, X1, e1, st1⟩ := getF X0 hx hZ hown (host := "") (Or.inl (hw _ (List.mem_of_getElem? (i := 9) rfl))) Via.refl e0 F0 (g := (mkF m 5 #[.val (.ref a), .val (.int p1), .unset] [(.ref a)])) rfl rfl (hb hby d_hol_5)
    refine OGo.by_ st1 ?_
    show OGo p e below _ (T1.setTop (mkF m 8 #[.val (.ref a), .val (.int p1), .unset] [(.int q1)]))
    refine OGo.by_ (fun t k => XS.istoreN X1.here hx rfl (hb hby d_hol_8) rfl (l' := #[.val (.ref a), .val (.int p1), .val (.int q1)]) rfl k) ?_
    show OGo p e below _ (T1.setTop (mkF m 9 #[.val (.ref a), .val (.int p1), .val (.int q1)] []))
    refine OGo.by_ (fun t k => XS.goto X1.here hx rfl (pc0 := 9) (pc' := 29) rfl (hb hby d_hol_9) (by decide) (by decide) k) ?_
    show OGo p e below _ (T1.setTop (mkF m 29 #[.val (.ref a), .val (.int p1), .val (.int q1)] []))
    refine OGo.by_ (fun t k => XS.iloadN X1.here hx rfl (hb hby d_hol_29) rfl k) ?_
    show OGo p e below _ (T1.setTop (mkF m 30 #[.val (.ref a), .val (.int p1), .val (.int q1)] [(.int q1)]))
    exact own_retN X1 hx hlk (t := .boolean) hret (by simp) (hb hby d_hol_30) (by decide) (by decide) (⟨by simp only [if_pos hc1], N0, e1⟩)
  · refine OGo.by_ (fun t k => XS.ifYes X0.here hx rfl (pc0 := 1) (pc' := 12) rfl (hb hby d_hol_1) rfl ((if0 _ _).trans (flt hc1).2.1) (by decide) (by decide) k) ?_
    show OGo p e below _ (s₁.setTop (mkF m 12 #[.val (.ref a), .val (.int p1), .unset] []))
    refine OGo.by_ (fun t k => XS.iloadN X0.here hx rfl (hb hby d_hol_12) rfl k) ?_
    show OGo p e below _ (s₁.setTop (mkF m 13 #[.val (.ref a), .val (.int p1), .unset] [(.int p1)]))
    by_cases hc13 : p1 = (0 : Int32)
    · refine OGo.by_ (fun t k => XS.ifNo X0.here hx rfl (hb hby d_hol_13) rfl ((if0 _ _).trans (teq hc13).2) k) ?_
      show OGo p e below _ (s₁.setTop (mkF m 16 #[.val (.ref a), .val (.int p1), .unset] []))
      refine OGo.by_ (fun t k => XS.aloadN X0.here hx rfl (hb hby d_hol_16) rfl rfl k) ?_
      show OGo p e below _ (s₁.setTop (mkF m 17 #[.val (.ref a), .val (.int p1), .unset] [(.ref a)]))
      obtain ⟨T2, X2, e2, st2⟩ := getF X0 hx hZ hown (host := "") (Or.inl (hw _ (List.mem_of_getElem? (i := 11) rfl))) Via.refl e0 F1 (g := (mkF m 17 #[.val (.ref a), .val (.int p1), .unset] [(.ref a)])) rfl rfl (hb hby d_hol_17)
      refine OGo.by_ st2 ?_
      show OGo p e below _ (T2.setTop (mkF m 20 #[.val (.ref a), .val (.int p1), .unset] [(.int q2)]))
      refine OGo.by_ (fun t k => XS.istoreN X2.here hx rfl (hb hby d_hol_20) rfl (l' := #[.val (.ref a), .val (.int p1), .val (.int q2)]) rfl k) ?_
      show OGo p e below _ (T2.setTop (mkF m 21 #[.val (.ref a), .val (.int p1), .val (.int q2)] []))
      refine OGo.by_ (fun t k => XS.goto X2.here hx rfl (pc0 := 21) (pc' := 29) rfl (hb hby d_hol_21) (by decide) (by decide) k) ?_
      show OGo p e below _ (T2.setTop (mkF m 29 #[.val (.ref a), .val (.int p1), .val (.int q2)] []))
      refine OGo.by_ (fun t k => XS.iloadN X2.here hx rfl (hb hby d_hol_29) rfl k) ?_
      show OGo p e below _ (T2.setTop (mkF m 30 #[.val (.ref a), .val (.int p1), .val (.int q2)] [(.int q2)]))
      exact own_retN X2 hx hlk (t := .boolean) hret (by simp) (hb hby d_hol_30) (by decide) (by decide) (⟨by simp only [if_neg hc1, if_pos hc13], N0, e2⟩)
    · refine OGo.by_ (fun t k => XS.ifYes X0.here hx rfl (pc0 := 13) (pc' := 24) rfl (hb hby d_hol_13) rfl ((if0 _ _).trans (feq hc13).2) (by decide) (by decide) k) ?_
      show OGo p e below _ (s₁.setTop (mkF m 24 #[.val (.ref a), .val (.int p1), .unset] []))
      refine OGo.by_ (fun t k => XS.aloadN X0.here hx rfl (hb hby d_hol_24) rfl rfl k) ?_
      show OGo p e below _ (s₁.setTop (mkF m 25 #[.val (.ref a), .val (.int p1), .unset] [(.ref a)]))
      obtain ⟨T3, X3, e3, st3⟩ := getF X0 hx hZ hown (host := "") (Or.inl (hw _ (List.mem_of_getElem? (i := 13) rfl))) Via.refl e0 F2 (g := (mkF m 25 #[.val (.ref a), .val (.int p1), .unset] [(.ref a)])) rfl rfl (hb hby d_hol_25)
      refine OGo.by_ st3 ?_
      show OGo p e below _ (T3.setTop (mkF m 28 #[.val (.ref a), .val (.int p1), .unset] [(.int q3)]))
      refine OGo.by_ (fun t k => XS.istoreN X3.here hx rfl (hb hby d_hol_28) rfl (l' := #[.val (.ref a), .val (.int p1), .val (.int q3)]) rfl k) ?_
      show OGo p e below _ (T3.setTop (mkF m 29 #[.val (.ref a), .val (.int p1), .val (.int q3)] []))
      refine OGo.by_ (fun t k => XS.iloadN X3.here hx rfl (hb hby d_hol_29) rfl k) ?_
      show OGo p e below _ (T3.setTop (mkF m 30 #[.val (.ref a), .val (.int p1), .val (.int q3)] [(.int q3)]))
      exact own_retN X3 hx hlk (t := .boolean) hret (by simp) (hb hby d_hol_30) (by decide) (by decide) (⟨by simp only [if_neg hc1, if_neg hc13], N0, e3⟩)
theorem own_bitk (x : BitVec 32) (k : Nat) (hk : k < 32) : (x.sshiftRight k &&& 1#32 = 0#32) ↔ (x &&& BitVec.twoPow 32 k = 0#32) := by
  have h1 : (1#32) = BitVec.twoPow 32 0 := rfl
  have h2 : ∀ j, j < 32 → BitVec.twoPow 32 j ≠ 0#32 := by decide
  have h3 : (x.sshiftRight k).getLsbD 0 = x.getLsbD k := by
    rw [BitVec.getLsbD_sshiftRight]
    simp [hk]
  rw [h1, BitVec.and_twoPow, BitVec.and_twoPow, h3]
  by_cases hb : x.getLsbD k = true
  · rw [if_pos hb, if_pos hb]
    exact ⟨fun q => absurd q (h2 0 (by decide)), fun q => absurd q (h2 k hk)⟩
  · rw [if_neg hb, if_neg hb]
theorem own_z (a : Int32) : a = 0 ↔ a.toBitVec = 0#32 := by
  rw [← Int32.toBitVec_inj]; rfl
theorem own_bit0 (p : Int32) : (((p >>> ((0 : Int32) &&& 31)) &&& (1 : Int32)) = (0 : Int32)) ↔ ((p &&& (1 : Int32)) = (0 : Int32)) := by
  rw [own_z, own_z]; exact own_bitk p.toBitVec 0 (by decide)
theorem own_bit1 (p : Int32) : (((p >>> ((1 : Int32) &&& 31)) &&& (1 : Int32)) = (0 : Int32)) ↔ ((p &&& (2 : Int32)) = (0 : Int32)) := by
  rw [own_z, own_z]; exact own_bitk p.toBitVec 1 (by decide)
theorem own_bit2 (p : Int32) : (((p >>> ((2 : Int32) &&& 31)) &&& (1 : Int32)) = (0 : Int32)) ↔ ((p &&& (4 : Int32)) = (0 : Int32)) := by
  rw [own_z, own_z]; exact own_bitk p.toBitVec 2 (by decide)
theorem own_sar (x : Int32) : (x >>> ((31 : Int32) &&& 31)).toInt = x.toInt / 2147483648 := by
  have e : (x >>> ((31 : Int32) &&& 31)).toInt = (x.toBitVec.sshiftRight 31).toInt := rfl
  rw [e, BitVec.toInt_sshiftRight, Int.shiftRight_eq_div_pow]; rfl
theorem own_sgn (p : Int32) : (p < 0 → ((p >>> ((31 : Int32) &&& 31)) ||| (((-p).toUInt32 >>> ((31 : Int32) &&& 31).toUInt32).toInt32)) = -1) ∧ (p = 0 → ((p >>> ((31 : Int32) &&& 31)) ||| (((-p).toUInt32 >>> ((31 : Int32) &&& 31).toUInt32).toInt32)) = 0) ∧ (¬ p < 0 → ¬ p = 0 → ((p >>> ((31 : Int32) &&& 31)) ||| (((-p).toUInt32 >>> ((31 : Int32) &&& 31).toUInt32).toInt32)) = 1) := by
  have hs := own_sar p
  have hr := rng32 p
  refine ⟨fun h => ?_, fun h => ?_, fun h1 h2 => ?_⟩
  · rw [Int32.lt_iff_toInt_lt] at h
    have e0 : (0 : Int32).toInt = 0 := by decide
    have e : (p >>> ((31 : Int32) &&& 31)) = -1 := by
      rw [← Int32.toInt_inj, hs]
      have e1 : (-1 : Int32).toInt = -1 := by decide
      omega
    rw [e, ← Int32.toBitVec_inj]
    show (BitVec.allOnes 32) ||| _ = BitVec.allOnes 32
    exact BitVec.allOnes_or
  · subst h; decide
  · rw [Int32.lt_iff_toInt_lt] at h1
    have e0 : (0 : Int32).toInt = 0 := by decide
    have h2' : ¬ p.toInt = 0 := fun q => h2 (Int32.toInt_inj.mp (q.trans e0.symm))
    have e : (p >>> ((31 : Int32) &&& 31)) = 0 := by
      rw [← Int32.toInt_inj, hs]
      omega
    have hp : p.toInt = p.toBitVec.toInt := rfl
    have hl := p.toBitVec.isLt
    have hn : p.toBitVec.toNat < 2 ^ 31 ∧ 0 < p.toBitVec.toNat := by
      rw [hp, BitVec.toInt_eq_toNat_cond] at h1 h2'
      rw [e0] at h1
      split at h1
      · rw [if_pos (by assumption)] at h2'
        omega
      · exfalso; omega
    have e2 : (((-p).toUInt32 >>> ((31 : Int32) &&& 31).toUInt32).toInt32) = 1 := by
      rw [← Int32.toBitVec_inj]
      show (-p.toBitVec) >>> 31 = 1#32
      apply BitVec.eq_of_toNat_eq
      rw [BitVec.toNat_ushiftRight, BitVec.toNat_neg, Nat.shiftRight_eq_div_pow]
      show _ = 1
      omega
    rw [e, e2]; rfl
theorem own_nbool (q : Prop) [Decidable q] : nar .boolean (if q then (0 : Int32) else (1 : Int32)) = (if q then (0 : Int32) else (1 : Int32)) := by split <;> rfl
theorem own_plain (p1 p2 : Int32) : (nar .boolean (if p2 < (0 : Int32) then (nar .boolean (if (p1 &&& (1 : Int32)) = (0 : Int32) then (0 : Int32) else (1 : Int32))) else if p2 = (0 : Int32) then (nar .boolean (if (p1 &&& (2 : Int32)) = (0 : Int32) then (0 : Int32) else (1 : Int32))) else (nar .boolean (if (p1 &&& (4 : Int32)) = (0 : Int32) then (0 : Int32) else (1 : Int32))))) = (if ((p1 >>> ((((p2 >>> ((31 : Int32) &&& 31)) ||| (((-p2).toUInt32 >>> ((31 : Int32) &&& 31).toUInt32).toInt32)) + (1 : Int32)) &&& 31)) &&& (1 : Int32)) = (0 : Int32) then (0 : Int32) else (1 : Int32)) := by
  obtain ⟨s1, s2, s3⟩ := own_sgn p2
  by_cases h1 : p2 < 0
  · rw [if_pos h1, s1 h1, own_nbool, own_nbool]
    have e : ((-1 : Int32) + (1 : Int32)) = 0 := by decide
    rw [e]
    simp only [own_bit0]
  · rw [if_neg h1]
    by_cases h2 : p2 = 0
    · rw [if_pos h2, s2 h2, own_nbool, own_nbool]
      have e : ((0 : Int32) + (1 : Int32)) = 1 := by decide
      rw [e]
      simp only [own_bit1]
    · rw [if_neg h2, s3 h1 h2, own_nbool, own_nbool]
      have e : ((1 : Int32) + (1 : Int32)) = 2 := by decide
      rw [e]
      simp only [own_bit2]
theorem pd_oZZZcV : parseMethodDescriptor "(ZZZ)V" = some ⟨[.boolean, .boolean, .boolean], none⟩ := by decide +kernel
theorem pd_oIcZ : parseMethodDescriptor "(I)Z" = some ⟨[.int], some .boolean⟩ := by decide +kernel
theorem pn_com_example_intercept_rows_interceptrows_engine_OrderingHoldsPinLaw : plainName "com/example/intercept_rows/interceptrows/engine/OrderingHoldsPinLaw" = true := by first | (simp [plainName, overriddenIn]; done) | decide +kernel
theorem ef_law (m : MethodId) (x0 : Int32) (x1 : Int32) : entryFrame m #[(.int x0), (.int x1)] maxLocals = mkF m 0 #[.val (.int x0), .val (.int x1), .unset, .unset, .unset, .unset, .unset, .unset, .unset] [] := by first | (simp [entryFrame, mkF, argsToLocals, Value.category, maxLocals]; done) | rfl
def Q_law (Z : State) (p1 p2 : Int32) (h0 : Heap) (n0 : Nat) (v : Option Value) (h : Heap) (L : List Loc) : Prop := v = some (.int 1) ∧ Fr n0 L
set_option maxRecDepth 65536 in
set_option maxHeartbeats 40000000 in
theorem rm_law (l : Launch) (Z : State) (a0 : Array Value) (hw : ∀ d ∈ tables_1, d.before a0 Z = true) (ws : List Jvm.Cond) (p1 p2 : Int32) (h0 : Heap) (n0 : Nat) (Z0 : n0 ≤ h0.size)  :
    MetFree l x (head1 (Jvm.Cond.code x code maxLocals ret :: ws) room_1) (fun a_ U => a_ = #[(.int p1), (.int p2)] ∧ Z.Warmed39 U.vm ∧ U.heap = h0) (fun _ _ _ _ _ => True) (fun _ U o U' => ∃ v L, o = .returned v ∧ Q_law Z p1 p2 h0 n0 v U'.heap L ∧ FrameEnd U o U' L room_1.cells room_1.slots) := by
  refine MetFree.of_bodySF (plainFor_of_name pn_com_example_intercept_rows_interceptrows_engine_OrderingHoldsPinLaw) hisR ?_
  intro p e s m args below meth c s₁ Bd hml0 hP hK
  obtain ⟨rfl, hZ, hh⟩ := hP
  have hx := Bd.exec
  have hby := Bd.bytes
  have hml : c.maxLocals = 9 := hml0
  have hown : s.vm.findClass "com/example/intercept_rows/interceptrows/engine/OrderingHoldsPinLaw" = some m.cls := findClass_of_methodNamed Bd.named
  have hnm := (name_of_methodNamed Bd.named Bd.method).1
  have X0 : Stand p l e room_1 s m #[(.int p1), (.int p2)] below meth c s₁ [] 0 0 := Stand.of_body Bd
  have e0 : s₁.heap = h0 := by rw [← hh, Bd.state]; rfl
  have N0 := Fr.nil n0
  have hlk := Bd.notSynchronized
  have hret := Bd.returns
  show OGo p e below (OEnd s (Q_law Z p1 p2 h0 n0) room_1.cells room_1.slots) (s₁.setTop (entryFrame m #[(.int p1), (.int p2)] maxLocals))
  rw [ef_law]
  show OGo p e below _ (s₁.setTop (mkF m 0 #[.val (.int p1), .val (.int p2), .unset, .unset, .unset, .unset, .unset, .unset, .unset] []))
  refine OGo.by_ (fun t k => XS.iloadN X0.here hx rfl (hb hby at_0) rfl k) ?_
  show OGo p e below _ (s₁.setTop (mkF m 1 #[.val (.int p1), .val (.int p2), .unset, .unset, .unset, .unset, .unset, .unset, .unset] [(.int p1)]))
  refine OGo.by_ (fun t k => XS.iconst X0.here hx rfl (hb hby at_1) k) ?_
  show OGo p e below _ (s₁.setTop (mkF m 2 #[.val (.int p1), .val (.int p2), .unset, .unset, .unset, .unset, .unset, .unset, .unset] [(.int (1 : Int32)), (.int p1)]))
  refine OGo.by_ (fun t k => XS.iand X0.here hx rfl (hb hby at_2) rfl k) ?_
  show OGo p e below _ (s₁.setTop (mkF m 3 #[.val (.int p1), .val (.int p2), .unset, .unset, .unset, .unset, .unset, .unset, .unset] [(.int (p1 &&& (1 : Int32)))]))
  have D1 : ∀ t, Steps p.tables e below (s₁.setTop (mkF m 11 #[.val (.int p1), .val (.int p2), .unset, .unset, .unset, .unset, .unset, .unset, .unset] [(.int (if (p1 &&& (1 : Int32)) = (0 : Int32) then (0 : Int32) else (1 : Int32)))])) t → Steps p.tables e below (s₁.setTop (mkF m 3 #[.val (.int p1), .val (.int p2), .unset, .unset, .unset, .unset, .unset, .unset, .unset] [(.int (p1 &&& (1 : Int32)))])) t := by
    intro t k
    by_cases hc : (p1 &&& (1 : Int32)) = (0 : Int32)
    · rw [show (if (p1 &&& (1 : Int32)) = (0 : Int32) then (0 : Int32) else (1 : Int32)) = (0 : Int32) from if_pos hc] at k
      refine XS.ifYes X0.here hx rfl (pc0 := 3) (pc' := 10) rfl (hb hby at_3) rfl ((if0 _ _).trans (teq hc).1) (by decide) (by decide) ?_
      show Steps p.tables e below (s₁.setTop (mkF m 10 #[.val (.int p1), .val (.int p2), .unset, .unset, .unset, .unset, .unset, .unset, .unset] [])) _
      refine XS.iconst X0.here hx rfl (hb hby at_10) ?_
      show Steps p.tables e below (s₁.setTop (mkF m 11 #[.val (.int p1), .val (.int p2), .unset, .unset, .unset, .unset, .unset, .unset, .unset] [(.int (0 : Int32))])) _
      first | exact k | (simp only [if_pos hc]; exact k)
    · rw [show (if (p1 &&& (1 : Int32)) = (0 : Int32) then (0 : Int32) else (1 : Int32)) = (1 : Int32) from if_neg hc] at k
      refine XS.ifNo X0.here hx rfl (hb hby at_3) rfl ((if0 _ _).trans (feq hc).1) ?_
      show Steps p.tables e below (s₁.setTop (mkF m 6 #[.val (.int p1), .val (.int p2), .unset, .unset, .unset, .unset, .unset, .unset, .unset] [])) _
      refine XS.iconst X0.here hx rfl (hb hby at_6) ?_
      show Steps p.tables e below (s₁.setTop (mkF m 7 #[.val (.int p1), .val (.int p2), .unset, .unset, .unset, .unset, .unset, .unset, .unset] [(.int (1 : Int32))])) _
      refine XS.goto X0.here hx rfl (pc0 := 7) (pc' := 11) rfl (hb hby at_7) (by decide) (by decide) ?_
      show Steps p.tables e below (s₁.setTop (mkF m 11 #[.val (.int p1), .val (.int p2), .unset, .unset, .unset, .unset, .unset, .unset, .unset] [(.int (1 : Int32))])) _
      first | exact k | (simp only [if_neg hc]; exact k)
  refine OGo.by_ D1 ?_
  show OGo p e below _ (s₁.setTop (mkF m 11 #[.val (.int p1), .val (.int p2), .unset, .unset, .unset, .unset, .unset, .unset, .unset] [(.int (if (p1 &&& (1 : Int32)) = (0 : Int32) then (0 : Int32) else (1 : Int32)))]))
  refine OGo.by_ (fun t k => XS.istoreN X0.here hx rfl (hb hby at_11) rfl (l' := #[.val (.int p1), .val (.int p2), .val (.int (if (p1 &&& (1 : Int32)) = (0 : Int32) then (0 : Int32) else (1 : Int32))), .unset, .unset, .unset, .unset, .unset, .unset]) rfl k) ?_
  show OGo p e below _ (s₁.setTop (mkF m 12 #[.val (.int p1), .val (.int p2), .val (.int (if (p1 &&& (1 : Int32)) = (0 : Int32) then (0 : Int32) else (1 : Int32))), .unset, .unset, .unset, .unset, .unset, .unset] []))
  refine OGo.by_ (fun t k => XS.iloadN X0.here hx rfl (hb hby at_12) rfl k) ?_
  show OGo p e below _ (s₁.setTop (mkF m 13 #[.val (.int p1), .val (.int p2), .val (.int (if (p1 &&& (1 : Int32)) = (0 : Int32) then (0 : Int32) else (1 : Int32))), .unset, .unset, .unset, .unset, .unset, .unset] [(.int p1)]))
  refine OGo.by_ (fun t k => XS.iconst X0.here hx rfl (hb hby at_13) k) ?_
  show OGo p e below _ (s₁.setTop (mkF m 14 #[.val (.int p1), .val (.int p2), .val (.int (if (p1 &&& (1 : Int32)) = (0 : Int32) then (0 : Int32) else (1 : Int32))), .unset, .unset, .unset, .unset, .unset, .unset] [(.int (2 : Int32)), (.int p1)]))
  refine OGo.by_ (fun t k => XS.iand X0.here hx rfl (hb hby at_14) rfl k) ?_
  show OGo p e below _ (s₁.setTop (mkF m 15 #[.val (.int p1), .val (.int p2), .val (.int (if (p1 &&& (1 : Int32)) = (0 : Int32) then (0 : Int32) else (1 : Int32))), .unset, .unset, .unset, .unset, .unset, .unset] [(.int (p1 &&& (2 : Int32)))]))
  have D2 : ∀ t, Steps p.tables e below (s₁.setTop (mkF m 23 #[.val (.int p1), .val (.int p2), .val (.int (if (p1 &&& (1 : Int32)) = (0 : Int32) then (0 : Int32) else (1 : Int32))), .unset, .unset, .unset, .unset, .unset, .unset] [(.int (if (p1 &&& (2 : Int32)) = (0 : Int32) then (0 : Int32) else (1 : Int32)))])) t → Steps p.tables e below (s₁.setTop (mkF m 15 #[.val (.int p1), .val (.int p2), .val (.int (if (p1 &&& (1 : Int32)) = (0 : Int32) then (0 : Int32) else (1 : Int32))), .unset, .unset, .unset, .unset, .unset, .unset] [(.int (p1 &&& (2 : Int32)))])) t := by
    intro t k
    by_cases hc : (p1 &&& (2 : Int32)) = (0 : Int32)
    · rw [show (if (p1 &&& (2 : Int32)) = (0 : Int32) then (0 : Int32) else (1 : Int32)) = (0 : Int32) from if_pos hc] at k
      refine XS.ifYes X0.here hx rfl (pc0 := 15) (pc' := 22) rfl (hb hby at_15) rfl ((if0 _ _).trans (teq hc).1) (by decide) (by decide) ?_
      show Steps p.tables e below (s₁.setTop (mkF m 22 #[.val (.int p1), .val (.int p2), .val (.int (if (p1 &&& (1 : Int32)) = (0 : Int32) then (0 : Int32) else (1 : Int32))), .unset, .unset, .unset, .unset, .unset, .unset] [])) _
      refine XS.iconst X0.here hx rfl (hb hby at_22) ?_
      show Steps p.tables e below (s₁.setTop (mkF m 23 #[.val (.int p1), .val (.int p2), .val (.int (if (p1 &&& (1 : Int32)) = (0 : Int32) then (0 : Int32) else (1 : Int32))), .unset, .unset, .unset, .unset, .unset, .unset] [(.int (0 : Int32))])) _
      first | exact k | (simp only [if_pos hc]; exact k)
    · rw [show (if (p1 &&& (2 : Int32)) = (0 : Int32) then (0 : Int32) else (1 : Int32)) = (1 : Int32) from if_neg hc] at k
      refine XS.ifNo X0.here hx rfl (hb hby at_15) rfl ((if0 _ _).trans (feq hc).1) ?_
      show Steps p.tables e below (s₁.setTop (mkF m 18 #[.val (.int p1), .val (.int p2), .val (.int (if (p1 &&& (1 : Int32)) = (0 : Int32) then (0 : Int32) else (1 : Int32))), .unset, .unset, .unset, .unset, .unset, .unset] [])) _
      refine XS.iconst X0.here hx rfl (hb hby at_18) ?_
      show Steps p.tables e below (s₁.setTop (mkF m 19 #[.val (.int p1), .val (.int p2), .val (.int (if (p1 &&& (1 : Int32)) = (0 : Int32) then (0 : Int32) else (1 : Int32))), .unset, .unset, .unset, .unset, .unset, .unset] [(.int (1 : Int32))])) _
      refine XS.goto X0.here hx rfl (pc0 := 19) (pc' := 23) rfl (hb hby at_19) (by decide) (by decide) ?_
      show Steps p.tables e below (s₁.setTop (mkF m 23 #[.val (.int p1), .val (.int p2), .val (.int (if (p1 &&& (1 : Int32)) = (0 : Int32) then (0 : Int32) else (1 : Int32))), .unset, .unset, .unset, .unset, .unset, .unset] [(.int (1 : Int32))])) _
      first | exact k | (simp only [if_neg hc]; exact k)
  refine OGo.by_ D2 ?_
  show OGo p e below _ (s₁.setTop (mkF m 23 #[.val (.int p1), .val (.int p2), .val (.int (if (p1 &&& (1 : Int32)) = (0 : Int32) then (0 : Int32) else (1 : Int32))), .unset, .unset, .unset, .unset, .unset, .unset] [(.int (if (p1 &&& (2 : Int32)) = (0 : Int32) then (0 : Int32) else (1 : Int32)))]))
  refine OGo.by_ (fun t k => XS.istoreN X0.here hx rfl (hb hby at_23) rfl (l' := #[.val (.int p1), .val (.int p2), .val (.int (if (p1 &&& (1 : Int32)) = (0 : Int32) then (0 : Int32) else (1 : Int32))), .val (.int (if (p1 &&& (2 : Int32)) = (0 : Int32) then (0 : Int32) else (1 : Int32))), .unset, .unset, .unset, .unset, .unset]) rfl k) ?_
  show OGo p e below _ (s₁.setTop (mkF m 24 #[.val (.int p1), .val (.int p2), .val (.int (if (p1 &&& (1 : Int32)) = (0 : Int32) then (0 : Int32) else (1 : Int32))), .val (.int (if (p1 &&& (2 : Int32)) = (0 : Int32) then (0 : Int32) else (1 : Int32))), .unset, .unset, .unset, .unset, .unset] []))
  refine OGo.by_ (fun t k => XS.iloadN X0.here hx rfl (hb hby at_24) rfl k) ?_
  show OGo p e below _ (s₁.setTop (mkF m 25 #[.val (.int p1), .val (.int p2), .val (.int (if (p1 &&& (1 : Int32)) = (0 : Int32) then (0 : Int32) else (1 : Int32))), .val (.int (if (p1 &&& (2 : Int32)) = (0 : Int32) then (0 : Int32) else (1 : Int32))), .unset, .unset, .unset, .unset, .unset] [(.int p1)]))
  refine OGo.by_ (fun t k => XS.iconst X0.here hx rfl (hb hby at_25) k) ?_
  show OGo p e below _ (s₁.setTop (mkF m 26 #[.val (.int p1), .val (.int p2), .val (.int (if (p1 &&& (1 : Int32)) = (0 : Int32) then (0 : Int32) else (1 : Int32))), .val (.int (if (p1 &&& (2 : Int32)) = (0 : Int32) then (0 : Int32) else (1 : Int32))), .unset, .unset, .unset, .unset, .unset] [(.int (4 : Int32)), (.int p1)]))
  refine OGo.by_ (fun t k => XS.iand X0.here hx rfl (hb hby at_26) rfl k) ?_
  show OGo p e below _ (s₁.setTop (mkF m 27 #[.val (.int p1), .val (.int p2), .val (.int (if (p1 &&& (1 : Int32)) = (0 : Int32) then (0 : Int32) else (1 : Int32))), .val (.int (if (p1 &&& (2 : Int32)) = (0 : Int32) then (0 : Int32) else (1 : Int32))), .unset, .unset, .unset, .unset, .unset] [(.int (p1 &&& (4 : Int32)))]))
  have D3 : ∀ t, Steps p.tables e below (s₁.setTop (mkF m 35 #[.val (.int p1), .val (.int p2), .val (.int (if (p1 &&& (1 : Int32)) = (0 : Int32) then (0 : Int32) else (1 : Int32))), .val (.int (if (p1 &&& (2 : Int32)) = (0 : Int32) then (0 : Int32) else (1 : Int32))), .unset, .unset, .unset, .unset, .unset] [(.int (if (p1 &&& (4 : Int32)) = (0 : Int32) then (0 : Int32) else (1 : Int32)))])) t → Steps p.tables e below (s₁.setTop (mkF m 27 #[.val (.int p1), .val (.int p2), .val (.int (if (p1 &&& (1 : Int32)) = (0 : Int32) then (0 : Int32) else (1 : Int32))), .val (.int (if (p1 &&& (2 : Int32)) = (0 : Int32) then (0 : Int32) else (1 : Int32))), .unset, .unset, .unset, .unset, .unset] [(.int (p1 &&& (4 : Int32)))])) t := by
    intro t k
    by_cases hc : (p1 &&& (4 : Int32)) = (0 : Int32)
    · rw [show (if (p1 &&& (4 : Int32)) = (0 : Int32) then (0 : Int32) else (1 : Int32)) = (0 : Int32) from if_pos hc] at k
      refine XS.ifYes X0.here hx rfl (pc0 := 27) (pc' := 34) rfl (hb hby at_27) rfl ((if0 _ _).trans (teq hc).1) (by decide) (by decide) ?_
      show Steps p.tables e below (s₁.setTop (mkF m 34 #[.val (.int p1), .val (.int p2), .val (.int (if (p1 &&& (1 : Int32)) = (0 : Int32) then (0 : Int32) else (1 : Int32))), .val (.int (if (p1 &&& (2 : Int32)) = (0 : Int32) then (0 : Int32) else (1 : Int32))), .unset, .unset, .unset, .unset, .unset] [])) _
      refine XS.iconst X0.here hx rfl (hb hby at_34) ?_
      show Steps p.tables e below (s₁.setTop (mkF m 35 #[.val (.int p1), .val (.int p2), .val (.int (if (p1 &&& (1 : Int32)) = (0 : Int32) then (0 : Int32) else (1 : Int32))), .val (.int (if (p1 &&& (2 : Int32)) = (0 : Int32) then (0 : Int32) else (1 : Int32))), .unset, .unset, .unset, .unset, .unset] [(.int (0 : Int32))])) _
      first | exact k | (simp only [if_pos hc]; exact k)
    · rw [show (if (p1 &&& (4 : Int32)) = (0 : Int32) then (0 : Int32) else (1 : Int32)) = (1 : Int32) from if_neg hc] at k
      refine XS.ifNo X0.here hx rfl (hb hby at_27) rfl ((if0 _ _).trans (feq hc).1) ?_
      show Steps p.tables e below (s₁.setTop (mkF m 30 #[.val (.int p1), .val (.int p2), .val (.int (if (p1 &&& (1 : Int32)) = (0 : Int32) then (0 : Int32) else (1 : Int32))), .val (.int (if (p1 &&& (2 : Int32)) = (0 : Int32) then (0 : Int32) else (1 : Int32))), .unset, .unset, .unset, .unset, .unset] [])) _
      refine XS.iconst X0.here hx rfl (hb hby at_30) ?_
      show Steps p.tables e below (s₁.setTop (mkF m 31 #[.val (.int p1), .val (.int p2), .val (.int (if (p1 &&& (1 : Int32)) = (0 : Int32) then (0 : Int32) else (1 : Int32))), .val (.int (if (p1 &&& (2 : Int32)) = (0 : Int32) then (0 : Int32) else (1 : Int32))), .unset, .unset, .unset, .unset, .unset] [(.int (1 : Int32))])) _
      refine XS.goto X0.here hx rfl (pc0 := 31) (pc' := 35) rfl (hb hby at_31) (by decide) (by decide) ?_
      show Steps p.tables e below (s₁.setTop (mkF m 35 #[.val (.int p1), .val (.int p2), .val (.int (if (p1 &&& (1 : Int32)) = (0 : Int32) then (0 : Int32) else (1 : Int32))), .val (.int (if (p1 &&& (2 : Int32)) = (0 : Int32) then (0 : Int32) else (1 : Int32))), .unset, .unset, .unset, .unset, .unset] [(.int (1 : Int32))])) _
      first | exact k | (simp only [if_neg hc]; exact k)
  refine OGo.by_ D3 ?_
  show OGo p e below _ (s₁.setTop (mkF m 35 #[.val (.int p1), .val (.int p2), .val (.int (if (p1 &&& (1 : Int32)) = (0 : Int32) then (0 : Int32) else (1 : Int32))), .val (.int (if (p1 &&& (2 : Int32)) = (0 : Int32) then (0 : Int32) else (1 : Int32))), .unset, .unset, .unset, .unset, .unset] [(.int (if (p1 &&& (4 : Int32)) = (0 : Int32) then (0 : Int32) else (1 : Int32)))]))
  refine OGo.by_ (fun t k => XS.istore X0.here hx rfl (hb hby at_35) rfl (l' := #[.val (.int p1), .val (.int p2), .val (.int (if (p1 &&& (1 : Int32)) = (0 : Int32) then (0 : Int32) else (1 : Int32))), .val (.int (if (p1 &&& (2 : Int32)) = (0 : Int32) then (0 : Int32) else (1 : Int32))), .val (.int (if (p1 &&& (4 : Int32)) = (0 : Int32) then (0 : Int32) else (1 : Int32))), .unset, .unset, .unset, .unset]) rfl k) ?_
  show OGo p e below _ (s₁.setTop (mkF m 37 #[.val (.int p1), .val (.int p2), .val (.int (if (p1 &&& (1 : Int32)) = (0 : Int32) then (0 : Int32) else (1 : Int32))), .val (.int (if (p1 &&& (2 : Int32)) = (0 : Int32) then (0 : Int32) else (1 : Int32))), .val (.int (if (p1 &&& (4 : Int32)) = (0 : Int32) then (0 : Int32) else (1 : Int32))), .unset, .unset, .unset, .unset] []))
  obtain ⟨T4, h4, X4, e4, E4, A4, Dv4, -, st4⟩ := newO X0 hx hZ hown (hw _ (List.mem_of_getElem? (i := 0) rfl)) (hw _ (List.mem_of_getElem? (i := 1) rfl)) (hw _ (List.mem_of_getElem? (i := 2) rfl)) e0 (g := (mkF m 37 #[.val (.int p1), .val (.int p2), .val (.int (if (p1 &&& (1 : Int32)) = (0 : Int32) then (0 : Int32) else (1 : Int32))), .val (.int (if (p1 &&& (2 : Int32)) = (0 : Int32) then (0 : Int32) else (1 : Int32))), .val (.int (if (p1 &&& (4 : Int32)) = (0 : Int32) then (0 : Int32) else (1 : Int32))), .unset, .unset, .unset, .unset] [])) rfl (hb hby at_37) (by decide) (by decide)
  obtain ⟨o, g_o⟩ : ∃ z, z = h0.size := ⟨_, rfl⟩
  rw [← g_o] at A4 Dv4 st4
  have A_o := A4
  have lt_o := own_lt A4.lt
  have F_whenBefore_o : Fld Z h4 o "com/example/intercept_rows/interceptrows/engine/Ordering" "whenBefore" "Z" (.int (0 : Int32)) := Dv4 (Or.inr (hw _ (List.mem_of_getElem? (i := 10) rfl))) (ty := .boolean) (by decide)
  have F_whenEqual_o : Fld Z h4 o "com/example/intercept_rows/interceptrows/engine/Ordering" "whenEqual" "Z" (.int (0 : Int32)) := Dv4 (Or.inr (hw _ (List.mem_of_getElem? (i := 12) rfl))) (ty := .boolean) (by decide)
  have F_whenAfter_o : Fld Z h4 o "com/example/intercept_rows/interceptrows/engine/Ordering" "whenAfter" "Z" (.int (0 : Int32)) := Dv4 (Or.inr (hw _ (List.mem_of_getElem? (i := 14) rfl))) (ty := .boolean) (by decide)
  refine OGo.by_ st4 ?_
  show OGo p e below _ (T4.setTop (mkF m 40 #[.val (.int p1), .val (.int p2), .val (.int (if (p1 &&& (1 : Int32)) = (0 : Int32) then (0 : Int32) else (1 : Int32))), .val (.int (if (p1 &&& (2 : Int32)) = (0 : Int32) then (0 : Int32) else (1 : Int32))), .val (.int (if (p1 &&& (4 : Int32)) = (0 : Int32) then (0 : Int32) else (1 : Int32))), .unset, .unset, .unset, .unset] [(.ref o)]))
  refine OGo.by_ (fun t k => XS.dup X4.here hx rfl (hb hby at_40) rfl rfl k) ?_
  show OGo p e below _ (T4.setTop (mkF m 41 #[.val (.int p1), .val (.int p2), .val (.int (if (p1 &&& (1 : Int32)) = (0 : Int32) then (0 : Int32) else (1 : Int32))), .val (.int (if (p1 &&& (2 : Int32)) = (0 : Int32) then (0 : Int32) else (1 : Int32))), .val (.int (if (p1 &&& (4 : Int32)) = (0 : Int32) then (0 : Int32) else (1 : Int32))), .unset, .unset, .unset, .unset] [(.ref o), (.ref o)]))
  refine OGo.by_ (fun t k => XS.iloadN X4.here hx rfl (hb hby at_41) rfl k) ?_
  show OGo p e below _ (T4.setTop (mkF m 42 #[.val (.int p1), .val (.int p2), .val (.int (if (p1 &&& (1 : Int32)) = (0 : Int32) then (0 : Int32) else (1 : Int32))), .val (.int (if (p1 &&& (2 : Int32)) = (0 : Int32) then (0 : Int32) else (1 : Int32))), .val (.int (if (p1 &&& (4 : Int32)) = (0 : Int32) then (0 : Int32) else (1 : Int32))), .unset, .unset, .unset, .unset] [(.int (if (p1 &&& (1 : Int32)) = (0 : Int32) then (0 : Int32) else (1 : Int32))), (.ref o), (.ref o)]))
  refine OGo.by_ (fun t k => XS.iloadN X4.here hx rfl (hb hby at_42) rfl k) ?_
  show OGo p e below _ (T4.setTop (mkF m 43 #[.val (.int p1), .val (.int p2), .val (.int (if (p1 &&& (1 : Int32)) = (0 : Int32) then (0 : Int32) else (1 : Int32))), .val (.int (if (p1 &&& (2 : Int32)) = (0 : Int32) then (0 : Int32) else (1 : Int32))), .val (.int (if (p1 &&& (4 : Int32)) = (0 : Int32) then (0 : Int32) else (1 : Int32))), .unset, .unset, .unset, .unset] [(.int (if (p1 &&& (2 : Int32)) = (0 : Int32) then (0 : Int32) else (1 : Int32))), (.int (if (p1 &&& (1 : Int32)) = (0 : Int32) then (0 : Int32) else (1 : Int32))), (.ref o), (.ref o)]))
  refine OGo.by_ (fun t k => XS.iload X4.here hx rfl (hb hby at_43) rfl k) ?_
  show OGo p e below _ (T4.setTop (mkF m 45 #[.val (.int p1), .val (.int p2), .val (.int (if (p1 &&& (1 : Int32)) = (0 : Int32) then (0 : Int32) else (1 : Int32))), .val (.int (if (p1 &&& (2 : Int32)) = (0 : Int32) then (0 : Int32) else (1 : Int32))), .val (.int (if (p1 &&& (4 : Int32)) = (0 : Int32) then (0 : Int32) else (1 : Int32))), .unset, .unset, .unset, .unset] [(.int (if (p1 &&& (4 : Int32)) = (0 : Int32) then (0 : Int32) else (1 : Int32))), (.int (if (p1 &&& (2 : Int32)) = (0 : Int32) then (0 : Int32) else (1 : Int32))), (.int (if (p1 &&& (1 : Int32)) = (0 : Int32) then (0 : Int32) else (1 : Int32))), (.ref o), (.ref o)]))
  have Z1 : n0 ≤ h4.size := Nat.le_trans Z0 E4.1
  have go : n0 ≤ o := by omega
  obtain ⟨_, _, ⟨T5, L5, k5, n5⟩, -, X5, ⟨Lc5, hQ5, l5, y5, z5⟩, st5⟩ := X4.specialBack hx (y := (⟨"com/example/intercept_rows/interceptrows/engine/Ordering", "<init>", "(ZZZ)V"⟩ : MethodName)) rfl hown (mvT hZ (hw _ (List.mem_of_getElem? (i := 3) rfl))) (mvT hZ (hw _ (List.mem_of_getElem? (i := 4) rfl))) (mvT hZ (hw _ (List.mem_of_getElem? (i := 5) rfl))) (by decide) (backOf (W := 1) (rm_ini l Z a0 hw [] o (if (p1 &&& (1 : Int32)) = (0 : Int32) then (0 : Int32) else (1 : Int32)) (if (p1 &&& (2 : Int32)) = (0 : Int32) then (0 : Int32) else (1 : Int32)) (if (p1 &&& (4 : Int32)) = (0 : Int32) then (0 : Int32) else (1 : Int32)) h4 n0 Z1 A_o go F_whenBefore_o F_whenEqual_o F_whenAfter_o) hZ (hw _ (List.mem_of_getElem? (i := 5) rfl)) (hw _ (List.mem_of_getElem? (i := 2) rfl)) (by decide) (by decide)) (g := (mkF m 45 #[.val (.int p1), .val (.int p2), .val (.int (if (p1 &&& (1 : Int32)) = (0 : Int32) then (0 : Int32) else (1 : Int32))), .val (.int (if (p1 &&& (2 : Int32)) = (0 : Int32) then (0 : Int32) else (1 : Int32))), .val (.int (if (p1 &&& (4 : Int32)) = (0 : Int32) then (0 : Int32) else (1 : Int32))), .unset, .unset, .unset, .unset] [(.int (if (p1 &&& (4 : Int32)) = (0 : Int32) then (0 : Int32) else (1 : Int32))), (.int (if (p1 &&& (2 : Int32)) = (0 : Int32) then (0 : Int32) else (1 : Int32))), (.int (if (p1 &&& (1 : Int32)) = (0 : Int32) then (0 : Int32) else (1 : Int32))), (.ref o), (.ref o)])) rfl (by rw [hml]; rfl) (Steps.refl _) (a := o) (argsL := [(.int (if (p1 &&& (1 : Int32)) = (0 : Int32) then (0 : Int32) else (1 : Int32))), (.int (if (p1 &&& (2 : Int32)) = (0 : Int32) then (0 : Int32) else (1 : Int32))), (.int (if (p1 &&& (4 : Int32)) = (0 : Int32) then (0 : Int32) else (1 : Int32)))]) (rest := [(.ref o)]) (lenOf pd_oZZZcV rfl) rfl (by show 2 * 0 + _ ≤ _; exact Nat.le_of_eq rfl) (hb hby at_45) (fun _ _ => ⟨rfl, e4, (by decide : 1 + 0 ≤ _), (by decide : 3 + 0 ≤ _)⟩)
  dsimp only [Pt.U, Pt.locs, Pt.cells, Pt.slots] at X5 l5 y5 z5 st5 hQ5
  subst l5 y5 z5
  obtain ⟨rfl, Nq5, K5, Ex5, Fa5, Fb5, Fc5⟩ := hQ5
  have N5 := Fr.app N0 Nq5
  refine OGo.by_ (fun t k => st5.trans k) ?_
  show OGo p e below _ (T5.setTop (mkF m 48 #[.val (.int p1), .val (.int p2), .val (.int (if (p1 &&& (1 : Int32)) = (0 : Int32) then (0 : Int32) else (1 : Int32))), .val (.int (if (p1 &&& (2 : Int32)) = (0 : Int32) then (0 : Int32) else (1 : Int32))), .val (.int (if (p1 &&& (4 : Int32)) = (0 : Int32) then (0 : Int32) else (1 : Int32))), .unset, .unset, .unset, .unset] [(.ref o)]))
  have Z2 : n0 ≤ T5.heap.size := Nat.le_trans Z1 K5.1
  refine OGo.by_ (fun t k => XS.astore X5.here hx rfl (hb hby at_48) rfl rfl (l' := #[.val (.int p1), .val (.int p2), .val (.int (if (p1 &&& (1 : Int32)) = (0 : Int32) then (0 : Int32) else (1 : Int32))), .val (.int (if (p1 &&& (2 : Int32)) = (0 : Int32) then (0 : Int32) else (1 : Int32))), .val (.int (if (p1 &&& (4 : Int32)) = (0 : Int32) then (0 : Int32) else (1 : Int32))), .val (.ref o), .unset, .unset, .unset]) rfl k) ?_
  show OGo p e below _ (T5.setTop (mkF m 50 #[.val (.int p1), .val (.int p2), .val (.int (if (p1 &&& (1 : Int32)) = (0 : Int32) then (0 : Int32) else (1 : Int32))), .val (.int (if (p1 &&& (2 : Int32)) = (0 : Int32) then (0 : Int32) else (1 : Int32))), .val (.int (if (p1 &&& (4 : Int32)) = (0 : Int32) then (0 : Int32) else (1 : Int32))), .val (.ref o), .unset, .unset, .unset] []))
  refine OGo.by_ (fun t k => XS.aload X5.here hx rfl (hb hby at_50) rfl rfl k) ?_
  show OGo p e below _ (T5.setTop (mkF m 52 #[.val (.int p1), .val (.int p2), .val (.int (if (p1 &&& (1 : Int32)) = (0 : Int32) then (0 : Int32) else (1 : Int32))), .val (.int (if (p1 &&& (2 : Int32)) = (0 : Int32) then (0 : Int32) else (1 : Int32))), .val (.int (if (p1 &&& (4 : Int32)) = (0 : Int32) then (0 : Int32) else (1 : Int32))), .val (.ref o), .unset, .unset, .unset] [(.ref o)]))
  refine OGo.by_ (fun t k => XS.iloadN X5.here hx rfl (hb hby at_52) rfl k) ?_
  show OGo p e below _ (T5.setTop (mkF m 53 #[.val (.int p1), .val (.int p2), .val (.int (if (p1 &&& (1 : Int32)) = (0 : Int32) then (0 : Int32) else (1 : Int32))), .val (.int (if (p1 &&& (2 : Int32)) = (0 : Int32) then (0 : Int32) else (1 : Int32))), .val (.int (if (p1 &&& (4 : Int32)) = (0 : Int32) then (0 : Int32) else (1 : Int32))), .val (.ref o), .unset, .unset, .unset] [(.int p2), (.ref o)]))
  obtain ⟨cq7, kq7, qa7, qb7, qc7⟩ := isOf hZ rfl Ex5
  obtain ⟨_, _, ⟨T6, L6, k6, n6⟩, -, X6, ⟨Lc6, hQ6, l6, y6, z6⟩, st6⟩ := X5.virtualBack hx (y := (⟨"com/example/intercept_rows/interceptrows/engine/Ordering", "holds", "(I)Z"⟩ : MethodName)) (z := (⟨"com/example/intercept_rows/interceptrows/engine/Ordering", "holds", "(I)Z"⟩ : MethodName)) hown (mvT hZ (hw _ (List.mem_of_getElem? (i := 15) rfl))) (mvT hZ (hw _ (List.mem_of_getElem? (i := 16) rfl))) (notFace_of_selects (args := #[]) (mvT hZ (hw _ (List.mem_of_getElem? (i := 18) rfl)))) (mvT hZ (hw _ (List.mem_of_getElem? (i := 18) rfl))) (mvT hZ (hw _ (List.mem_of_getElem? (i := 17) rfl))) (by decide) (backOf (W := 0) (rm_hol l Z a0 hw [] o p2 (nar .boolean (if (p1 &&& (1 : Int32)) = (0 : Int32) then (0 : Int32) else (1 : Int32))) (nar .boolean (if (p1 &&& (2 : Int32)) = (0 : Int32) then (0 : Int32) else (1 : Int32))) (nar .boolean (if (p1 &&& (4 : Int32)) = (0 : Int32) then (0 : Int32) else (1 : Int32))) T5.heap n0 Z2 Fa5 Fb5 Fc5) hZ (hw _ (List.mem_of_getElem? (i := 19) rfl)) (hw _ (List.mem_of_getElem? (i := 2) rfl)) (by decide) (by decide)) qa7 qc7 (g := (mkF m 53 #[.val (.int p1), .val (.int p2), .val (.int (if (p1 &&& (1 : Int32)) = (0 : Int32) then (0 : Int32) else (1 : Int32))), .val (.int (if (p1 &&& (2 : Int32)) = (0 : Int32) then (0 : Int32) else (1 : Int32))), .val (.int (if (p1 &&& (4 : Int32)) = (0 : Int32) then (0 : Int32) else (1 : Int32))), .val (.ref o), .unset, .unset, .unset] [(.int p2), (.ref o)])) rfl (by rw [hml]; rfl) (Steps.refl _) (argsL := [(.int p2)]) (rest := []) (lenOf pd_oIcZ rfl) rfl (by show 2 * 0 + _ ≤ _; exact Nat.le_of_eq rfl) (hb hby at_53) (fun _ _ => ⟨rfl, rfl, (by decide : 1 + 0 ≤ _), (by decide : 3 + 0 ≤ _)⟩)
  dsimp only [Pt.U, Pt.locs, Pt.cells, Pt.slots] at X6 l6 y6 z6 st6 hQ6
  subst l6 y6 z6
  obtain ⟨rfl, Nq6, eq6⟩ := hQ6
  have N6 := Fr.app N5 Nq6
  refine OGo.by_ (fun t k => st6.trans k) ?_
  show OGo p e below _ (T6.setTop (mkF m 56 #[.val (.int p1), .val (.int p2), .val (.int (if (p1 &&& (1 : Int32)) = (0 : Int32) then (0 : Int32) else (1 : Int32))), .val (.int (if (p1 &&& (2 : Int32)) = (0 : Int32) then (0 : Int32) else (1 : Int32))), .val (.int (if (p1 &&& (4 : Int32)) = (0 : Int32) then (0 : Int32) else (1 : Int32))), .val (.ref o), .unset, .unset, .unset] [(.int (nar .boolean (if p2 < (0 : Int32) then (nar .boolean (if (p1 &&& (1 : Int32)) = (0 : Int32) then (0 : Int32) else (1 : Int32))) else if p2 = (0 : Int32) then (nar .boolean (if (p1 &&& (2 : Int32)) = (0 : Int32) then (0 : Int32) else (1 : Int32))) else (nar .boolean (if (p1 &&& (4 : Int32)) = (0 : Int32) then (0 : Int32) else (1 : Int32))))))]))
  refine OGo.by_ (fun t k => XS.istore X6.here hx rfl (hb hby at_56) rfl (l' := #[.val (.int p1), .val (.int p2), .val (.int (if (p1 &&& (1 : Int32)) = (0 : Int32) then (0 : Int32) else (1 : Int32))), .val (.int (if (p1 &&& (2 : Int32)) = (0 : Int32) then (0 : Int32) else (1 : Int32))), .val (.int (if (p1 &&& (4 : Int32)) = (0 : Int32) then (0 : Int32) else (1 : Int32))), .val (.ref o), .val (.int (nar .boolean (if p2 < (0 : Int32) then (nar .boolean (if (p1 &&& (1 : Int32)) = (0 : Int32) then (0 : Int32) else (1 : Int32))) else if p2 = (0 : Int32) then (nar .boolean (if (p1 &&& (2 : Int32)) = (0 : Int32) then (0 : Int32) else (1 : Int32))) else (nar .boolean (if (p1 &&& (4 : Int32)) = (0 : Int32) then (0 : Int32) else (1 : Int32)))))), .unset, .unset]) rfl k) ?_
  show OGo p e below _ (T6.setTop (mkF m 58 #[.val (.int p1), .val (.int p2), .val (.int (if (p1 &&& (1 : Int32)) = (0 : Int32) then (0 : Int32) else (1 : Int32))), .val (.int (if (p1 &&& (2 : Int32)) = (0 : Int32) then (0 : Int32) else (1 : Int32))), .val (.int (if (p1 &&& (4 : Int32)) = (0 : Int32) then (0 : Int32) else (1 : Int32))), .val (.ref o), .val (.int (nar .boolean (if p2 < (0 : Int32) then (nar .boolean (if (p1 &&& (1 : Int32)) = (0 : Int32) then (0 : Int32) else (1 : Int32))) else if p2 = (0 : Int32) then (nar .boolean (if (p1 &&& (2 : Int32)) = (0 : Int32) then (0 : Int32) else (1 : Int32))) else (nar .boolean (if (p1 &&& (4 : Int32)) = (0 : Int32) then (0 : Int32) else (1 : Int32)))))), .unset, .unset] []))
  refine OGo.by_ (fun t k => XS.iloadN X6.here hx rfl (hb hby at_58) rfl k) ?_
  show OGo p e below _ (T6.setTop (mkF m 59 #[.val (.int p1), .val (.int p2), .val (.int (if (p1 &&& (1 : Int32)) = (0 : Int32) then (0 : Int32) else (1 : Int32))), .val (.int (if (p1 &&& (2 : Int32)) = (0 : Int32) then (0 : Int32) else (1 : Int32))), .val (.int (if (p1 &&& (4 : Int32)) = (0 : Int32) then (0 : Int32) else (1 : Int32))), .val (.ref o), .val (.int (nar .boolean (if p2 < (0 : Int32) then (nar .boolean (if (p1 &&& (1 : Int32)) = (0 : Int32) then (0 : Int32) else (1 : Int32))) else if p2 = (0 : Int32) then (nar .boolean (if (p1 &&& (2 : Int32)) = (0 : Int32) then (0 : Int32) else (1 : Int32))) else (nar .boolean (if (p1 &&& (4 : Int32)) = (0 : Int32) then (0 : Int32) else (1 : Int32)))))), .unset, .unset] [(.int p2)]))
  refine OGo.by_ (fun t k => XS.bipush X6.here hx rfl (hb hby at_59) k) ?_
  show OGo p e below _ (T6.setTop (mkF m 61 #[.val (.int p1), .val (.int p2), .val (.int (if (p1 &&& (1 : Int32)) = (0 : Int32) then (0 : Int32) else (1 : Int32))), .val (.int (if (p1 &&& (2 : Int32)) = (0 : Int32) then (0 : Int32) else (1 : Int32))), .val (.int (if (p1 &&& (4 : Int32)) = (0 : Int32) then (0 : Int32) else (1 : Int32))), .val (.ref o), .val (.int (nar .boolean (if p2 < (0 : Int32) then (nar .boolean (if (p1 &&& (1 : Int32)) = (0 : Int32) then (0 : Int32) else (1 : Int32))) else if p2 = (0 : Int32) then (nar .boolean (if (p1 &&& (2 : Int32)) = (0 : Int32) then (0 : Int32) else (1 : Int32))) else (nar .boolean (if (p1 &&& (4 : Int32)) = (0 : Int32) then (0 : Int32) else (1 : Int32)))))), .unset, .unset] [(.int (31 : Int32)), (.int p2)]))
  refine OGo.by_ (fun t k => XS.ishr X6.here hx rfl (hb hby at_61) rfl k) ?_
  show OGo p e below _ (T6.setTop (mkF m 62 #[.val (.int p1), .val (.int p2), .val (.int (if (p1 &&& (1 : Int32)) = (0 : Int32) then (0 : Int32) else (1 : Int32))), .val (.int (if (p1 &&& (2 : Int32)) = (0 : Int32) then (0 : Int32) else (1 : Int32))), .val (.int (if (p1 &&& (4 : Int32)) = (0 : Int32) then (0 : Int32) else (1 : Int32))), .val (.ref o), .val (.int (nar .boolean (if p2 < (0 : Int32) then (nar .boolean (if (p1 &&& (1 : Int32)) = (0 : Int32) then (0 : Int32) else (1 : Int32))) else if p2 = (0 : Int32) then (nar .boolean (if (p1 &&& (2 : Int32)) = (0 : Int32) then (0 : Int32) else (1 : Int32))) else (nar .boolean (if (p1 &&& (4 : Int32)) = (0 : Int32) then (0 : Int32) else (1 : Int32)))))), .unset, .unset] [(.int (p2 >>> ((31 : Int32) &&& 31)))]))
  refine OGo.by_ (fun t k => XS.iloadN X6.here hx rfl (hb hby at_62) rfl k) ?_
  show OGo p e below _ (T6.setTop (mkF m 63 #[.val (.int p1), .val (.int p2), .val (.int (if (p1 &&& (1 : Int32)) = (0 : Int32) then (0 : Int32) else (1 : Int32))), .val (.int (if (p1 &&& (2 : Int32)) = (0 : Int32) then (0 : Int32) else (1 : Int32))), .val (.int (if (p1 &&& (4 : Int32)) = (0 : Int32) then (0 : Int32) else (1 : Int32))), .val (.ref o), .val (.int (nar .boolean (if p2 < (0 : Int32) then (nar .boolean (if (p1 &&& (1 : Int32)) = (0 : Int32) then (0 : Int32) else (1 : Int32))) else if p2 = (0 : Int32) then (nar .boolean (if (p1 &&& (2 : Int32)) = (0 : Int32) then (0 : Int32) else (1 : Int32))) else (nar .boolean (if (p1 &&& (4 : Int32)) = (0 : Int32) then (0 : Int32) else (1 : Int32)))))), .unset, .unset] [(.int p2), (.int (p2 >>> ((31 : Int32) &&& 31)))]))
  refine OGo.by_ (fun t k => XS.ineg X6.here hx rfl (hb hby at_63) rfl k) ?_
  show OGo p e below _ (T6.setTop (mkF m 64 #[.val (.int p1), .val (.int p2), .val (.int (if (p1 &&& (1 : Int32)) = (0 : Int32) then (0 : Int32) else (1 : Int32))), .val (.int (if (p1 &&& (2 : Int32)) = (0 : Int32) then (0 : Int32) else (1 : Int32))), .val (.int (if (p1 &&& (4 : Int32)) = (0 : Int32) then (0 : Int32) else (1 : Int32))), .val (.ref o), .val (.int (nar .boolean (if p2 < (0 : Int32) then (nar .boolean (if (p1 &&& (1 : Int32)) = (0 : Int32) then (0 : Int32) else (1 : Int32))) else if p2 = (0 : Int32) then (nar .boolean (if (p1 &&& (2 : Int32)) = (0 : Int32) then (0 : Int32) else (1 : Int32))) else (nar .boolean (if (p1 &&& (4 : Int32)) = (0 : Int32) then (0 : Int32) else (1 : Int32)))))), .unset, .unset] [(.int (-p2)), (.int (p2 >>> ((31 : Int32) &&& 31)))]))
  refine OGo.by_ (fun t k => XS.bipush X6.here hx rfl (hb hby at_64) k) ?_
  show OGo p e below _ (T6.setTop (mkF m 66 #[.val (.int p1), .val (.int p2), .val (.int (if (p1 &&& (1 : Int32)) = (0 : Int32) then (0 : Int32) else (1 : Int32))), .val (.int (if (p1 &&& (2 : Int32)) = (0 : Int32) then (0 : Int32) else (1 : Int32))), .val (.int (if (p1 &&& (4 : Int32)) = (0 : Int32) then (0 : Int32) else (1 : Int32))), .val (.ref o), .val (.int (nar .boolean (if p2 < (0 : Int32) then (nar .boolean (if (p1 &&& (1 : Int32)) = (0 : Int32) then (0 : Int32) else (1 : Int32))) else if p2 = (0 : Int32) then (nar .boolean (if (p1 &&& (2 : Int32)) = (0 : Int32) then (0 : Int32) else (1 : Int32))) else (nar .boolean (if (p1 &&& (4 : Int32)) = (0 : Int32) then (0 : Int32) else (1 : Int32)))))), .unset, .unset] [(.int (31 : Int32)), (.int (-p2)), (.int (p2 >>> ((31 : Int32) &&& 31)))]))
  refine OGo.by_ (fun t k => XS.iushr X6.here hx rfl (hb hby at_66) rfl k) ?_
  show OGo p e below _ (T6.setTop (mkF m 67 #[.val (.int p1), .val (.int p2), .val (.int (if (p1 &&& (1 : Int32)) = (0 : Int32) then (0 : Int32) else (1 : Int32))), .val (.int (if (p1 &&& (2 : Int32)) = (0 : Int32) then (0 : Int32) else (1 : Int32))), .val (.int (if (p1 &&& (4 : Int32)) = (0 : Int32) then (0 : Int32) else (1 : Int32))), .val (.ref o), .val (.int (nar .boolean (if p2 < (0 : Int32) then (nar .boolean (if (p1 &&& (1 : Int32)) = (0 : Int32) then (0 : Int32) else (1 : Int32))) else if p2 = (0 : Int32) then (nar .boolean (if (p1 &&& (2 : Int32)) = (0 : Int32) then (0 : Int32) else (1 : Int32))) else (nar .boolean (if (p1 &&& (4 : Int32)) = (0 : Int32) then (0 : Int32) else (1 : Int32)))))), .unset, .unset] [(.int (((-p2).toUInt32 >>> ((31 : Int32) &&& 31).toUInt32).toInt32)), (.int (p2 >>> ((31 : Int32) &&& 31)))]))
  refine OGo.by_ (fun t k => XS.ior X6.here hx rfl (hb hby at_67) rfl k) ?_
  show OGo p e below _ (T6.setTop (mkF m 68 #[.val (.int p1), .val (.int p2), .val (.int (if (p1 &&& (1 : Int32)) = (0 : Int32) then (0 : Int32) else (1 : Int32))), .val (.int (if (p1 &&& (2 : Int32)) = (0 : Int32) then (0 : Int32) else (1 : Int32))), .val (.int (if (p1 &&& (4 : Int32)) = (0 : Int32) then (0 : Int32) else (1 : Int32))), .val (.ref o), .val (.int (nar .boolean (if p2 < (0 : Int32) then (nar .boolean (if (p1 &&& (1 : Int32)) = (0 : Int32) then (0 : Int32) else (1 : Int32))) else if p2 = (0 : Int32) then (nar .boolean (if (p1 &&& (2 : Int32)) = (0 : Int32) then (0 : Int32) else (1 : Int32))) else (nar .boolean (if (p1 &&& (4 : Int32)) = (0 : Int32) then (0 : Int32) else (1 : Int32)))))), .unset, .unset] [(.int ((p2 >>> ((31 : Int32) &&& 31)) ||| (((-p2).toUInt32 >>> ((31 : Int32) &&& 31).toUInt32).toInt32)))]))
  refine OGo.by_ (fun t k => XS.istore X6.here hx rfl (hb hby at_68) rfl (l' := #[.val (.int p1), .val (.int p2), .val (.int (if (p1 &&& (1 : Int32)) = (0 : Int32) then (0 : Int32) else (1 : Int32))), .val (.int (if (p1 &&& (2 : Int32)) = (0 : Int32) then (0 : Int32) else (1 : Int32))), .val (.int (if (p1 &&& (4 : Int32)) = (0 : Int32) then (0 : Int32) else (1 : Int32))), .val (.ref o), .val (.int (nar .boolean (if p2 < (0 : Int32) then (nar .boolean (if (p1 &&& (1 : Int32)) = (0 : Int32) then (0 : Int32) else (1 : Int32))) else if p2 = (0 : Int32) then (nar .boolean (if (p1 &&& (2 : Int32)) = (0 : Int32) then (0 : Int32) else (1 : Int32))) else (nar .boolean (if (p1 &&& (4 : Int32)) = (0 : Int32) then (0 : Int32) else (1 : Int32)))))), .val (.int ((p2 >>> ((31 : Int32) &&& 31)) ||| (((-p2).toUInt32 >>> ((31 : Int32) &&& 31).toUInt32).toInt32))), .unset]) rfl k) ?_
  show OGo p e below _ (T6.setTop (mkF m 70 #[.val (.int p1), .val (.int p2), .val (.int (if (p1 &&& (1 : Int32)) = (0 : Int32) then (0 : Int32) else (1 : Int32))), .val (.int (if (p1 &&& (2 : Int32)) = (0 : Int32) then (0 : Int32) else (1 : Int32))), .val (.int (if (p1 &&& (4 : Int32)) = (0 : Int32) then (0 : Int32) else (1 : Int32))), .val (.ref o), .val (.int (nar .boolean (if p2 < (0 : Int32) then (nar .boolean (if (p1 &&& (1 : Int32)) = (0 : Int32) then (0 : Int32) else (1 : Int32))) else if p2 = (0 : Int32) then (nar .boolean (if (p1 &&& (2 : Int32)) = (0 : Int32) then (0 : Int32) else (1 : Int32))) else (nar .boolean (if (p1 &&& (4 : Int32)) = (0 : Int32) then (0 : Int32) else (1 : Int32)))))), .val (.int ((p2 >>> ((31 : Int32) &&& 31)) ||| (((-p2).toUInt32 >>> ((31 : Int32) &&& 31).toUInt32).toInt32))), .unset] []))
  refine OGo.by_ (fun t k => XS.iloadN X6.here hx rfl (hb hby at_70) rfl k) ?_
  show OGo p e below _ (T6.setTop (mkF m 71 #[.val (.int p1), .val (.int p2), .val (.int (if (p1 &&& (1 : Int32)) = (0 : Int32) then (0 : Int32) else (1 : Int32))), .val (.int (if (p1 &&& (2 : Int32)) = (0 : Int32) then (0 : Int32) else (1 : Int32))), .val (.int (if (p1 &&& (4 : Int32)) = (0 : Int32) then (0 : Int32) else (1 : Int32))), .val (.ref o), .val (.int (nar .boolean (if p2 < (0 : Int32) then (nar .boolean (if (p1 &&& (1 : Int32)) = (0 : Int32) then (0 : Int32) else (1 : Int32))) else if p2 = (0 : Int32) then (nar .boolean (if (p1 &&& (2 : Int32)) = (0 : Int32) then (0 : Int32) else (1 : Int32))) else (nar .boolean (if (p1 &&& (4 : Int32)) = (0 : Int32) then (0 : Int32) else (1 : Int32)))))), .val (.int ((p2 >>> ((31 : Int32) &&& 31)) ||| (((-p2).toUInt32 >>> ((31 : Int32) &&& 31).toUInt32).toInt32))), .unset] [(.int p1)]))
  refine OGo.by_ (fun t k => XS.iload X6.here hx rfl (hb hby at_71) rfl k) ?_
  show OGo p e below _ (T6.setTop (mkF m 73 #[.val (.int p1), .val (.int p2), .val (.int (if (p1 &&& (1 : Int32)) = (0 : Int32) then (0 : Int32) else (1 : Int32))), .val (.int (if (p1 &&& (2 : Int32)) = (0 : Int32) then (0 : Int32) else (1 : Int32))), .val (.int (if (p1 &&& (4 : Int32)) = (0 : Int32) then (0 : Int32) else (1 : Int32))), .val (.ref o), .val (.int (nar .boolean (if p2 < (0 : Int32) then (nar .boolean (if (p1 &&& (1 : Int32)) = (0 : Int32) then (0 : Int32) else (1 : Int32))) else if p2 = (0 : Int32) then (nar .boolean (if (p1 &&& (2 : Int32)) = (0 : Int32) then (0 : Int32) else (1 : Int32))) else (nar .boolean (if (p1 &&& (4 : Int32)) = (0 : Int32) then (0 : Int32) else (1 : Int32)))))), .val (.int ((p2 >>> ((31 : Int32) &&& 31)) ||| (((-p2).toUInt32 >>> ((31 : Int32) &&& 31).toUInt32).toInt32))), .unset] [(.int ((p2 >>> ((31 : Int32) &&& 31)) ||| (((-p2).toUInt32 >>> ((31 : Int32) &&& 31).toUInt32).toInt32))), (.int p1)]))
  refine OGo.by_ (fun t k => XS.iconst X6.here hx rfl (hb hby at_73) k) ?_
  show OGo p e below _ (T6.setTop (mkF m 74 #[.val (.int p1), .val (.int p2), .val (.int (if (p1 &&& (1 : Int32)) = (0 : Int32) then (0 : Int32) else (1 : Int32))), .val (.int (if (p1 &&& (2 : Int32)) = (0 : Int32) then (0 : Int32) else (1 : Int32))), .val (.int (if (p1 &&& (4 : Int32)) = (0 : Int32) then (0 : Int32) else (1 : Int32))), .val (.ref o), .val (.int (nar .boolean (if p2 < (0 : Int32) then (nar .boolean (if (p1 &&& (1 : Int32)) = (0 : Int32) then (0 : Int32) else (1 : Int32))) else if p2 = (0 : Int32) then (nar .boolean (if (p1 &&& (2 : Int32)) = (0 : Int32) then (0 : Int32) else (1 : Int32))) else (nar .boolean (if (p1 &&& (4 : Int32)) = (0 : Int32) then (0 : Int32) else (1 : Int32)))))), .val (.int ((p2 >>> ((31 : Int32) &&& 31)) ||| (((-p2).toUInt32 >>> ((31 : Int32) &&& 31).toUInt32).toInt32))), .unset] [(.int (1 : Int32)), (.int ((p2 >>> ((31 : Int32) &&& 31)) ||| (((-p2).toUInt32 >>> ((31 : Int32) &&& 31).toUInt32).toInt32))), (.int p1)]))
  refine OGo.by_ (fun t k => XS.iadd X6.here hx rfl (hb hby at_74) rfl k) ?_
  show OGo p e below _ (T6.setTop (mkF m 75 #[.val (.int p1), .val (.int p2), .val (.int (if (p1 &&& (1 : Int32)) = (0 : Int32) then (0 : Int32) else (1 : Int32))), .val (.int (if (p1 &&& (2 : Int32)) = (0 : Int32) then (0 : Int32) else (1 : Int32))), .val (.int (if (p1 &&& (4 : Int32)) = (0 : Int32) then (0 : Int32) else (1 : Int32))), .val (.ref o), .val (.int (nar .boolean (if p2 < (0 : Int32) then (nar .boolean (if (p1 &&& (1 : Int32)) = (0 : Int32) then (0 : Int32) else (1 : Int32))) else if p2 = (0 : Int32) then (nar .boolean (if (p1 &&& (2 : Int32)) = (0 : Int32) then (0 : Int32) else (1 : Int32))) else (nar .boolean (if (p1 &&& (4 : Int32)) = (0 : Int32) then (0 : Int32) else (1 : Int32)))))), .val (.int ((p2 >>> ((31 : Int32) &&& 31)) ||| (((-p2).toUInt32 >>> ((31 : Int32) &&& 31).toUInt32).toInt32))), .unset] [(.int (((p2 >>> ((31 : Int32) &&& 31)) ||| (((-p2).toUInt32 >>> ((31 : Int32) &&& 31).toUInt32).toInt32)) + (1 : Int32))), (.int p1)]))
  refine OGo.by_ (fun t k => XS.ishr X6.here hx rfl (hb hby at_75) rfl k) ?_
  show OGo p e below _ (T6.setTop (mkF m 76 #[.val (.int p1), .val (.int p2), .val (.int (if (p1 &&& (1 : Int32)) = (0 : Int32) then (0 : Int32) else (1 : Int32))), .val (.int (if (p1 &&& (2 : Int32)) = (0 : Int32) then (0 : Int32) else (1 : Int32))), .val (.int (if (p1 &&& (4 : Int32)) = (0 : Int32) then (0 : Int32) else (1 : Int32))), .val (.ref o), .val (.int (nar .boolean (if p2 < (0 : Int32) then (nar .boolean (if (p1 &&& (1 : Int32)) = (0 : Int32) then (0 : Int32) else (1 : Int32))) else if p2 = (0 : Int32) then (nar .boolean (if (p1 &&& (2 : Int32)) = (0 : Int32) then (0 : Int32) else (1 : Int32))) else (nar .boolean (if (p1 &&& (4 : Int32)) = (0 : Int32) then (0 : Int32) else (1 : Int32)))))), .val (.int ((p2 >>> ((31 : Int32) &&& 31)) ||| (((-p2).toUInt32 >>> ((31 : Int32) &&& 31).toUInt32).toInt32))), .unset] [(.int (p1 >>> ((((p2 >>> ((31 : Int32) &&& 31)) ||| (((-p2).toUInt32 >>> ((31 : Int32) &&& 31).toUInt32).toInt32)) + (1 : Int32)) &&& 31)))]))
  refine OGo.by_ (fun t k => XS.iconst X6.here hx rfl (hb hby at_76) k) ?_
  show OGo p e below _ (T6.setTop (mkF m 77 #[.val (.int p1), .val (.int p2), .val (.int (if (p1 &&& (1 : Int32)) = (0 : Int32) then (0 : Int32) else (1 : Int32))), .val (.int (if (p1 &&& (2 : Int32)) = (0 : Int32) then (0 : Int32) else (1 : Int32))), .val (.int (if (p1 &&& (4 : Int32)) = (0 : Int32) then (0 : Int32) else (1 : Int32))), .val (.ref o), .val (.int (nar .boolean (if p2 < (0 : Int32) then (nar .boolean (if (p1 &&& (1 : Int32)) = (0 : Int32) then (0 : Int32) else (1 : Int32))) else if p2 = (0 : Int32) then (nar .boolean (if (p1 &&& (2 : Int32)) = (0 : Int32) then (0 : Int32) else (1 : Int32))) else (nar .boolean (if (p1 &&& (4 : Int32)) = (0 : Int32) then (0 : Int32) else (1 : Int32)))))), .val (.int ((p2 >>> ((31 : Int32) &&& 31)) ||| (((-p2).toUInt32 >>> ((31 : Int32) &&& 31).toUInt32).toInt32))), .unset] [(.int (1 : Int32)), (.int (p1 >>> ((((p2 >>> ((31 : Int32) &&& 31)) ||| (((-p2).toUInt32 >>> ((31 : Int32) &&& 31).toUInt32).toInt32)) + (1 : Int32)) &&& 31)))]))
  refine OGo.by_ (fun t k => XS.iand X6.here hx rfl (hb hby at_77) rfl k) ?_
  show OGo p e below _ (T6.setTop (mkF m 78 #[.val (.int p1), .val (.int p2), .val (.int (if (p1 &&& (1 : Int32)) = (0 : Int32) then (0 : Int32) else (1 : Int32))), .val (.int (if (p1 &&& (2 : Int32)) = (0 : Int32) then (0 : Int32) else (1 : Int32))), .val (.int (if (p1 &&& (4 : Int32)) = (0 : Int32) then (0 : Int32) else (1 : Int32))), .val (.ref o), .val (.int (nar .boolean (if p2 < (0 : Int32) then (nar .boolean (if (p1 &&& (1 : Int32)) = (0 : Int32) then (0 : Int32) else (1 : Int32))) else if p2 = (0 : Int32) then (nar .boolean (if (p1 &&& (2 : Int32)) = (0 : Int32) then (0 : Int32) else (1 : Int32))) else (nar .boolean (if (p1 &&& (4 : Int32)) = (0 : Int32) then (0 : Int32) else (1 : Int32)))))), .val (.int ((p2 >>> ((31 : Int32) &&& 31)) ||| (((-p2).toUInt32 >>> ((31 : Int32) &&& 31).toUInt32).toInt32))), .unset] [(.int ((p1 >>> ((((p2 >>> ((31 : Int32) &&& 31)) ||| (((-p2).toUInt32 >>> ((31 : Int32) &&& 31).toUInt32).toInt32)) + (1 : Int32)) &&& 31)) &&& (1 : Int32)))]))
  have D8 : ∀ t, Steps p.tables e below (T6.setTop (mkF m 86 #[.val (.int p1), .val (.int p2), .val (.int (if (p1 &&& (1 : Int32)) = (0 : Int32) then (0 : Int32) else (1 : Int32))), .val (.int (if (p1 &&& (2 : Int32)) = (0 : Int32) then (0 : Int32) else (1 : Int32))), .val (.int (if (p1 &&& (4 : Int32)) = (0 : Int32) then (0 : Int32) else (1 : Int32))), .val (.ref o), .val (.int (nar .boolean (if p2 < (0 : Int32) then (nar .boolean (if (p1 &&& (1 : Int32)) = (0 : Int32) then (0 : Int32) else (1 : Int32))) else if p2 = (0 : Int32) then (nar .boolean (if (p1 &&& (2 : Int32)) = (0 : Int32) then (0 : Int32) else (1 : Int32))) else (nar .boolean (if (p1 &&& (4 : Int32)) = (0 : Int32) then (0 : Int32) else (1 : Int32)))))), .val (.int ((p2 >>> ((31 : Int32) &&& 31)) ||| (((-p2).toUInt32 >>> ((31 : Int32) &&& 31).toUInt32).toInt32))), .unset] [(.int (if ((p1 >>> ((((p2 >>> ((31 : Int32) &&& 31)) ||| (((-p2).toUInt32 >>> ((31 : Int32) &&& 31).toUInt32).toInt32)) + (1 : Int32)) &&& 31)) &&& (1 : Int32)) = (0 : Int32) then (0 : Int32) else (1 : Int32)))])) t → Steps p.tables e below (T6.setTop (mkF m 78 #[.val (.int p1), .val (.int p2), .val (.int (if (p1 &&& (1 : Int32)) = (0 : Int32) then (0 : Int32) else (1 : Int32))), .val (.int (if (p1 &&& (2 : Int32)) = (0 : Int32) then (0 : Int32) else (1 : Int32))), .val (.int (if (p1 &&& (4 : Int32)) = (0 : Int32) then (0 : Int32) else (1 : Int32))), .val (.ref o), .val (.int (nar .boolean (if p2 < (0 : Int32) then (nar .boolean (if (p1 &&& (1 : Int32)) = (0 : Int32) then (0 : Int32) else (1 : Int32))) else if p2 = (0 : Int32) then (nar .boolean (if (p1 &&& (2 : Int32)) = (0 : Int32) then (0 : Int32) else (1 : Int32))) else (nar .boolean (if (p1 &&& (4 : Int32)) = (0 : Int32) then (0 : Int32) else (1 : Int32)))))), .val (.int ((p2 >>> ((31 : Int32) &&& 31)) ||| (((-p2).toUInt32 >>> ((31 : Int32) &&& 31).toUInt32).toInt32))), .unset] [(.int ((p1 >>> ((((p2 >>> ((31 : Int32) &&& 31)) ||| (((-p2).toUInt32 >>> ((31 : Int32) &&& 31).toUInt32).toInt32)) + (1 : Int32)) &&& 31)) &&& (1 : Int32)))])) t := by
    intro t k
    by_cases hc : ((p1 >>> ((((p2 >>> ((31 : Int32) &&& 31)) ||| (((-p2).toUInt32 >>> ((31 : Int32) &&& 31).toUInt32).toInt32)) + (1 : Int32)) &&& 31)) &&& (1 : Int32)) = (0 : Int32)
    · rw [show (if ((p1 >>> ((((p2 >>> ((31 : Int32) &&& 31)) ||| (((-p2).toUInt32 >>> ((31 : Int32) &&& 31).toUInt32).toInt32)) + (1 : Int32)) &&& 31)) &&& (1 : Int32)) = (0 : Int32) then (0 : Int32) else (1 : Int32)) = (0 : Int32) from if_pos hc] at k
      refine XS.ifYes X6.here hx rfl (pc0 := 78) (pc' := 85) rfl (hb hby at_78) rfl ((if0 _ _).trans (teq hc).1) (by decide) (by decide) ?_
      show Steps p.tables e below (T6.setTop (mkF m 85 #[.val (.int p1), .val (.int p2), .val (.int (if (p1 &&& (1 : Int32)) = (0 : Int32) then (0 : Int32) else (1 : Int32))), .val (.int (if (p1 &&& (2 : Int32)) = (0 : Int32) then (0 : Int32) else (1 : Int32))), .val (.int (if (p1 &&& (4 : Int32)) = (0 : Int32) then (0 : Int32) else (1 : Int32))), .val (.ref o), .val (.int (nar .boolean (if p2 < (0 : Int32) then (nar .boolean (if (p1 &&& (1 : Int32)) = (0 : Int32) then (0 : Int32) else (1 : Int32))) else if p2 = (0 : Int32) then (nar .boolean (if (p1 &&& (2 : Int32)) = (0 : Int32) then (0 : Int32) else (1 : Int32))) else (nar .boolean (if (p1 &&& (4 : Int32)) = (0 : Int32) then (0 : Int32) else (1 : Int32)))))), .val (.int ((p2 >>> ((31 : Int32) &&& 31)) ||| (((-p2).toUInt32 >>> ((31 : Int32) &&& 31).toUInt32).toInt32))), .unset] [])) _
      refine XS.iconst X6.here hx rfl (hb hby at_85) ?_
      show Steps p.tables e below (T6.setTop (mkF m 86 #[.val (.int p1), .val (.int p2), .val (.int (if (p1 &&& (1 : Int32)) = (0 : Int32) then (0 : Int32) else (1 : Int32))), .val (.int (if (p1 &&& (2 : Int32)) = (0 : Int32) then (0 : Int32) else (1 : Int32))), .val (.int (if (p1 &&& (4 : Int32)) = (0 : Int32) then (0 : Int32) else (1 : Int32))), .val (.ref o), .val (.int (nar .boolean (if p2 < (0 : Int32) then (nar .boolean (if (p1 &&& (1 : Int32)) = (0 : Int32) then (0 : Int32) else (1 : Int32))) else if p2 = (0 : Int32) then (nar .boolean (if (p1 &&& (2 : Int32)) = (0 : Int32) then (0 : Int32) else (1 : Int32))) else (nar .boolean (if (p1 &&& (4 : Int32)) = (0 : Int32) then (0 : Int32) else (1 : Int32)))))), .val (.int ((p2 >>> ((31 : Int32) &&& 31)) ||| (((-p2).toUInt32 >>> ((31 : Int32) &&& 31).toUInt32).toInt32))), .unset] [(.int (0 : Int32))])) _
      first | exact k | (simp only [if_pos hc]; exact k)
    · rw [show (if ((p1 >>> ((((p2 >>> ((31 : Int32) &&& 31)) ||| (((-p2).toUInt32 >>> ((31 : Int32) &&& 31).toUInt32).toInt32)) + (1 : Int32)) &&& 31)) &&& (1 : Int32)) = (0 : Int32) then (0 : Int32) else (1 : Int32)) = (1 : Int32) from if_neg hc] at k
      refine XS.ifNo X6.here hx rfl (hb hby at_78) rfl ((if0 _ _).trans (feq hc).1) ?_
      show Steps p.tables e below (T6.setTop (mkF m 81 #[.val (.int p1), .val (.int p2), .val (.int (if (p1 &&& (1 : Int32)) = (0 : Int32) then (0 : Int32) else (1 : Int32))), .val (.int (if (p1 &&& (2 : Int32)) = (0 : Int32) then (0 : Int32) else (1 : Int32))), .val (.int (if (p1 &&& (4 : Int32)) = (0 : Int32) then (0 : Int32) else (1 : Int32))), .val (.ref o), .val (.int (nar .boolean (if p2 < (0 : Int32) then (nar .boolean (if (p1 &&& (1 : Int32)) = (0 : Int32) then (0 : Int32) else (1 : Int32))) else if p2 = (0 : Int32) then (nar .boolean (if (p1 &&& (2 : Int32)) = (0 : Int32) then (0 : Int32) else (1 : Int32))) else (nar .boolean (if (p1 &&& (4 : Int32)) = (0 : Int32) then (0 : Int32) else (1 : Int32)))))), .val (.int ((p2 >>> ((31 : Int32) &&& 31)) ||| (((-p2).toUInt32 >>> ((31 : Int32) &&& 31).toUInt32).toInt32))), .unset] [])) _
      refine XS.iconst X6.here hx rfl (hb hby at_81) ?_
      show Steps p.tables e below (T6.setTop (mkF m 82 #[.val (.int p1), .val (.int p2), .val (.int (if (p1 &&& (1 : Int32)) = (0 : Int32) then (0 : Int32) else (1 : Int32))), .val (.int (if (p1 &&& (2 : Int32)) = (0 : Int32) then (0 : Int32) else (1 : Int32))), .val (.int (if (p1 &&& (4 : Int32)) = (0 : Int32) then (0 : Int32) else (1 : Int32))), .val (.ref o), .val (.int (nar .boolean (if p2 < (0 : Int32) then (nar .boolean (if (p1 &&& (1 : Int32)) = (0 : Int32) then (0 : Int32) else (1 : Int32))) else if p2 = (0 : Int32) then (nar .boolean (if (p1 &&& (2 : Int32)) = (0 : Int32) then (0 : Int32) else (1 : Int32))) else (nar .boolean (if (p1 &&& (4 : Int32)) = (0 : Int32) then (0 : Int32) else (1 : Int32)))))), .val (.int ((p2 >>> ((31 : Int32) &&& 31)) ||| (((-p2).toUInt32 >>> ((31 : Int32) &&& 31).toUInt32).toInt32))), .unset] [(.int (1 : Int32))])) _
      refine XS.goto X6.here hx rfl (pc0 := 82) (pc' := 86) rfl (hb hby at_82) (by decide) (by decide) ?_
      show Steps p.tables e below (T6.setTop (mkF m 86 #[.val (.int p1), .val (.int p2), .val (.int (if (p1 &&& (1 : Int32)) = (0 : Int32) then (0 : Int32) else (1 : Int32))), .val (.int (if (p1 &&& (2 : Int32)) = (0 : Int32) then (0 : Int32) else (1 : Int32))), .val (.int (if (p1 &&& (4 : Int32)) = (0 : Int32) then (0 : Int32) else (1 : Int32))), .val (.ref o), .val (.int (nar .boolean (if p2 < (0 : Int32) then (nar .boolean (if (p1 &&& (1 : Int32)) = (0 : Int32) then (0 : Int32) else (1 : Int32))) else if p2 = (0 : Int32) then (nar .boolean (if (p1 &&& (2 : Int32)) = (0 : Int32) then (0 : Int32) else (1 : Int32))) else (nar .boolean (if (p1 &&& (4 : Int32)) = (0 : Int32) then (0 : Int32) else (1 : Int32)))))), .val (.int ((p2 >>> ((31 : Int32) &&& 31)) ||| (((-p2).toUInt32 >>> ((31 : Int32) &&& 31).toUInt32).toInt32))), .unset] [(.int (1 : Int32))])) _
      first | exact k | (simp only [if_neg hc]; exact k)
  refine OGo.by_ D8 ?_
  show OGo p e below _ (T6.setTop (mkF m 86 #[.val (.int p1), .val (.int p2), .val (.int (if (p1 &&& (1 : Int32)) = (0 : Int32) then (0 : Int32) else (1 : Int32))), .val (.int (if (p1 &&& (2 : Int32)) = (0 : Int32) then (0 : Int32) else (1 : Int32))), .val (.int (if (p1 &&& (4 : Int32)) = (0 : Int32) then (0 : Int32) else (1 : Int32))), .val (.ref o), .val (.int (nar .boolean (if p2 < (0 : Int32) then (nar .boolean (if (p1 &&& (1 : Int32)) = (0 : Int32) then (0 : Int32) else (1 : Int32))) else if p2 = (0 : Int32) then (nar .boolean (if (p1 &&& (2 : Int32)) = (0 : Int32) then (0 : Int32) else (1 : Int32))) else (nar .boolean (if (p1 &&& (4 : Int32)) = (0 : Int32) then (0 : Int32) else (1 : Int32)))))), .val (.int ((p2 >>> ((31 : Int32) &&& 31)) ||| (((-p2).toUInt32 >>> ((31 : Int32) &&& 31).toUInt32).toInt32))), .unset] [(.int (if ((p1 >>> ((((p2 >>> ((31 : Int32) &&& 31)) ||| (((-p2).toUInt32 >>> ((31 : Int32) &&& 31).toUInt32).toInt32)) + (1 : Int32)) &&& 31)) &&& (1 : Int32)) = (0 : Int32) then (0 : Int32) else (1 : Int32)))]))
  refine OGo.by_ (fun t k => XS.istore X6.here hx rfl (hb hby at_86) rfl (l' := #[.val (.int p1), .val (.int p2), .val (.int (if (p1 &&& (1 : Int32)) = (0 : Int32) then (0 : Int32) else (1 : Int32))), .val (.int (if (p1 &&& (2 : Int32)) = (0 : Int32) then (0 : Int32) else (1 : Int32))), .val (.int (if (p1 &&& (4 : Int32)) = (0 : Int32) then (0 : Int32) else (1 : Int32))), .val (.ref o), .val (.int (nar .boolean (if p2 < (0 : Int32) then (nar .boolean (if (p1 &&& (1 : Int32)) = (0 : Int32) then (0 : Int32) else (1 : Int32))) else if p2 = (0 : Int32) then (nar .boolean (if (p1 &&& (2 : Int32)) = (0 : Int32) then (0 : Int32) else (1 : Int32))) else (nar .boolean (if (p1 &&& (4 : Int32)) = (0 : Int32) then (0 : Int32) else (1 : Int32)))))), .val (.int ((p2 >>> ((31 : Int32) &&& 31)) ||| (((-p2).toUInt32 >>> ((31 : Int32) &&& 31).toUInt32).toInt32))), .val (.int (if ((p1 >>> ((((p2 >>> ((31 : Int32) &&& 31)) ||| (((-p2).toUInt32 >>> ((31 : Int32) &&& 31).toUInt32).toInt32)) + (1 : Int32)) &&& 31)) &&& (1 : Int32)) = (0 : Int32) then (0 : Int32) else (1 : Int32)))]) rfl k) ?_
  show OGo p e below _ (T6.setTop (mkF m 88 #[.val (.int p1), .val (.int p2), .val (.int (if (p1 &&& (1 : Int32)) = (0 : Int32) then (0 : Int32) else (1 : Int32))), .val (.int (if (p1 &&& (2 : Int32)) = (0 : Int32) then (0 : Int32) else (1 : Int32))), .val (.int (if (p1 &&& (4 : Int32)) = (0 : Int32) then (0 : Int32) else (1 : Int32))), .val (.ref o), .val (.int (nar .boolean (if p2 < (0 : Int32) then (nar .boolean (if (p1 &&& (1 : Int32)) = (0 : Int32) then (0 : Int32) else (1 : Int32))) else if p2 = (0 : Int32) then (nar .boolean (if (p1 &&& (2 : Int32)) = (0 : Int32) then (0 : Int32) else (1 : Int32))) else (nar .boolean (if (p1 &&& (4 : Int32)) = (0 : Int32) then (0 : Int32) else (1 : Int32)))))), .val (.int ((p2 >>> ((31 : Int32) &&& 31)) ||| (((-p2).toUInt32 >>> ((31 : Int32) &&& 31).toUInt32).toInt32))), .val (.int (if ((p1 >>> ((((p2 >>> ((31 : Int32) &&& 31)) ||| (((-p2).toUInt32 >>> ((31 : Int32) &&& 31).toUInt32).toInt32)) + (1 : Int32)) &&& 31)) &&& (1 : Int32)) = (0 : Int32) then (0 : Int32) else (1 : Int32)))] []))
  refine OGo.by_ (fun t k => XS.iload X6.here hx rfl (hb hby at_88) rfl k) ?_
  show OGo p e below _ (T6.setTop (mkF m 90 #[.val (.int p1), .val (.int p2), .val (.int (if (p1 &&& (1 : Int32)) = (0 : Int32) then (0 : Int32) else (1 : Int32))), .val (.int (if (p1 &&& (2 : Int32)) = (0 : Int32) then (0 : Int32) else (1 : Int32))), .val (.int (if (p1 &&& (4 : Int32)) = (0 : Int32) then (0 : Int32) else (1 : Int32))), .val (.ref o), .val (.int (nar .boolean (if p2 < (0 : Int32) then (nar .boolean (if (p1 &&& (1 : Int32)) = (0 : Int32) then (0 : Int32) else (1 : Int32))) else if p2 = (0 : Int32) then (nar .boolean (if (p1 &&& (2 : Int32)) = (0 : Int32) then (0 : Int32) else (1 : Int32))) else (nar .boolean (if (p1 &&& (4 : Int32)) = (0 : Int32) then (0 : Int32) else (1 : Int32)))))), .val (.int ((p2 >>> ((31 : Int32) &&& 31)) ||| (((-p2).toUInt32 >>> ((31 : Int32) &&& 31).toUInt32).toInt32))), .val (.int (if ((p1 >>> ((((p2 >>> ((31 : Int32) &&& 31)) ||| (((-p2).toUInt32 >>> ((31 : Int32) &&& 31).toUInt32).toInt32)) + (1 : Int32)) &&& 31)) &&& (1 : Int32)) = (0 : Int32) then (0 : Int32) else (1 : Int32)))] [(.int (nar .boolean (if p2 < (0 : Int32) then (nar .boolean (if (p1 &&& (1 : Int32)) = (0 : Int32) then (0 : Int32) else (1 : Int32))) else if p2 = (0 : Int32) then (nar .boolean (if (p1 &&& (2 : Int32)) = (0 : Int32) then (0 : Int32) else (1 : Int32))) else (nar .boolean (if (p1 &&& (4 : Int32)) = (0 : Int32) then (0 : Int32) else (1 : Int32))))))]))
  refine OGo.by_ (fun t k => XS.iload X6.here hx rfl (hb hby at_90) rfl k) ?_
  show OGo p e below _ (T6.setTop (mkF m 92 #[.val (.int p1), .val (.int p2), .val (.int (if (p1 &&& (1 : Int32)) = (0 : Int32) then (0 : Int32) else (1 : Int32))), .val (.int (if (p1 &&& (2 : Int32)) = (0 : Int32) then (0 : Int32) else (1 : Int32))), .val (.int (if (p1 &&& (4 : Int32)) = (0 : Int32) then (0 : Int32) else (1 : Int32))), .val (.ref o), .val (.int (nar .boolean (if p2 < (0 : Int32) then (nar .boolean (if (p1 &&& (1 : Int32)) = (0 : Int32) then (0 : Int32) else (1 : Int32))) else if p2 = (0 : Int32) then (nar .boolean (if (p1 &&& (2 : Int32)) = (0 : Int32) then (0 : Int32) else (1 : Int32))) else (nar .boolean (if (p1 &&& (4 : Int32)) = (0 : Int32) then (0 : Int32) else (1 : Int32)))))), .val (.int ((p2 >>> ((31 : Int32) &&& 31)) ||| (((-p2).toUInt32 >>> ((31 : Int32) &&& 31).toUInt32).toInt32))), .val (.int (if ((p1 >>> ((((p2 >>> ((31 : Int32) &&& 31)) ||| (((-p2).toUInt32 >>> ((31 : Int32) &&& 31).toUInt32).toInt32)) + (1 : Int32)) &&& 31)) &&& (1 : Int32)) = (0 : Int32) then (0 : Int32) else (1 : Int32)))] [(.int (if ((p1 >>> ((((p2 >>> ((31 : Int32) &&& 31)) ||| (((-p2).toUInt32 >>> ((31 : Int32) &&& 31).toUInt32).toInt32)) + (1 : Int32)) &&& 31)) &&& (1 : Int32)) = (0 : Int32) then (0 : Int32) else (1 : Int32))), (.int (nar .boolean (if p2 < (0 : Int32) then (nar .boolean (if (p1 &&& (1 : Int32)) = (0 : Int32) then (0 : Int32) else (1 : Int32))) else if p2 = (0 : Int32) then (nar .boolean (if (p1 &&& (2 : Int32)) = (0 : Int32) then (0 : Int32) else (1 : Int32))) else (nar .boolean (if (p1 &&& (4 : Int32)) = (0 : Int32) then (0 : Int32) else (1 : Int32))))))]))
  refine OGo.by_ (fun t k => XS.icmpNo X6.here hx rfl (hb hby at_92) rfl (teq (own_plain p1 p2)).2 k) ?_
  show OGo p e below _ (T6.setTop (mkF m 95 #[.val (.int p1), .val (.int p2), .val (.int (if (p1 &&& (1 : Int32)) = (0 : Int32) then (0 : Int32) else (1 : Int32))), .val (.int (if (p1 &&& (2 : Int32)) = (0 : Int32) then (0 : Int32) else (1 : Int32))), .val (.int (if (p1 &&& (4 : Int32)) = (0 : Int32) then (0 : Int32) else (1 : Int32))), .val (.ref o), .val (.int (nar .boolean (if p2 < (0 : Int32) then (nar .boolean (if (p1 &&& (1 : Int32)) = (0 : Int32) then (0 : Int32) else (1 : Int32))) else if p2 = (0 : Int32) then (nar .boolean (if (p1 &&& (2 : Int32)) = (0 : Int32) then (0 : Int32) else (1 : Int32))) else (nar .boolean (if (p1 &&& (4 : Int32)) = (0 : Int32) then (0 : Int32) else (1 : Int32)))))), .val (.int ((p2 >>> ((31 : Int32) &&& 31)) ||| (((-p2).toUInt32 >>> ((31 : Int32) &&& 31).toUInt32).toInt32))), .val (.int (if ((p1 >>> ((((p2 >>> ((31 : Int32) &&& 31)) ||| (((-p2).toUInt32 >>> ((31 : Int32) &&& 31).toUInt32).toInt32)) + (1 : Int32)) &&& 31)) &&& (1 : Int32)) = (0 : Int32) then (0 : Int32) else (1 : Int32)))] []))
  refine OGo.by_ (fun t k => XS.iconst X6.here hx rfl (hb hby at_95) k) ?_
  show OGo p e below _ (T6.setTop (mkF m 96 #[.val (.int p1), .val (.int p2), .val (.int (if (p1 &&& (1 : Int32)) = (0 : Int32) then (0 : Int32) else (1 : Int32))), .val (.int (if (p1 &&& (2 : Int32)) = (0 : Int32) then (0 : Int32) else (1 : Int32))), .val (.int (if (p1 &&& (4 : Int32)) = (0 : Int32) then (0 : Int32) else (1 : Int32))), .val (.ref o), .val (.int (nar .boolean (if p2 < (0 : Int32) then (nar .boolean (if (p1 &&& (1 : Int32)) = (0 : Int32) then (0 : Int32) else (1 : Int32))) else if p2 = (0 : Int32) then (nar .boolean (if (p1 &&& (2 : Int32)) = (0 : Int32) then (0 : Int32) else (1 : Int32))) else (nar .boolean (if (p1 &&& (4 : Int32)) = (0 : Int32) then (0 : Int32) else (1 : Int32)))))), .val (.int ((p2 >>> ((31 : Int32) &&& 31)) ||| (((-p2).toUInt32 >>> ((31 : Int32) &&& 31).toUInt32).toInt32))), .val (.int (if ((p1 >>> ((((p2 >>> ((31 : Int32) &&& 31)) ||| (((-p2).toUInt32 >>> ((31 : Int32) &&& 31).toUInt32).toInt32)) + (1 : Int32)) &&& 31)) &&& (1 : Int32)) = (0 : Int32) then (0 : Int32) else (1 : Int32)))] [(.int (1 : Int32))]))
  refine OGo.by_ (fun t k => XS.goto X6.here hx rfl (pc0 := 96) (pc' := 100) rfl (hb hby at_96) (by decide) (by decide) k) ?_
  show OGo p e below _ (T6.setTop (mkF m 100 #[.val (.int p1), .val (.int p2), .val (.int (if (p1 &&& (1 : Int32)) = (0 : Int32) then (0 : Int32) else (1 : Int32))), .val (.int (if (p1 &&& (2 : Int32)) = (0 : Int32) then (0 : Int32) else (1 : Int32))), .val (.int (if (p1 &&& (4 : Int32)) = (0 : Int32) then (0 : Int32) else (1 : Int32))), .val (.ref o), .val (.int (nar .boolean (if p2 < (0 : Int32) then (nar .boolean (if (p1 &&& (1 : Int32)) = (0 : Int32) then (0 : Int32) else (1 : Int32))) else if p2 = (0 : Int32) then (nar .boolean (if (p1 &&& (2 : Int32)) = (0 : Int32) then (0 : Int32) else (1 : Int32))) else (nar .boolean (if (p1 &&& (4 : Int32)) = (0 : Int32) then (0 : Int32) else (1 : Int32)))))), .val (.int ((p2 >>> ((31 : Int32) &&& 31)) ||| (((-p2).toUInt32 >>> ((31 : Int32) &&& 31).toUInt32).toInt32))), .val (.int (if ((p1 >>> ((((p2 >>> ((31 : Int32) &&& 31)) ||| (((-p2).toUInt32 >>> ((31 : Int32) &&& 31).toUInt32).toInt32)) + (1 : Int32)) &&& 31)) &&& (1 : Int32)) = (0 : Int32) then (0 : Int32) else (1 : Int32)))] [(.int (1 : Int32))]))
  exact own_retN X6 hx hlk (t := .boolean) hret (by simp) (hb hby at_100) (by decide) (by decide) (⟨rfl, N6⟩)
set_option maxRecDepth 65536 in
set_option maxHeartbeats 40000000 in
theorem comes_1 {Post : Tables → Env → Array Value → State → Outcome → State → Prop} (hpost : ∀ tb e args s v u, (limb_1_1.after args s (.returned v) u = true ∧ limb_1_2.after args s (.returned v) u = true ∧ True) → FrameEnd s (.returned v) u (Jvm.fieldLocs frame_1_writes args s ++ Jvm.arrayLocs frame_1_arrays args s ++ Jvm.staticLocs frame_1_statics s) 16 128 → Post tb e args s (.returned v) u) :
    ArmFor flags0 classFile x code maxLocals ret World_1 tables_1 room_1 Calls_1 rest_1 Pre_1 Post := by
  intro l hfl _ _ p e ha hc hk s m args below hf hA hF happ hP
  obtain ⟨hcalls, hrest, hpre⟩ := hP
  obtain ⟨-, -, -, hnamed, -, -, -, hat⟩ := (Spec.applies_iff hf).mp happ
  obtain ⟨hg, hn⟩ := and_e (Cond.before_iff.mp (show (Jvm.Cond.and given_1 narrow_1).before args s = true from hpre))
  obtain ⟨hcount, hg0⟩ := and_e hg
  obtain ⟨ga0, hg1⟩ := and_e hg0
  have ga1 := hg1
  obtain ⟨w0, w1, rfl⟩ : ∃ w0 w1 : Value, args = #[w0, w1] := by
    have hs : args.size = 2 := by simpa [Cond.value, given_1] using hcount
    obtain ⟨L⟩ := args
    match L, hs with
    | [w0, w1], _ => exact ⟨w0, w1, rfl⟩
  have hw := fun d (hd : d ∈ tables_1) => atoms_spec (ws := Jvm.Cond.code x code maxLocals ret :: tables_1) hat d (List.mem_cons_of_mem _ hd)
  have hfit : Fit s := fun {y c} hc i hi => by
    obtain ⟨ha, rfl⟩ := Array.getElem?_eq_some_iff.mp hc
    have q := List.all_eq_true.mp ((Array.all_eq_true_iff_forall_mem.mp hF) _ (Array.getElem_mem ha)) i (List.mem_range.mpr hi)
    simpa [Array.getElem?_eq_getElem hi] using q
  obtain ⟨i0, ei0⟩ := is_v ga0
  obtain rfl : w0 = (.int i0) := Option.some.inj ei0
  obtain ⟨i1, ei1⟩ := is_v ga1
  obtain rfl : w1 = (.int i1) := Option.some.inj ei1
  obtain ⟨n, o, h1, h2, h3, _, L, rfl, ⟨rfl, N⟩, hq⟩ := rm_law l s _ hw tables_1 i0 i1 s.heap s.heap.size (Nat.le_refl _) p e ha hc hk s m _ below hf ((Spec.applies_iff_loose hf).mp happ).1 ⟨rfl, State.Warmed39.refl s, rfl⟩ trivial
  refine ⟨n, _, h1, h2, h3, hpost _ _ _ _ _ _ ⟨Cond.after_iff.mpr rfl, Cond.after_iff.mpr (eq_i res_at (Term.int_eval (1)) rfl), trivial⟩ ⟨hq.1, hq.2.1, (hq.2.2.sift fun y hy => Or.inr (N y hy)).mono (by decide) (by decide)⟩⟩
theorem main_1_1 : Claimed_1_1 := comes_1 fun _ _ _ _ _ _ h hF => ⟨h.1, hF⟩
theorem main_1_2 : Claimed_1_2 := comes_1 fun _ _ _ _ _ _ h hF => ⟨h.2.1, hF⟩
end Jvm.Pilot.@@N@@
namespace Jvm.Pilot.@@N@@
open Jvm Jvm.ClassFile Sem Op Lib Jvm.Free Jvm.Stand Jvm.Pilot.@@N@@.Jvm.D
/-! MADE BY PROGRAM (witnessworld.py) out of the Statement's table words and the real class files: 9 classes; the members and pool entries that the words name. The judged class is class 1, her method 1. -/
namespace start1
open Jvm.ClassFile
def u (s : String) : CpInfo := .utf8 (stringToUtf16 s)
/-- a pool by its gaps: so many unusable entries, then the entry; so many at the end -/
def gap : Nat → List CpInfo → List CpInfo
  | 0, r => r
  | n + 1, r => .unusable :: gap n r
def poolList (es : List (Nat × CpInfo)) (last : Nat) : List CpInfo := es.foldr (fun e r => gap e.1 (e.2 :: r)) (gap last [])
def pool (es : List (Nat × CpInfo)) (last : Nat) : Array CpInfo := ⟨poolList es last⟩
def fileOf (pool : Array CpInfo) (this : Nat) (attrs : Array Attribute := #[]) (ms : Array MethodInfo := #[]) (fl : Nat := 33) (sup : Nat := 0) (ifs : Array Nat := #[]) (fds : Array FieldInfo := #[]) : ClassFile where
  minorVersion := 0
  majorVersion := 65
  constantPool := pool
  accessFlags := fl
  thisClass := this
  superClass := sup
  interfaces := ifs
  fields := fds
  methods := ms
  attributes := attrs
def plain (name : String) (sup : Option ClassId) : Class where
  name := name
  kind := .ordinary
  loader := none
  accessFlags := 33
  super := sup
  interfaces := #[]
  cf := none
  fields := #[]
  methods := #[]
  instanceTypes := #[]
  staticTypes := #[]
  resolved := #[]
  callSites := []
  init := .initialized
  statics := none
  mirror := none

def pool0 : Array CpInfo := pool [(5, u "<init>"), (0, u "()V"), (1, .class_ 10), (1, u "java/lang/Object")] 113

def k0c0 : Code := { maxStack := 0, maxLocals := 1, code := object_method_1_code, exceptionTable := #[], attributes := #[] }
def k0m0 : Method := { name := "<init>", desc := "()V", sig := { parameters := [], returnType := none }, accessFlags := 1, code := some k0c0 }
/-- java/lang/Object -/
def k0 : Class := { plain "java/lang/Object" none with
  accessFlags := 33
  interfaces := #[]
  cf := some (fileOf pool0 8 #[] #[{ accessFlags := 1, nameIndex := 5, descriptorIndex := 6, attributes := #[] }] 33 0 #[] #[])
  fields := #[]
  methods := #[k0m0]
  instanceTypes := #[]
  staticTypes := #[]
  resolved := Array.replicate 124 none
  statics := none }

def pool1 : Array CpInfo := pool [(2, .class_ 4), (1, u "java/lang/Object"), (0, u "<init>"), (0, u "()V"), (0, .class_ 8), (0, u "com/example/intercept_rows/interceptrows/engine/Ordering"), (0, .methodref 7 10), (0, .nameAndType 5 11), (0, u "(ZZZ)V"), (0, .methodref 7 13), (0, .nameAndType 14 15), (0, u "holds"), (0, u "(I)Z"), (0, .class_ 17), (0, u "com/example/intercept_rows/interceptrows/engine/OrderingHoldsPinLaw"), (2, u "law"), (0, u "(II)Z")] 3

def k1m0 : Method := { name := "<init>", desc := "()V", sig := { parameters := [], returnType := none }, accessFlags := 1, code := none }
def k1c1 : Code := { maxStack := 5, maxLocals := 9, code := code, exceptionTable := #[], attributes := #[] }
def k1m1 : Method := { name := "law", desc := "(II)Z", sig := { parameters := [.int, .int], returnType := some .boolean }, accessFlags := 9, code := some k1c1 }
/-- com/example/intercept_rows/interceptrows/engine/OrderingHoldsPinLaw -/
def k1 : Class := { plain "com/example/intercept_rows/interceptrows/engine/OrderingHoldsPinLaw" (some 0) with
  accessFlags := 49
  interfaces := #[]
  cf := some (fileOf pool1 16 #[] #[{ accessFlags := 1, nameIndex := 5, descriptorIndex := 6, attributes := #[] }, { accessFlags := 9, nameIndex := 20, descriptorIndex := 21, attributes := #[] }] 49 2 #[] #[])
  fields := #[]
  methods := #[k1m0, k1m1]
  instanceTypes := #[]
  staticTypes := #[]
  resolved := Array.replicate 25 none
  statics := none }

def pool2 : Array CpInfo := pool [(1, .methodref 2 3), (0, .class_ 4), (0, .nameAndType 5 6), (0, u "java/lang/Object"), (0, u "<init>"), (0, u "()V"), (0, .fieldref 8 9), (0, .class_ 10), (0, .nameAndType 11 12), (0, u "com/example/intercept_rows/interceptrows/engine/Ordering"), (0, u "whenBefore"), (0, u "Z"), (0, .fieldref 8 14), (0, .nameAndType 15 12), (0, u "whenEqual"), (0, .fieldref 8 17), (0, .nameAndType 18 12), (0, u "whenAfter"), (1, .class_ 22), (1, u "com/example/intercept_rows/interceptrows/engine/Ordering$1"), (10, u "(ZZZ)V"), (17, u "holds"), (0, u "(I)Z")] 31

def k2c0 : Code := { maxStack := 2, maxLocals := 4, code := prog_52_method_1_code, exceptionTable := #[], attributes := #[] }
def k2m0 : Method := { name := "<init>", desc := "(ZZZ)V", sig := { parameters := [.boolean, .boolean, .boolean], returnType := none }, accessFlags := 0, code := some k2c0 }
def k2c1 : Code := { maxStack := 1, maxLocals := 3, code := prog_52_method_3_code, exceptionTable := #[], attributes := #[] }
def k2m1 : Method := { name := "holds", desc := "(I)Z", sig := { parameters := [.int], returnType := some .boolean }, accessFlags := 0, code := some k2c1 }
/-- com/example/intercept_rows/interceptrows/engine/Ordering -/
def k2 : Class := { plain "com/example/intercept_rows/interceptrows/engine/Ordering" (some 0) with
  accessFlags := 32
  interfaces := #[]
  cf := some (fileOf pool2 8 #[.nestMembers #[20]] #[{ accessFlags := 0, nameIndex := 5, descriptorIndex := 33, attributes := #[] }, { accessFlags := 0, nameIndex := 51, descriptorIndex := 52, attributes := #[] }] 32 2 #[] #[{ accessFlags := 18, nameIndex := 11, descriptorIndex := 12, attributes := #[] }, { accessFlags := 18, nameIndex := 15, descriptorIndex := 12, attributes := #[] }, { accessFlags := 18, nameIndex := 18, descriptorIndex := 12, attributes := #[] }])
  fields := #[{ name := "whenBefore", type := .boolean, accessFlags := 18, slot := 0, constantValue := 0 }, { name := "whenEqual", type := .boolean, accessFlags := 18, slot := 1, constantValue := 0 }, { name := "whenAfter", type := .boolean, accessFlags := 18, slot := 2, constantValue := 0 }]
  methods := #[k2m0, k2m1]
  instanceTypes := #[.boolean, .boolean, .boolean]
  staticTypes := #[]
  resolved := Array.replicate 84 none
  statics := none }

def pool3 : Array CpInfo := pool [(1, u "java/lang/Cloneable"), (0, .class_ 1), (0, u "java/lang/Object"), (0, .class_ 3)] 3

/-- java/lang/Cloneable -/
def k3 : Class := { plain "java/lang/Cloneable" (some 0) with
  accessFlags := 1537
  interfaces := #[]
  cf := some (fileOf pool3 2 #[] #[] 1537 4 #[] #[])
  fields := #[]
  methods := #[]
  instanceTypes := #[]
  staticTypes := #[]
  resolved := Array.replicate 8 none
  statics := none }

def pool4 : Array CpInfo := pool [(1, u "java/io/Serializable"), (0, .class_ 1), (0, u "java/lang/Object"), (0, .class_ 3)] 3

/-- java/io/Serializable -/
def k4 : Class := { plain "java/io/Serializable" (some 0) with
  accessFlags := 1537
  interfaces := #[]
  cf := some (fileOf pool4 2 #[] #[] 1537 4 #[] #[])
  fields := #[]
  methods := #[]
  instanceTypes := #[]
  staticTypes := #[]
  resolved := Array.replicate 8 none
  statics := none }

/-- the primitive byte -/
def k5 : Class := { plain "byte" none with kind := .primitive 'B', accessFlags := 0x411 }
/-- [B -/
def k6 : Class := { plain "[B" (some 0) with kind := .array 5 .byte, interfaces := #[3, 4], accessFlags := 1041 }

/-- the primitive int -/
def k7 : Class := { plain "int" none with kind := .primitive 'I', accessFlags := 0x411 }
/-- [I -/
def k8 : Class := { plain "[I" (some 0) with kind := .array 7 .int, interfaces := #[3, 4], accessFlags := 1041 }

def heap : Heap := #[]
def classes : Array Class := #[k0, k1, k2, k3, k4, k5, k6, k7, k8]
def interned : List (Array UInt16 × Addr) := []
def slotsUsed : Nat := 0
def theMethod : MethodId := ⟨1, 1⟩
def args0 : Array Value := #[.int 5, .int 3]
def aboutOver (below : List Frame) : State where
  vm := { classes := classes, interned := interned.toArray }
  heap := heap
  slotsUsed := slotsUsed
  threads := #[{ frames := .invoking theMethod args0 :: below }]
def below0 : List Frame := [.native { method := ⟨0, 0⟩, args := #[] }]
def about1 : State := aboutOver below0
def p0 : Program := .bare "" "" ""
def e0 : Env := launch0.env 0 0 0
theorem w_frames : about1.frames = Frame.invoking theMethod args0 :: below0 := rfl
set_option maxRecDepth 65536 in
theorem w_args : argsFit about1.vm theMethod args0 = true := by decide +kernel
set_option maxRecDepth 65536 in
theorem w_heap : heapFits about1 = true := by decide +kernel
set_option maxRecDepth 65536 in
theorem w_runnable : about1.curStatus? = some .runnable := by decide +kernel
set_option maxRecDepth 65536 in
theorem w_alone : about1.alone = true := by decide +kernel
set_option maxRecDepth 65536 in
theorem w_named : about1.methodNamed? x = some theMethod := by decide +kernel
set_option maxRecDepth 65536 in
theorem w_hears : about1.hears theMethod below0 = true := by decide +kernel
set_option maxRecDepth 65536 in
theorem w_ripe : about1.ripe theMethod args0 below0 = true := by decide +kernel
theorem w_running : about1.status = .running := rfl
set_option maxRecDepth 65536 in
theorem w_room : about1.hasRoom e0.platform room_1 = true :=
  launch0.hasRoom_least _ room_1 (by decide +kernel) (by decide +kernel) (by decide +kernel) (by decide +kernel) (by decide +kernel) (by decide +kernel)
theorem allAtoms_all (ts : List Jvm.Cond) (a : Array Jvm.Value) (st : Jvm.State) : (allAtoms ts).before a st = ts.all (fun c => c.before a st) := by
  induction ts with
  | nil => rfl
  | cons c t ih =>
    show (Jvm.Cond.and c (allAtoms t)).before a st = _
    rw [Jvm.Cond.before_and, ih, List.all_cons]
def words1 : List Jvm.Cond := Jvm.Cond.code x code maxLocals ret :: tables_1
/-- a 'code' word, met by the world's own term for the bytes: nothing is compared byte by byte -/
theorem code_word {y : MethodName} {bytes : ByteArray} {mx : Nat} {rt : Option FieldType} {a : Array Value} {s : State} {m : MethodId} {meth : Method} {c : Code} (h1 : s.methodNamed? y = some m) (h2 : s.vm.method? m = some meth) (h3 : meth.code = some c) (h4 : c.code = bytes)
    (h5 : (c.maxLocals == mx && c.exceptionTable.isEmpty && decide (c.maxStack ≤ mostOperands) && decide (meth.sig.returnType = rt) && !meth.locks && decide (parseMethodDescriptor y.desc = some meth.sig)) = true) : (Jvm.Cond.code y bytes mx rt).before a s = true := by
  simp only [Bool.and_eq_true, beq_iff_eq, Bool.not_eq_true', decide_eq_true_eq] at h5
  obtain ⟨⟨⟨⟨⟨g1, g2⟩, g3⟩, g4⟩, g5⟩, g6⟩ := h5
  simp [Cond.before, Cond.holds, Cond.value, h1, h2, h3, h4, g1, g2, g3, g4, g5, g6]
def isCode : Jvm.Cond → Bool
  | .code _ _ _ _ => true
  | _ => false
theorem all_split {L : List Jvm.Cond} {P : Jvm.Cond → Bool} (h1 : L.all (fun c => isCode c || P c) = true) (h2 : ∀ c ∈ L.filter isCode, P c = true) : L.all P = true := by
  refine List.all_eq_true.mpr fun c hc => ?_
  have h := List.all_eq_true.mp h1 c hc
  rcases Bool.eq_false_or_eq_true (isCode c) with hi | hi
  · exact h2 c (List.mem_filter.mpr ⟨hc, hi⟩)
  · simpa [hi] using h
set_option maxRecDepth 65536 in
theorem w_c0 : (Jvm.Cond.code x code maxLocals ret).before args0 about1 = true := code_word (m := ⟨1, 1⟩) (meth := k1m1) (c := k1c1) (by decide +kernel) rfl rfl rfl (by decide +kernel)
set_option maxRecDepth 65536 in
theorem w_c1 : (Jvm.Cond.code ({ cls := "com/example/intercept_rows/interceptrows/engine/Ordering", name := "<init>", desc := "(ZZZ)V" } : Jvm.MethodName) prog_52_method_1_code (4 : Nat) (Option.none : Option Jvm.ClassFile.FieldType)).before args0 about1 = true := code_word (m := ⟨2, 0⟩) (meth := k2m0) (c := k2c0) (by decide +kernel) rfl rfl rfl (by decide +kernel)
set_option maxRecDepth 65536 in
theorem w_c2 : (Jvm.Cond.code ({ cls := "java/lang/Object", name := "<init>", desc := "()V" } : Jvm.MethodName) object_method_1_code (1 : Nat) (Option.none : Option Jvm.ClassFile.FieldType)).before args0 about1 = true := code_word (m := ⟨0, 0⟩) (meth := k0m0) (c := k0c0) (by decide +kernel) rfl rfl rfl (by decide +kernel)
set_option maxRecDepth 65536 in
theorem w_c3 : (Jvm.Cond.code ({ cls := "com/example/intercept_rows/interceptrows/engine/Ordering", name := "holds", desc := "(I)Z" } : Jvm.MethodName) prog_52_method_3_code (3 : Nat) (Option.some Jvm.ClassFile.FieldType.boolean)).before args0 about1 = true := code_word (m := ⟨2, 1⟩) (meth := k2m1) (c := k2c1) (by decide +kernel) rfl rfl rfl (by decide +kernel)
def codes1 : List Jvm.Cond := [Jvm.Cond.code x code maxLocals ret, Jvm.Cond.code ({ cls := "com/example/intercept_rows/interceptrows/engine/Ordering", name := "<init>", desc := "(ZZZ)V" } : Jvm.MethodName) prog_52_method_1_code (4 : Nat) (Option.none : Option Jvm.ClassFile.FieldType), Jvm.Cond.code ({ cls := "java/lang/Object", name := "<init>", desc := "()V" } : Jvm.MethodName) object_method_1_code (1 : Nat) (Option.none : Option Jvm.ClassFile.FieldType), Jvm.Cond.code ({ cls := "com/example/intercept_rows/interceptrows/engine/Ordering", name := "holds", desc := "(I)Z" } : Jvm.MethodName) prog_52_method_3_code (3 : Nat) (Option.some Jvm.ClassFile.FieldType.boolean)]
set_option maxRecDepth 65536 in
theorem codes_eq : words1.filter isCode = codes1 := rfl
theorem w_codes : ∀ c ∈ words1.filter isCode, c.before args0 about1 = true := by
  rw [codes_eq]
  intro c hc
  simp only [codes1, List.mem_cons, List.not_mem_nil, or_false] at hc
  rcases hc with rfl | rfl | rfl | rfl
  · exact w_c0
  · exact w_c1
  · exact w_c2
  · exact w_c3
set_option maxRecDepth 65536 in
theorem w_t1 : words1.all (fun c => isCode c || c.before args0 about1) = true := by decide +kernel
theorem w_tables : (allAtoms (Jvm.Cond.code x code maxLocals ret :: tables_1)).before args0 about1 = true := by
  rw [allAtoms_all]
  show words1.all (fun c => c.before args0 about1) = true
  refine all_split ?_ w_codes
  rw [w_t1]
set_option maxRecDepth 65536 in
theorem w_case : (Jvm.Cond.and given_1 narrow_1).before args0 about1 = true := by decide +kernel
theorem w_applies : (headSpec (Jvm.Cond.code x code maxLocals ret :: tables_1) room_1).applies x e0.platform about1 = true :=
  (Spec.applies_iff w_frames).mpr ⟨w_running, w_runnable, w_alone, w_named, w_hears, w_ripe, w_room, w_tables⟩
theorem atStart : AtStart classFile x code maxLocals ret World_1 tables_1 room_1 Calls_1 rest_1 Pre_1 launch0 p0 e0 about1 theMethod args0 below0 :=
  ⟨lists_1, trivial, launch0.admits_env _ _ _, launch0.least_env, fairChoices_fair.cas, fairChoices_fair.clock, w_frames, w_args, w_heap, w_applies, trivial, trivial, w_case⟩
end start1
theorem witness_1 : WitnessClaimed_1 := ⟨start1.p0, start1.e0, start1.about1, start1.theMethod, start1.args0, start1.below0, start1.atStart⟩
end Jvm.Pilot.@@N@@
