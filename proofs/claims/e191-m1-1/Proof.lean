import JvmDerived
import JvmDerived.Pilot.@@N@@Statement
import JvmDerived.Pilot.@@N@@Code
set_option linter.unusedVariables false
set_option linter.unusedSimpArgs false
namespace Jvm.RoadKit
open Sem ClassFile Op Lib Jvm.Stand Jvm.Free Jvm.LawKit
section OwnKit
variable {p : Program} {l : Launch} {e : Env} {R : Room} {s : State} {m : MethodId} {args : Array Value} {below : List Frame} {meth : Method} {c : Code} {T : State} {locs : List Loc} {cells slots : Nat}
/-- the run from U ends the invocation, and P holds there -/
def OGo (p : Program) (e : Env) (below : List Frame) (P : Outcome → State → Prop) (U : State) : Prop :=
  ∃ s₂ o, Steps p.tables e below U s₂ ∧ s₂.status = .running ∧ Ended s₂ below o ∧ P o s₂
theorem OGo.by_ {P : Outcome → State → Prop} {U U' : State} (h : ∀ t, Steps p.tables e below U' t → Steps p.tables e below U t) (g : OGo p e below P U') : OGo p e below P U := by
  obtain ⟨t, o, a, b⟩ := g
  exact ⟨t, o, h t a, b⟩
abbrev OEnd (s : State) (Q : Option Value → Heap → List Loc → Prop) (k n : Nat) (o : Outcome) (U' : State) : Prop :=
  ∃ v L, o = .returned v ∧ Q v U'.heap L ∧ FrameEnd s o U' L k n
variable {Q : Option Value → Heap → List Loc → Prop} {k n : Nat} {pc : Nat} {Ls : Array Slot} {rest : List Value}
theorem own_retW (X : Stand p l e R s m args below meth c T locs cells slots) (hx : p.tables.exec = Jvm.exec) (hlk : meth.locks = false) {w : Value} {t : FieldType} {i : Instr} (hret : meth.sig.returnType = some t) (hn : narrow t w = w)
    (hi : (i = .ireturn ∧ (t = .int ∨ t = .boolean ∨ t = .byte ∨ t = .char ∨ t = .short) ∧ ∃ z, w = .int z) ∨ (i = .lreturn ∧ t = .long ∧ ∃ z, w = .long z) ∨ (i = .dreturn ∧ t = .double ∧ ∃ z, w = .double z) ∨ (i = .freturn ∧ t = .float ∧ ∃ z, w = .float z) ∨ (i = .areturn ∧ t.isReference = true ∧ w.isRef = true))
    (hd : decode c.code pc = .ok (i, 1)) (hk : cells ≤ k) (hs : slots ≤ n) (hQ : Q (some w) T.heap locs) : OGo p e below (OEnd s Q k n) (T.setTop (mkF m pc Ls (w :: rest))) := by
  obtain ⟨fs, hr, hrun, hended, hW, hsame⟩ := X.leave (v := some w) (fun h => by rw [hret] at h; cases h) hlk
  exact ⟨_, _, retOut X hx hret hn hi hd hr, hrun, hended, _, _, rfl, hQ, ⟨_, rfl⟩, hW, hsame.mono hk hs⟩
theorem own_retI (X : Stand p l e R s m args below meth c T locs cells slots) (hx : p.tables.exec = Jvm.exec) (hlk : meth.locks = false) {z : Int32} (hret : meth.sig.returnType = some .int)
    (hd : decode c.code pc = .ok (.ireturn, 1)) (hk : cells ≤ k) (hs : slots ≤ n) (hQ : Q (some (.int z)) T.heap locs) : OGo p e below (OEnd s Q k n) (T.setTop (mkF m pc Ls (.int z :: rest))) :=
  own_retW X hx hlk hret rfl (Or.inl ⟨rfl, Or.inl rfl, z, rfl⟩) hd hk hs hQ
theorem own_retJ (X : Stand p l e R s m args below meth c T locs cells slots) (hx : p.tables.exec = Jvm.exec) (hlk : meth.locks = false) {z : Int64} (hret : meth.sig.returnType = some .long)
    (hd : decode c.code pc = .ok (.lreturn, 1)) (hk : cells ≤ k) (hs : slots ≤ n) (hQ : Q (some (.long z)) T.heap locs) : OGo p e below (OEnd s Q k n) (T.setTop (mkF m pc Ls (.long z :: rest))) :=
  own_retW X hx hlk hret rfl (Or.inr (Or.inl ⟨rfl, rfl, z, rfl⟩)) hd hk hs hQ
theorem own_retA (X : Stand p l e R s m args below meth c T locs cells slots) (hx : p.tables.exec = Jvm.exec) (hlk : meth.locks = false) {w : Value} {t : FieldType} (hret : meth.sig.returnType = some t) (ht : t.isReference = true) (hw : w.isRef = true)
    (hd : decode c.code pc = .ok (.areturn, 1)) (hk : cells ≤ k) (hs : slots ≤ n) (hQ : Q (some w) T.heap locs) : OGo p e below (OEnd s Q k n) (T.setTop (mkF m pc Ls (w :: rest))) :=
  own_retW X hx hlk hret (by cases t <;> cases w <;> simp [FieldType.isReference, Value.isRef] at ht hw <;> rfl) (Or.inr (Or.inr (Or.inr (Or.inr ⟨rfl, ht, hw⟩)))) hd hk hs hQ
theorem own_retN (X : Stand p l e R s m args below meth c T locs cells slots) (hx : p.tables.exec = Jvm.exec) (hlk : meth.locks = false) {z : Int32} {t : FieldType} (hret : meth.sig.returnType = some t) (ht : t = .boolean ∨ t = .byte ∨ t = .char ∨ t = .short)
    (hd : decode c.code pc = .ok (.ireturn, 1)) (hk : cells ≤ k) (hs : slots ≤ n) (hQ : Q (some (.int (nar t z))) T.heap locs) : OGo p e below (OEnd s Q k n) (T.setTop (mkF m pc Ls (.int z :: rest))) := by
  obtain ⟨fs, hr, hrun, hended, hW, hsame⟩ := X.leave (v := some (.int (nar t z))) (fun h => by rw [hret] at h; cases h) hlk
  exact ⟨_, _, retN X hx hret ht hd hr, hrun, hended, _, _, rfl, hQ, ⟨_, rfl⟩, hW, hsame.mono hk hs⟩
theorem own_ret (X : Stand p l e R s m args below meth c T locs cells slots) (hx : p.tables.exec = Jvm.exec) (hlk : meth.locks = false) (hret : meth.sig.returnType = none)
    (hd : decode c.code pc = .ok (.return_, 1)) (hk : cells ≤ k) (hs : slots ≤ n) (hQ : Q none T.heap locs) : OGo p e below (OEnd s Q k n) (T.setTop (mkF m pc Ls [])) := by
  obtain ⟨fs, hr, hrun, hended, hW, hsame⟩ := X.leave (v := none) (fun _ => rfl) hlk
  exact ⟨_, _, X.returnOut hx hret hd hr, hrun, hended, _, _, rfl, hQ, ⟨_, rfl⟩, hW, hsame.mono hk hs⟩
abbrev OEndW (s : State) (Q : Option Value → Heap → List Loc → Prop) (k n : Nat) (o : Outcome) (U' : State) : Prop :=
  ∃ v L, o = .returned v ∧ Q v U'.heap L ∧ ReturnedEndW s o U' L k n
variable {vm₁ : Vm} {j : Nat}
theorem own_wretW (X : Stand p l e R (s.setVm vm₁) m args below meth c T locs cells slots) (hS : s.Since vm₁ j) (hj : j ≤ T.heap.size) (hx : p.tables.exec = Jvm.exec) (hlk : meth.locks = false) {w : Value} {t : FieldType} {i : Instr} (hret : meth.sig.returnType = some t) (hn : narrow t w = w)
    (hi : (i = .ireturn ∧ (t = .int ∨ t = .boolean ∨ t = .byte ∨ t = .char ∨ t = .short) ∧ ∃ z, w = .int z) ∨ (i = .lreturn ∧ t = .long ∧ ∃ z, w = .long z) ∨ (i = .dreturn ∧ t = .double ∧ ∃ z, w = .double z) ∨ (i = .freturn ∧ t = .float ∧ ∃ z, w = .float z) ∨ (i = .areturn ∧ t.isReference = true ∧ w.isRef = true))
    (hd : decode c.code pc = .ok (i, 1)) (hk : cells ≤ k) (hs : slots ≤ n) (hQ : Q (some w) T.heap locs) : OGo p e below (OEndW s Q k n) (T.setTop (mkF m pc Ls (w :: rest))) := by
  obtain ⟨fs, hr, hrun, hended, h1, h2, h3, h4⟩ := X.leaveW hS hj (v := some w) (fun h => by rw [hret] at h; cases h) hlk
  exact ⟨_, _, retOut X hx hret hn hi hd hr, hrun, hended, _, _, rfl, hQ, h1, h2, h3, h4.mono hk hs⟩
theorem own_wretI (X : Stand p l e R (s.setVm vm₁) m args below meth c T locs cells slots) (hS : s.Since vm₁ j) (hj : j ≤ T.heap.size) (hx : p.tables.exec = Jvm.exec) (hlk : meth.locks = false) {z : Int32} (hret : meth.sig.returnType = some .int)
    (hd : decode c.code pc = .ok (.ireturn, 1)) (hk : cells ≤ k) (hs : slots ≤ n) (hQ : Q (some (.int z)) T.heap locs) : OGo p e below (OEndW s Q k n) (T.setTop (mkF m pc Ls (.int z :: rest))) :=
  own_wretW X hS hj hx hlk hret rfl (Or.inl ⟨rfl, Or.inl rfl, z, rfl⟩) hd hk hs hQ
theorem own_wretA (X : Stand p l e R (s.setVm vm₁) m args below meth c T locs cells slots) (hS : s.Since vm₁ j) (hj : j ≤ T.heap.size) (hx : p.tables.exec = Jvm.exec) (hlk : meth.locks = false) {w : Value} {t : FieldType} (hret : meth.sig.returnType = some t) (ht : t.isReference = true) (hw : w.isRef = true)
    (hd : decode c.code pc = .ok (.areturn, 1)) (hk : cells ≤ k) (hs : slots ≤ n) (hQ : Q (some w) T.heap locs) : OGo p e below (OEndW s Q k n) (T.setTop (mkF m pc Ls (w :: rest))) :=
  own_wretW X hS hj hx hlk hret (by cases t <;> cases w <;> simp [FieldType.isReference, Value.isRef] at ht hw <;> rfl) (Or.inr (Or.inr (Or.inr (Or.inr ⟨rfl, ht, hw⟩)))) hd hk hs hQ
theorem own_wretN (X : Stand p l e R (s.setVm vm₁) m args below meth c T locs cells slots) (hS : s.Since vm₁ j) (hj : j ≤ T.heap.size) (hx : p.tables.exec = Jvm.exec) (hlk : meth.locks = false) {z : Int32} {t : FieldType} (hret : meth.sig.returnType = some t) (ht : t = .boolean ∨ t = .byte ∨ t = .char ∨ t = .short)
    (hd : decode c.code pc = .ok (.ireturn, 1)) (hk : cells ≤ k) (hs : slots ≤ n) (hQ : Q (some (.int (nar t z))) T.heap locs) : OGo p e below (OEndW s Q k n) (T.setTop (mkF m pc Ls (.int z :: rest))) := by
  obtain ⟨fs, hr, hrun, hended, h1, h2, h3, h4⟩ := X.leaveW hS hj (v := some (.int (nar t z))) (fun h => by rw [hret] at h; cases h) hlk
  exact ⟨_, _, retN X hx hret ht hd hr, hrun, hended, _, _, rfl, hQ, h1, h2, h3, h4.mono hk hs⟩
theorem own_wret (X : Stand p l e R (s.setVm vm₁) m args below meth c T locs cells slots) (hS : s.Since vm₁ j) (hj : j ≤ T.heap.size) (hx : p.tables.exec = Jvm.exec) (hlk : meth.locks = false) (hret : meth.sig.returnType = none)
    (hd : decode c.code pc = .ok (.return_, 1)) (hk : cells ≤ k) (hs : slots ≤ n) (hQ : Q none T.heap locs) : OGo p e below (OEndW s Q k n) (T.setTop (mkF m pc Ls [])) := by
  obtain ⟨fs, hr, hrun, hended, h1, h2, h3, h4⟩ := X.leaveW hS hj (v := none) (fun _ => rfl) hlk
  exact ⟨_, _, X.returnOut hx hret hd hr, hrun, hended, _, _, rfl, hQ, h1, h2, h3, h4.mono hk hs⟩
end OwnKit
end Jvm.RoadKit
namespace Jvm.Pilot.@@N@@
open Jvm Jvm.ClassFile Sem Op Lib Jvm.Free Jvm.Stand Jvm.LawKit Jvm.RoadKit Bundle Jvm.Pilot.@@N@@.Jvm.D
def own_pick (aN aF aG aU aR : Addr) (p : Int32) : Addr := if p = (0 : Int32) then aN else if p = (1 : Int32) then aF else if p = (2 : Int32) then aG else if p = (3 : Int32) then aU else aR
def own_dualI (p : Int32) : Int32 := if p = (0 : Int32) then (0 : Int32) else if p = (1 : Int32) then (2 : Int32) else if p = (2 : Int32) then (1 : Int32) else if p = (3 : Int32) then (4 : Int32) else (3 : Int32)
def own_dual (aN aF aG aU aR : Addr) (a : Addr) : Addr := if a = aF then aG else if a = aG then aF else if a = aU then aR else if a = aR then aU else aN
def own_ar (p : Int32) : Int32 := if p = (0 : Int32) then (1 : Int32) else if p = (1 : Int32) then (1 : Int32) else if p = (2 : Int32) then (1 : Int32) else (2 : Int32)
theorem d_pick_0 : decode method_2_code 0 = .ok (.iload_n 0, 1) := by decide +kernel
theorem d_pick_1 : decode method_2_code 1 = .ok (.ifCond .ne 10, 3) := by decide +kernel
theorem d_pick_4 : decode method_2_code 4 = .ok (.getstatic 7, 3) := by decide +kernel
theorem d_pick_7 : decode method_2_code 7 = .ok (.astore_n 1, 1) := by decide +kernel
theorem d_pick_8 : decode method_2_code 8 = .ok (.goto 43, 3) := by decide +kernel
theorem d_pick_51 : decode method_2_code 51 = .ok (.aload_n 1, 1) := by decide +kernel
theorem d_pick_52 : decode method_2_code 52 = .ok (.areturn, 1) := by decide +kernel
theorem d_pick_11 : decode method_2_code 11 = .ok (.iload_n 0, 1) := by decide +kernel
theorem d_pick_12 : decode method_2_code 12 = .ok (.iconst 1, 1) := by decide +kernel
theorem d_pick_13 : decode method_2_code 13 = .ok (.if_icmp .ne 10, 3) := by decide +kernel
theorem d_pick_16 : decode method_2_code 16 = .ok (.getstatic 13, 3) := by decide +kernel
theorem d_pick_19 : decode method_2_code 19 = .ok (.astore_n 1, 1) := by decide +kernel
theorem d_pick_20 : decode method_2_code 20 = .ok (.goto 31, 3) := by decide +kernel
theorem d_pick_23 : decode method_2_code 23 = .ok (.iload_n 0, 1) := by decide +kernel
theorem d_pick_24 : decode method_2_code 24 = .ok (.iconst 2, 1) := by decide +kernel
theorem d_pick_25 : decode method_2_code 25 = .ok (.if_icmp .ne 10, 3) := by decide +kernel
theorem d_pick_28 : decode method_2_code 28 = .ok (.getstatic 16, 3) := by decide +kernel
theorem d_pick_31 : decode method_2_code 31 = .ok (.astore_n 1, 1) := by decide +kernel
theorem d_pick_32 : decode method_2_code 32 = .ok (.goto 19, 3) := by decide +kernel
theorem d_pick_35 : decode method_2_code 35 = .ok (.iload_n 0, 1) := by decide +kernel
theorem d_pick_36 : decode method_2_code 36 = .ok (.iconst 3, 1) := by decide +kernel
theorem d_pick_37 : decode method_2_code 37 = .ok (.if_icmp .ne 10, 3) := by decide +kernel
theorem d_pick_40 : decode method_2_code 40 = .ok (.getstatic 19, 3) := by decide +kernel
theorem d_pick_43 : decode method_2_code 43 = .ok (.astore_n 1, 1) := by decide +kernel
theorem d_pick_44 : decode method_2_code 44 = .ok (.goto 7, 3) := by decide +kernel
theorem d_pick_47 : decode method_2_code 47 = .ok (.getstatic 22, 3) := by decide +kernel
theorem d_pick_50 : decode method_2_code 50 = .ok (.astore_n 1, 1) := by decide +kernel
theorem pn_com_example_fair_witness_fairwitness_model_OperatorDualPinLaw : plainName "com/example/fair_witness/fairwitness/model/OperatorDualPinLaw" = true := by first | (simp [plainName, overriddenIn]; done) | decide +kernel
theorem ef_pick (m : MethodId) (x0 : Int32) : entryFrame m #[(.int x0)] 2 = mkF m 0 #[.val (.int x0), .unset] [] := by first | (simp [entryFrame, mkF, argsToLocals, Value.category]; done) | rfl
def Q_pick (Z : State) (p1 : Int32) (aN aF aG aU aR : Addr) (h0 : Heap) (n0 : Nat) (v : Option Value) (h : Heap) (L : List Loc) : Prop := v = some (.ref (own_pick aN aF aG aU aR p1)) ∧ Fr n0 L ∧ h = h0
set_option maxRecDepth 65536 in
set_option maxHeartbeats 40000000 in
theorem rm_pick (l : Launch) (Z : State) (a0 : Array Value) (hw : ∀ d ∈ tables_1, d.before a0 Z = true) (ws : List Jvm.Cond) (p1 : Int32) (aN aF aG aU aR : Addr) (h0 : Heap) (n0 : Nat) (Z0 : n0 ≤ h0.size) (S_NEXT : Sta Z h0 "com/example/fair_witness/fairwitness/model/TemporalFormula$Operator" "NEXT" "Lcom/example/fair_witness/fairwitness/model/TemporalFormula$Operator;" (.ref aN)) (S_FUTURE : Sta Z h0 "com/example/fair_witness/fairwitness/model/TemporalFormula$Operator" "FUTURE" "Lcom/example/fair_witness/fairwitness/model/TemporalFormula$Operator;" (.ref aF)) (S_GLOBALLY : Sta Z h0 "com/example/fair_witness/fairwitness/model/TemporalFormula$Operator" "GLOBALLY" "Lcom/example/fair_witness/fairwitness/model/TemporalFormula$Operator;" (.ref aG)) (S_UNTIL : Sta Z h0 "com/example/fair_witness/fairwitness/model/TemporalFormula$Operator" "UNTIL" "Lcom/example/fair_witness/fairwitness/model/TemporalFormula$Operator;" (.ref aU)) (S_RELEASE : Sta Z h0 "com/example/fair_witness/fairwitness/model/TemporalFormula$Operator" "RELEASE" "Lcom/example/fair_witness/fairwitness/model/TemporalFormula$Operator;" (.ref aR)) :
    MetFree l (⟨"com/example/fair_witness/fairwitness/model/OperatorDualPinLaw", "pick", "(I)Lcom/example/fair_witness/fairwitness/model/TemporalFormula$Operator;"⟩ : MethodName) (head1 (Jvm.Cond.code (⟨"com/example/fair_witness/fairwitness/model/OperatorDualPinLaw", "pick", "(I)Lcom/example/fair_witness/fairwitness/model/TemporalFormula$Operator;"⟩ : MethodName) method_2_code 2 (some (.object "com/example/fair_witness/fairwitness/model/TemporalFormula$Operator")) :: ws) ({ frames := 0, cells := 0, slots := 0, locals := 0 } : Room)) (fun a_ U => a_ = #[(.int p1)] ∧ Z.Warmed39 U.vm ∧ U.heap = h0) (fun _ _ _ _ _ => True) (fun _ U o U' => ∃ v L, o = .returned v ∧ Q_pick Z p1 aN aF aG aU aR h0 n0 v U'.heap L ∧ FrameEnd U o U' L ({ frames := 0, cells := 0, slots := 0, locals := 0 } : Room).cells ({ frames := 0, cells := 0, slots := 0, locals := 0 } : Room).slots) := by
  refine MetFree.of_bodySF (plainFor_of_name pn_com_example_fair_witness_fairwitness_model_OperatorDualPinLaw) hisR ?_
  intro p e s m args below meth c s₁ Bd hml0 hP hK
  obtain ⟨rfl, hZ, hh⟩ := hP
  have hx := Bd.exec
  have hby := Bd.bytes
  have hml : c.maxLocals = 2 := hml0
  have hown : s.vm.findClass "com/example/fair_witness/fairwitness/model/OperatorDualPinLaw" = some m.cls := findClass_of_methodNamed Bd.named
  have hnm := (name_of_methodNamed Bd.named Bd.method).1
  have X0 : Stand p l e ({ frames := 0, cells := 0, slots := 0, locals := 0 } : Room) s m #[(.int p1)] below meth c s₁ [] 0 0 := Stand.of_body Bd
  have e0 : s₁.heap = h0 := by rw [← hh, Bd.state]; rfl
  have N0 := Fr.nil n0
  have hlk := Bd.notSynchronized
  have hret := Bd.returns
  show OGo p e below (OEnd s (Q_pick Z p1 aN aF aG aU aR h0 n0) ({ frames := 0, cells := 0, slots := 0, locals := 0 } : Room).cells ({ frames := 0, cells := 0, slots := 0, locals := 0 } : Room).slots) (s₁.setTop (entryFrame m #[(.int p1)] 2))
  rw [ef_pick]
  show OGo p e below _ (s₁.setTop (mkF m 0 #[.val (.int p1), .unset] []))
  refine OGo.by_ (fun t k => XS.iloadN X0.here hx rfl (hb hby d_pick_0) rfl k) ?_
  show OGo p e below _ (s₁.setTop (mkF m 1 #[.val (.int p1), .unset] [(.int p1)]))
  by_cases hc1 : p1 = (0 : Int32)
  · refine OGo.by_ (fun t k => XS.ifNo X0.here hx rfl (hb hby d_pick_1) rfl ((if0 _ _).trans (teq hc1).2) k) ?_
    show OGo p e below _ (s₁.setTop (mkF m 4 #[.val (.int p1), .unset] []))
    obtain ⟨T1, X1, e1, st1⟩ := getS X0 hx hZ hown (host := "") (hw _ (List.mem_of_getElem? (i := 5) rfl)) Via.refl e0 S_NEXT (g := (mkF m 4 #[.val (.int p1), .unset] [])) rfl (hb hby d_pick_4)
    refine OGo.by_ st1 ?_
    show OGo p e below _ (T1.setTop (mkF m 7 #[.val (.int p1), .unset] [(.ref aN)]))
    refine OGo.by_ (fun t k => XS.astoreN X1.here hx rfl (hb hby d_pick_7) rfl rfl (l' := #[.val (.int p1), .val (.ref aN)]) rfl k) ?_
    show OGo p e below _ (T1.setTop (mkF m 8 #[.val (.int p1), .val (.ref aN)] []))
    refine OGo.by_ (fun t k => XS.goto X1.here hx rfl (pc0 := 8) (pc' := 51) rfl (hb hby d_pick_8) (by decide) (by decide) k) ?_
    show OGo p e below _ (T1.setTop (mkF m 51 #[.val (.int p1), .val (.ref aN)] []))
    refine OGo.by_ (fun t k => XS.aloadN X1.here hx rfl (hb hby d_pick_51) rfl rfl k) ?_
    show OGo p e below _ (T1.setTop (mkF m 52 #[.val (.int p1), .val (.ref aN)] [(.ref aN)]))
    exact own_retA X1 hx hlk hret rfl rfl (hb hby d_pick_52) (by decide) (by decide) (⟨by simp only [own_pick, if_pos hc1], N0, e1⟩)
  · refine OGo.by_ (fun t k => XS.ifYes X0.here hx rfl (pc0 := 1) (pc' := 11) rfl (hb hby d_pick_1) rfl ((if0 _ _).trans (feq hc1).2) (by decide) (by decide) k) ?_
    show OGo p e below _ (s₁.setTop (mkF m 11 #[.val (.int p1), .unset] []))
    refine OGo.by_ (fun t k => XS.iloadN X0.here hx rfl (hb hby d_pick_11) rfl k) ?_
    show OGo p e below _ (s₁.setTop (mkF m 12 #[.val (.int p1), .unset] [(.int p1)]))
    refine OGo.by_ (fun t k => XS.iconst X0.here hx rfl (hb hby d_pick_12) k) ?_
    show OGo p e below _ (s₁.setTop (mkF m 13 #[.val (.int p1), .unset] [(.int (1 : Int32)), (.int p1)]))
    by_cases hc13 : p1 = (1 : Int32)
    · refine OGo.by_ (fun t k => XS.icmpNo X0.here hx rfl (hb hby d_pick_13) rfl (teq hc13).2 k) ?_
      show OGo p e below _ (s₁.setTop (mkF m 16 #[.val (.int p1), .unset] []))
      obtain ⟨T2, X2, e2, st2⟩ := getS X0 hx hZ hown (host := "") (hw _ (List.mem_of_getElem? (i := 34) rfl)) Via.refl e0 S_FUTURE (g := (mkF m 16 #[.val (.int p1), .unset] [])) rfl (hb hby d_pick_16)
      refine OGo.by_ st2 ?_
      show OGo p e below _ (T2.setTop (mkF m 19 #[.val (.int p1), .unset] [(.ref aF)]))
      refine OGo.by_ (fun t k => XS.astoreN X2.here hx rfl (hb hby d_pick_19) rfl rfl (l' := #[.val (.int p1), .val (.ref aF)]) rfl k) ?_
      show OGo p e below _ (T2.setTop (mkF m 20 #[.val (.int p1), .val (.ref aF)] []))
      refine OGo.by_ (fun t k => XS.goto X2.here hx rfl (pc0 := 20) (pc' := 51) rfl (hb hby d_pick_20) (by decide) (by decide) k) ?_
      show OGo p e below _ (T2.setTop (mkF m 51 #[.val (.int p1), .val (.ref aF)] []))
      refine OGo.by_ (fun t k => XS.aloadN X2.here hx rfl (hb hby d_pick_51) rfl rfl k) ?_
      show OGo p e below _ (T2.setTop (mkF m 52 #[.val (.int p1), .val (.ref aF)] [(.ref aF)]))
      exact own_retA X2 hx hlk hret rfl rfl (hb hby d_pick_52) (by decide) (by decide) (⟨by simp only [own_pick, if_neg hc1, if_pos hc13], N0, e2⟩)
    · refine OGo.by_ (fun t k => XS.icmpYes X0.here hx rfl (pc0 := 13) (pc' := 23) rfl (hb hby d_pick_13) rfl (feq hc13).2 (by decide) (by decide) k) ?_
      show OGo p e below _ (s₁.setTop (mkF m 23 #[.val (.int p1), .unset] []))
      refine OGo.by_ (fun t k => XS.iloadN X0.here hx rfl (hb hby d_pick_23) rfl k) ?_
      show OGo p e below _ (s₁.setTop (mkF m 24 #[.val (.int p1), .unset] [(.int p1)]))
      refine OGo.by_ (fun t k => XS.iconst X0.here hx rfl (hb hby d_pick_24) k) ?_
      show OGo p e below _ (s₁.setTop (mkF m 25 #[.val (.int p1), .unset] [(.int (2 : Int32)), (.int p1)]))
      by_cases hc25 : p1 = (2 : Int32)
      · refine OGo.by_ (fun t k => XS.icmpNo X0.here hx rfl (hb hby d_pick_25) rfl (teq hc25).2 k) ?_
        show OGo p e below _ (s₁.setTop (mkF m 28 #[.val (.int p1), .unset] []))
        obtain ⟨T3, X3, e3, st3⟩ := getS X0 hx hZ hown (host := "") (hw _ (List.mem_of_getElem? (i := 35) rfl)) Via.refl e0 S_GLOBALLY (g := (mkF m 28 #[.val (.int p1), .unset] [])) rfl (hb hby d_pick_28)
        refine OGo.by_ st3 ?_
        show OGo p e below _ (T3.setTop (mkF m 31 #[.val (.int p1), .unset] [(.ref aG)]))
        refine OGo.by_ (fun t k => XS.astoreN X3.here hx rfl (hb hby d_pick_31) rfl rfl (l' := #[.val (.int p1), .val (.ref aG)]) rfl k) ?_
        show OGo p e below _ (T3.setTop (mkF m 32 #[.val (.int p1), .val (.ref aG)] []))
        refine OGo.by_ (fun t k => XS.goto X3.here hx rfl (pc0 := 32) (pc' := 51) rfl (hb hby d_pick_32) (by decide) (by decide) k) ?_
        show OGo p e below _ (T3.setTop (mkF m 51 #[.val (.int p1), .val (.ref aG)] []))
        refine OGo.by_ (fun t k => XS.aloadN X3.here hx rfl (hb hby d_pick_51) rfl rfl k) ?_
        show OGo p e below _ (T3.setTop (mkF m 52 #[.val (.int p1), .val (.ref aG)] [(.ref aG)]))
        exact own_retA X3 hx hlk hret rfl rfl (hb hby d_pick_52) (by decide) (by decide) (⟨by simp only [own_pick, if_neg hc1, if_neg hc13, if_pos hc25], N0, e3⟩)
      · refine OGo.by_ (fun t k => XS.icmpYes X0.here hx rfl (pc0 := 25) (pc' := 35) rfl (hb hby d_pick_25) rfl (feq hc25).2 (by decide) (by decide) k) ?_
        show OGo p e below _ (s₁.setTop (mkF m 35 #[.val (.int p1), .unset] []))
        refine OGo.by_ (fun t k => XS.iloadN X0.here hx rfl (hb hby d_pick_35) rfl k) ?_
        show OGo p e below _ (s₁.setTop (mkF m 36 #[.val (.int p1), .unset] [(.int p1)]))
        refine OGo.by_ (fun t k => XS.iconst X0.here hx rfl (hb hby d_pick_36) k) ?_
        show OGo p e below _ (s₁.setTop (mkF m 37 #[.val (.int p1), .unset] [(.int (3 : Int32)), (.int p1)]))
        by_cases hc37 : p1 = (3 : Int32)
        · refine OGo.by_ (fun t k => XS.icmpNo X0.here hx rfl (hb hby d_pick_37) rfl (teq hc37).2 k) ?_
          show OGo p e below _ (s₁.setTop (mkF m 40 #[.val (.int p1), .unset] []))
          obtain ⟨T4, X4, e4, st4⟩ := getS X0 hx hZ hown (host := "") (hw _ (List.mem_of_getElem? (i := 32) rfl)) Via.refl e0 S_UNTIL (g := (mkF m 40 #[.val (.int p1), .unset] [])) rfl (hb hby d_pick_40)
          refine OGo.by_ st4 ?_
          show OGo p e below _ (T4.setTop (mkF m 43 #[.val (.int p1), .unset] [(.ref aU)]))
          refine OGo.by_ (fun t k => XS.astoreN X4.here hx rfl (hb hby d_pick_43) rfl rfl (l' := #[.val (.int p1), .val (.ref aU)]) rfl k) ?_
          show OGo p e below _ (T4.setTop (mkF m 44 #[.val (.int p1), .val (.ref aU)] []))
          refine OGo.by_ (fun t k => XS.goto X4.here hx rfl (pc0 := 44) (pc' := 51) rfl (hb hby d_pick_44) (by decide) (by decide) k) ?_
          show OGo p e below _ (T4.setTop (mkF m 51 #[.val (.int p1), .val (.ref aU)] []))
          refine OGo.by_ (fun t k => XS.aloadN X4.here hx rfl (hb hby d_pick_51) rfl rfl k) ?_
          show OGo p e below _ (T4.setTop (mkF m 52 #[.val (.int p1), .val (.ref aU)] [(.ref aU)]))
          exact own_retA X4 hx hlk hret rfl rfl (hb hby d_pick_52) (by decide) (by decide) (⟨by simp only [own_pick, if_neg hc1, if_neg hc13, if_neg hc25, if_pos hc37], N0, e4⟩)
        · refine OGo.by_ (fun t k => XS.icmpYes X0.here hx rfl (pc0 := 37) (pc' := 47) rfl (hb hby d_pick_37) rfl (feq hc37).2 (by decide) (by decide) k) ?_
          show OGo p e below _ (s₁.setTop (mkF m 47 #[.val (.int p1), .unset] []))
          obtain ⟨T5, X5, e5, st5⟩ := getS X0 hx hZ hown (host := "") (hw _ (List.mem_of_getElem? (i := 33) rfl)) Via.refl e0 S_RELEASE (g := (mkF m 47 #[.val (.int p1), .unset] [])) rfl (hb hby d_pick_47)
          refine OGo.by_ st5 ?_
          show OGo p e below _ (T5.setTop (mkF m 50 #[.val (.int p1), .unset] [(.ref aR)]))
          refine OGo.by_ (fun t k => XS.astoreN X5.here hx rfl (hb hby d_pick_50) rfl rfl (l' := #[.val (.int p1), .val (.ref aR)]) rfl k) ?_
          show OGo p e below _ (T5.setTop (mkF m 51 #[.val (.int p1), .val (.ref aR)] []))
          refine OGo.by_ (fun t k => XS.aloadN X5.here hx rfl (hb hby d_pick_51) rfl rfl k) ?_
          show OGo p e below _ (T5.setTop (mkF m 52 #[.val (.int p1), .val (.ref aR)] [(.ref aR)]))
          exact own_retA X5 hx hlk hret rfl rfl (hb hby d_pick_52) (by decide) (by decide) (⟨by simp only [own_pick, if_neg hc1, if_neg hc13, if_neg hc25, if_neg hc37], N0, e5⟩)
theorem d_dix_0 : decode method_3_code 0 = .ok (.iload_n 0, 1) := by decide +kernel
theorem d_dix_1 : decode method_3_code 1 = .ok (.ifCond .ne 8, 3) := by decide +kernel
theorem d_dix_4 : decode method_3_code 4 = .ok (.iconst 0, 1) := by decide +kernel
theorem d_dix_5 : decode method_3_code 5 = .ok (.istore_n 1, 1) := by decide +kernel
theorem d_dix_6 : decode method_3_code 6 = .ok (.goto 35, 3) := by decide +kernel
theorem d_dix_41 : decode method_3_code 41 = .ok (.iload_n 1, 1) := by decide +kernel
theorem d_dix_42 : decode method_3_code 42 = .ok (.ireturn, 1) := by decide +kernel
theorem d_dix_9 : decode method_3_code 9 = .ok (.iload_n 0, 1) := by decide +kernel
theorem d_dix_10 : decode method_3_code 10 = .ok (.iconst 1, 1) := by decide +kernel
theorem d_dix_11 : decode method_3_code 11 = .ok (.if_icmp .ne 8, 3) := by decide +kernel
theorem d_dix_14 : decode method_3_code 14 = .ok (.iconst 2, 1) := by decide +kernel
theorem d_dix_15 : decode method_3_code 15 = .ok (.istore_n 1, 1) := by decide +kernel
theorem d_dix_16 : decode method_3_code 16 = .ok (.goto 25, 3) := by decide +kernel
theorem d_dix_19 : decode method_3_code 19 = .ok (.iload_n 0, 1) := by decide +kernel
theorem d_dix_20 : decode method_3_code 20 = .ok (.iconst 2, 1) := by decide +kernel
theorem d_dix_21 : decode method_3_code 21 = .ok (.if_icmp .ne 8, 3) := by decide +kernel
theorem d_dix_24 : decode method_3_code 24 = .ok (.iconst 1, 1) := by decide +kernel
theorem d_dix_25 : decode method_3_code 25 = .ok (.istore_n 1, 1) := by decide +kernel
theorem d_dix_26 : decode method_3_code 26 = .ok (.goto 15, 3) := by decide +kernel
theorem d_dix_29 : decode method_3_code 29 = .ok (.iload_n 0, 1) := by decide +kernel
theorem d_dix_30 : decode method_3_code 30 = .ok (.iconst 3, 1) := by decide +kernel
theorem d_dix_31 : decode method_3_code 31 = .ok (.if_icmp .ne 8, 3) := by decide +kernel
theorem d_dix_34 : decode method_3_code 34 = .ok (.iconst 4, 1) := by decide +kernel
theorem d_dix_35 : decode method_3_code 35 = .ok (.istore_n 1, 1) := by decide +kernel
theorem d_dix_36 : decode method_3_code 36 = .ok (.goto 5, 3) := by decide +kernel
theorem d_dix_39 : decode method_3_code 39 = .ok (.iconst 3, 1) := by decide +kernel
theorem d_dix_40 : decode method_3_code 40 = .ok (.istore_n 1, 1) := by decide +kernel
theorem ef_dix (m : MethodId) (x0 : Int32) : entryFrame m #[(.int x0)] 2 = mkF m 0 #[.val (.int x0), .unset] [] := by first | (simp [entryFrame, mkF, argsToLocals, Value.category]; done) | rfl
def Q_dix (Z : State) (p1 : Int32) (h0 : Heap) (n0 : Nat) (v : Option Value) (h : Heap) (L : List Loc) : Prop := v = some (.int (own_dualI p1)) ∧ Fr n0 L ∧ h = h0
set_option maxRecDepth 65536 in
set_option maxHeartbeats 40000000 in
theorem rm_dix (l : Launch) (Z : State) (a0 : Array Value) (hw : ∀ d ∈ tables_1, d.before a0 Z = true) (ws : List Jvm.Cond) (p1 : Int32) (h0 : Heap) (n0 : Nat) (Z0 : n0 ≤ h0.size)  :
    MetFree l (⟨"com/example/fair_witness/fairwitness/model/OperatorDualPinLaw", "dualIndex", "(I)I"⟩ : MethodName) (head1 (Jvm.Cond.code (⟨"com/example/fair_witness/fairwitness/model/OperatorDualPinLaw", "dualIndex", "(I)I"⟩ : MethodName) method_3_code 2 (some .int) :: ws) ({ frames := 0, cells := 0, slots := 0, locals := 0 } : Room)) (fun a_ U => a_ = #[(.int p1)] ∧ Z.Warmed39 U.vm ∧ U.heap = h0) (fun _ _ _ _ _ => True) (fun _ U o U' => ∃ v L, o = .returned v ∧ Q_dix Z p1 h0 n0 v U'.heap L ∧ FrameEnd U o U' L ({ frames := 0, cells := 0, slots := 0, locals := 0 } : Room).cells ({ frames := 0, cells := 0, slots := 0, locals := 0 } : Room).slots) := by
  refine MetFree.of_bodySF (plainFor_of_name pn_com_example_fair_witness_fairwitness_model_OperatorDualPinLaw) hisR ?_
  intro p e s m args below meth c s₁ Bd hml0 hP hK
  obtain ⟨rfl, hZ, hh⟩ := hP
  have hx := Bd.exec
  have hby := Bd.bytes
  have hml : c.maxLocals = 2 := hml0
  have hown : s.vm.findClass "com/example/fair_witness/fairwitness/model/OperatorDualPinLaw" = some m.cls := findClass_of_methodNamed Bd.named
  have hnm := (name_of_methodNamed Bd.named Bd.method).1
  have X0 : Stand p l e ({ frames := 0, cells := 0, slots := 0, locals := 0 } : Room) s m #[(.int p1)] below meth c s₁ [] 0 0 := Stand.of_body Bd
  have e0 : s₁.heap = h0 := by rw [← hh, Bd.state]; rfl
  have N0 := Fr.nil n0
  have hlk := Bd.notSynchronized
  have hret := Bd.returns
  show OGo p e below (OEnd s (Q_dix Z p1 h0 n0) ({ frames := 0, cells := 0, slots := 0, locals := 0 } : Room).cells ({ frames := 0, cells := 0, slots := 0, locals := 0 } : Room).slots) (s₁.setTop (entryFrame m #[(.int p1)] 2))
  rw [ef_dix]
  show OGo p e below _ (s₁.setTop (mkF m 0 #[.val (.int p1), .unset] []))
  refine OGo.by_ (fun t k => XS.iloadN X0.here hx rfl (hb hby d_dix_0) rfl k) ?_
  show OGo p e below _ (s₁.setTop (mkF m 1 #[.val (.int p1), .unset] [(.int p1)]))
  by_cases hc1 : p1 = (0 : Int32)
  · refine OGo.by_ (fun t k => XS.ifNo X0.here hx rfl (hb hby d_dix_1) rfl ((if0 _ _).trans (teq hc1).2) k) ?_
    show OGo p e below _ (s₁.setTop (mkF m 4 #[.val (.int p1), .unset] []))
    refine OGo.by_ (fun t k => XS.iconst X0.here hx rfl (hb hby d_dix_4) k) ?_
    show OGo p e below _ (s₁.setTop (mkF m 5 #[.val (.int p1), .unset] [(.int (0 : Int32))]))
    refine OGo.by_ (fun t k => XS.istoreN X0.here hx rfl (hb hby d_dix_5) rfl (l' := #[.val (.int p1), .val (.int (0 : Int32))]) rfl k) ?_
    show OGo p e below _ (s₁.setTop (mkF m 6 #[.val (.int p1), .val (.int (0 : Int32))] []))
    refine OGo.by_ (fun t k => XS.goto X0.here hx rfl (pc0 := 6) (pc' := 41) rfl (hb hby d_dix_6) (by decide) (by decide) k) ?_
    show OGo p e below _ (s₁.setTop (mkF m 41 #[.val (.int p1), .val (.int (0 : Int32))] []))
    refine OGo.by_ (fun t k => XS.iloadN X0.here hx rfl (hb hby d_dix_41) rfl k) ?_
    show OGo p e below _ (s₁.setTop (mkF m 42 #[.val (.int p1), .val (.int (0 : Int32))] [(.int (0 : Int32))]))
    exact own_retI X0 hx hlk hret (hb hby d_dix_42) (by decide) (by decide) (⟨by simp only [own_dualI, if_pos hc1], N0, e0⟩)
  · refine OGo.by_ (fun t k => XS.ifYes X0.here hx rfl (pc0 := 1) (pc' := 9) rfl (hb hby d_dix_1) rfl ((if0 _ _).trans (feq hc1).2) (by decide) (by decide) k) ?_
    show OGo p e below _ (s₁.setTop (mkF m 9 #[.val (.int p1), .unset] []))
    refine OGo.by_ (fun t k => XS.iloadN X0.here hx rfl (hb hby d_dix_9) rfl k) ?_
    show OGo p e below _ (s₁.setTop (mkF m 10 #[.val (.int p1), .unset] [(.int p1)]))
    refine OGo.by_ (fun t k => XS.iconst X0.here hx rfl (hb hby d_dix_10) k) ?_
    show OGo p e below _ (s₁.setTop (mkF m 11 #[.val (.int p1), .unset] [(.int (1 : Int32)), (.int p1)]))
    by_cases hc11 : p1 = (1 : Int32)
    · refine OGo.by_ (fun t k => XS.icmpNo X0.here hx rfl (hb hby d_dix_11) rfl (teq hc11).2 k) ?_
      show OGo p e below _ (s₁.setTop (mkF m 14 #[.val (.int p1), .unset] []))
      refine OGo.by_ (fun t k => XS.iconst X0.here hx rfl (hb hby d_dix_14) k) ?_
      show OGo p e below _ (s₁.setTop (mkF m 15 #[.val (.int p1), .unset] [(.int (2 : Int32))]))
      refine OGo.by_ (fun t k => XS.istoreN X0.here hx rfl (hb hby d_dix_15) rfl (l' := #[.val (.int p1), .val (.int (2 : Int32))]) rfl k) ?_
      show OGo p e below _ (s₁.setTop (mkF m 16 #[.val (.int p1), .val (.int (2 : Int32))] []))
      refine OGo.by_ (fun t k => XS.goto X0.here hx rfl (pc0 := 16) (pc' := 41) rfl (hb hby d_dix_16) (by decide) (by decide) k) ?_
      show OGo p e below _ (s₁.setTop (mkF m 41 #[.val (.int p1), .val (.int (2 : Int32))] []))
      refine OGo.by_ (fun t k => XS.iloadN X0.here hx rfl (hb hby d_dix_41) rfl k) ?_
      show OGo p e below _ (s₁.setTop (mkF m 42 #[.val (.int p1), .val (.int (2 : Int32))] [(.int (2 : Int32))]))
      exact own_retI X0 hx hlk hret (hb hby d_dix_42) (by decide) (by decide) (⟨by simp only [own_dualI, if_neg hc1, if_pos hc11], N0, e0⟩)
    · refine OGo.by_ (fun t k => XS.icmpYes X0.here hx rfl (pc0 := 11) (pc' := 19) rfl (hb hby d_dix_11) rfl (feq hc11).2 (by decide) (by decide) k) ?_
      show OGo p e below _ (s₁.setTop (mkF m 19 #[.val (.int p1), .unset] []))
      refine OGo.by_ (fun t k => XS.iloadN X0.here hx rfl (hb hby d_dix_19) rfl k) ?_
      show OGo p e below _ (s₁.setTop (mkF m 20 #[.val (.int p1), .unset] [(.int p1)]))
      refine OGo.by_ (fun t k => XS.iconst X0.here hx rfl (hb hby d_dix_20) k) ?_
      show OGo p e below _ (s₁.setTop (mkF m 21 #[.val (.int p1), .unset] [(.int (2 : Int32)), (.int p1)]))
      by_cases hc21 : p1 = (2 : Int32)
      · refine OGo.by_ (fun t k => XS.icmpNo X0.here hx rfl (hb hby d_dix_21) rfl (teq hc21).2 k) ?_
        show OGo p e below _ (s₁.setTop (mkF m 24 #[.val (.int p1), .unset] []))
        refine OGo.by_ (fun t k => XS.iconst X0.here hx rfl (hb hby d_dix_24) k) ?_
        show OGo p e below _ (s₁.setTop (mkF m 25 #[.val (.int p1), .unset] [(.int (1 : Int32))]))
        refine OGo.by_ (fun t k => XS.istoreN X0.here hx rfl (hb hby d_dix_25) rfl (l' := #[.val (.int p1), .val (.int (1 : Int32))]) rfl k) ?_
        show OGo p e below _ (s₁.setTop (mkF m 26 #[.val (.int p1), .val (.int (1 : Int32))] []))
        refine OGo.by_ (fun t k => XS.goto X0.here hx rfl (pc0 := 26) (pc' := 41) rfl (hb hby d_dix_26) (by decide) (by decide) k) ?_
        show OGo p e below _ (s₁.setTop (mkF m 41 #[.val (.int p1), .val (.int (1 : Int32))] []))
        refine OGo.by_ (fun t k => XS.iloadN X0.here hx rfl (hb hby d_dix_41) rfl k) ?_
        show OGo p e below _ (s₁.setTop (mkF m 42 #[.val (.int p1), .val (.int (1 : Int32))] [(.int (1 : Int32))]))
        exact own_retI X0 hx hlk hret (hb hby d_dix_42) (by decide) (by decide) (⟨by simp only [own_dualI, if_neg hc1, if_neg hc11, if_pos hc21], N0, e0⟩)
      · refine OGo.by_ (fun t k => XS.icmpYes X0.here hx rfl (pc0 := 21) (pc' := 29) rfl (hb hby d_dix_21) rfl (feq hc21).2 (by decide) (by decide) k) ?_
        show OGo p e below _ (s₁.setTop (mkF m 29 #[.val (.int p1), .unset] []))
        refine OGo.by_ (fun t k => XS.iloadN X0.here hx rfl (hb hby d_dix_29) rfl k) ?_
        show OGo p e below _ (s₁.setTop (mkF m 30 #[.val (.int p1), .unset] [(.int p1)]))
        refine OGo.by_ (fun t k => XS.iconst X0.here hx rfl (hb hby d_dix_30) k) ?_
        show OGo p e below _ (s₁.setTop (mkF m 31 #[.val (.int p1), .unset] [(.int (3 : Int32)), (.int p1)]))
        by_cases hc31 : p1 = (3 : Int32)
        · refine OGo.by_ (fun t k => XS.icmpNo X0.here hx rfl (hb hby d_dix_31) rfl (teq hc31).2 k) ?_
          show OGo p e below _ (s₁.setTop (mkF m 34 #[.val (.int p1), .unset] []))
          refine OGo.by_ (fun t k => XS.iconst X0.here hx rfl (hb hby d_dix_34) k) ?_
          show OGo p e below _ (s₁.setTop (mkF m 35 #[.val (.int p1), .unset] [(.int (4 : Int32))]))
          refine OGo.by_ (fun t k => XS.istoreN X0.here hx rfl (hb hby d_dix_35) rfl (l' := #[.val (.int p1), .val (.int (4 : Int32))]) rfl k) ?_
          show OGo p e below _ (s₁.setTop (mkF m 36 #[.val (.int p1), .val (.int (4 : Int32))] []))
          refine OGo.by_ (fun t k => XS.goto X0.here hx rfl (pc0 := 36) (pc' := 41) rfl (hb hby d_dix_36) (by decide) (by decide) k) ?_
          show OGo p e below _ (s₁.setTop (mkF m 41 #[.val (.int p1), .val (.int (4 : Int32))] []))
          refine OGo.by_ (fun t k => XS.iloadN X0.here hx rfl (hb hby d_dix_41) rfl k) ?_
          show OGo p e below _ (s₁.setTop (mkF m 42 #[.val (.int p1), .val (.int (4 : Int32))] [(.int (4 : Int32))]))
          exact own_retI X0 hx hlk hret (hb hby d_dix_42) (by decide) (by decide) (⟨by simp only [own_dualI, if_neg hc1, if_neg hc11, if_neg hc21, if_pos hc31], N0, e0⟩)
        · refine OGo.by_ (fun t k => XS.icmpYes X0.here hx rfl (pc0 := 31) (pc' := 39) rfl (hb hby d_dix_31) rfl (feq hc31).2 (by decide) (by decide) k) ?_
          show OGo p e below _ (s₁.setTop (mkF m 39 #[.val (.int p1), .unset] []))
          refine OGo.by_ (fun t k => XS.iconst X0.here hx rfl (hb hby d_dix_39) k) ?_
          show OGo p e below _ (s₁.setTop (mkF m 40 #[.val (.int p1), .unset] [(.int (3 : Int32))]))
          refine OGo.by_ (fun t k => XS.istoreN X0.here hx rfl (hb hby d_dix_40) rfl (l' := #[.val (.int p1), .val (.int (3 : Int32))]) rfl k) ?_
          show OGo p e below _ (s₁.setTop (mkF m 41 #[.val (.int p1), .val (.int (3 : Int32))] []))
          refine OGo.by_ (fun t k => XS.iloadN X0.here hx rfl (hb hby d_dix_41) rfl k) ?_
          show OGo p e below _ (s₁.setTop (mkF m 42 #[.val (.int p1), .val (.int (3 : Int32))] [(.int (3 : Int32))]))
          exact own_retI X0 hx hlk hret (hb hby d_dix_42) (by decide) (by decide) (⟨by simp only [own_dualI, if_neg hc1, if_neg hc11, if_neg hc21, if_neg hc31], N0, e0⟩)
theorem d_dual_0 : decode prog_95_method_6_code 0 = .ok (.aload_n 0, 1) := by decide +kernel
theorem d_dual_1 : decode prog_95_method_6_code 1 = .ok (.getstatic 7, 3) := by decide +kernel
theorem d_dual_4 : decode prog_95_method_6_code 4 = .ok (.if_acmp .ne 10, 3) := by decide +kernel
theorem d_dual_7 : decode prog_95_method_6_code 7 = .ok (.getstatic 10, 3) := by decide +kernel
theorem d_dual_10 : decode prog_95_method_6_code 10 = .ok (.astore_n 1, 1) := by decide +kernel
theorem d_dual_11 : decode prog_95_method_6_code 11 = .ok (.goto 49, 3) := by decide +kernel
theorem d_dual_60 : decode prog_95_method_6_code 60 = .ok (.aload_n 1, 1) := by decide +kernel
theorem d_dual_61 : decode prog_95_method_6_code 61 = .ok (.areturn, 1) := by decide +kernel
theorem d_dual_14 : decode prog_95_method_6_code 14 = .ok (.aload_n 0, 1) := by decide +kernel
theorem d_dual_15 : decode prog_95_method_6_code 15 = .ok (.getstatic 10, 3) := by decide +kernel
theorem d_dual_18 : decode prog_95_method_6_code 18 = .ok (.if_acmp .ne 10, 3) := by decide +kernel
theorem d_dual_21 : decode prog_95_method_6_code 21 = .ok (.getstatic 7, 3) := by decide +kernel
theorem d_dual_24 : decode prog_95_method_6_code 24 = .ok (.astore_n 1, 1) := by decide +kernel
theorem d_dual_25 : decode prog_95_method_6_code 25 = .ok (.goto 35, 3) := by decide +kernel
theorem d_dual_28 : decode prog_95_method_6_code 28 = .ok (.aload_n 0, 1) := by decide +kernel
theorem d_dual_29 : decode prog_95_method_6_code 29 = .ok (.getstatic 13, 3) := by decide +kernel
theorem d_dual_32 : decode prog_95_method_6_code 32 = .ok (.if_acmp .ne 10, 3) := by decide +kernel
theorem d_dual_35 : decode prog_95_method_6_code 35 = .ok (.getstatic 16, 3) := by decide +kernel
theorem d_dual_38 : decode prog_95_method_6_code 38 = .ok (.astore_n 1, 1) := by decide +kernel
theorem d_dual_39 : decode prog_95_method_6_code 39 = .ok (.goto 21, 3) := by decide +kernel
theorem d_dual_42 : decode prog_95_method_6_code 42 = .ok (.aload_n 0, 1) := by decide +kernel
theorem d_dual_43 : decode prog_95_method_6_code 43 = .ok (.getstatic 16, 3) := by decide +kernel
theorem d_dual_46 : decode prog_95_method_6_code 46 = .ok (.if_acmp .ne 10, 3) := by decide +kernel
theorem d_dual_49 : decode prog_95_method_6_code 49 = .ok (.getstatic 13, 3) := by decide +kernel
theorem d_dual_52 : decode prog_95_method_6_code 52 = .ok (.astore_n 1, 1) := by decide +kernel
theorem d_dual_53 : decode prog_95_method_6_code 53 = .ok (.goto 7, 3) := by decide +kernel
theorem d_dual_56 : decode prog_95_method_6_code 56 = .ok (.getstatic 3, 3) := by decide +kernel
theorem d_dual_59 : decode prog_95_method_6_code 59 = .ok (.astore_n 1, 1) := by decide +kernel
theorem pn_com_example_fair_witness_fairwitness_model_TemporalFormula_Operator : plainName "com/example/fair_witness/fairwitness/model/TemporalFormula$Operator" = true := by first | (simp [plainName, overriddenIn]; done) | decide +kernel
theorem ef_dual (m : MethodId) (x0 : Addr) : entryFrame m #[(.ref x0)] 2 = mkF m 0 #[.val (.ref x0), .unset] [] := by first | (simp [entryFrame, mkF, argsToLocals, Value.category]; done) | rfl
def Q_dual (Z : State) (a aN aF aG aU aR : Addr) (h0 : Heap) (n0 : Nat) (v : Option Value) (h : Heap) (L : List Loc) : Prop := v = some (.ref (own_dual aN aF aG aU aR a)) ∧ Fr n0 L ∧ h = h0
set_option maxRecDepth 65536 in
set_option maxHeartbeats 40000000 in
theorem rm_dual (l : Launch) (Z : State) (a0 : Array Value) (hw : ∀ d ∈ tables_1, d.before a0 Z = true) (ws : List Jvm.Cond) (a aN aF aG aU aR : Addr) (h0 : Heap) (n0 : Nat) (Z0 : n0 ≤ h0.size) (S_NEXT : Sta Z h0 "com/example/fair_witness/fairwitness/model/TemporalFormula$Operator" "NEXT" "Lcom/example/fair_witness/fairwitness/model/TemporalFormula$Operator;" (.ref aN)) (S_FUTURE : Sta Z h0 "com/example/fair_witness/fairwitness/model/TemporalFormula$Operator" "FUTURE" "Lcom/example/fair_witness/fairwitness/model/TemporalFormula$Operator;" (.ref aF)) (S_GLOBALLY : Sta Z h0 "com/example/fair_witness/fairwitness/model/TemporalFormula$Operator" "GLOBALLY" "Lcom/example/fair_witness/fairwitness/model/TemporalFormula$Operator;" (.ref aG)) (S_UNTIL : Sta Z h0 "com/example/fair_witness/fairwitness/model/TemporalFormula$Operator" "UNTIL" "Lcom/example/fair_witness/fairwitness/model/TemporalFormula$Operator;" (.ref aU)) (S_RELEASE : Sta Z h0 "com/example/fair_witness/fairwitness/model/TemporalFormula$Operator" "RELEASE" "Lcom/example/fair_witness/fairwitness/model/TemporalFormula$Operator;" (.ref aR)) :
    MetFree l (⟨"com/example/fair_witness/fairwitness/model/TemporalFormula$Operator", "dual", "()Lcom/example/fair_witness/fairwitness/model/TemporalFormula$Operator;"⟩ : MethodName) (head1 (Jvm.Cond.code (⟨"com/example/fair_witness/fairwitness/model/TemporalFormula$Operator", "dual", "()Lcom/example/fair_witness/fairwitness/model/TemporalFormula$Operator;"⟩ : MethodName) prog_95_method_6_code 2 (some (.object "com/example/fair_witness/fairwitness/model/TemporalFormula$Operator")) :: ws) ({ frames := 0, cells := 0, slots := 0, locals := 0 } : Room)) (fun a_ U => a_ = #[(.ref a)] ∧ Z.Warmed39 U.vm ∧ U.heap = h0) (fun _ _ _ _ _ => True) (fun _ U o U' => ∃ v L, o = .returned v ∧ Q_dual Z a aN aF aG aU aR h0 n0 v U'.heap L ∧ FrameEnd U o U' L ({ frames := 0, cells := 0, slots := 0, locals := 0 } : Room).cells ({ frames := 0, cells := 0, slots := 0, locals := 0 } : Room).slots) := by
  refine MetFree.of_bodySF (plainFor_of_name pn_com_example_fair_witness_fairwitness_model_TemporalFormula_Operator) hisR ?_
  intro p e s m args below meth c s₁ Bd hml0 hP hK
  obtain ⟨rfl, hZ, hh⟩ := hP
  have hx := Bd.exec
  have hby := Bd.bytes
  have hml : c.maxLocals = 2 := hml0
  have hown : s.vm.findClass "com/example/fair_witness/fairwitness/model/TemporalFormula$Operator" = some m.cls := findClass_of_methodNamed Bd.named
  have hnm := (name_of_methodNamed Bd.named Bd.method).1
  have X0 : Stand p l e ({ frames := 0, cells := 0, slots := 0, locals := 0 } : Room) s m #[(.ref a)] below meth c s₁ [] 0 0 := Stand.of_body Bd
  have e0 : s₁.heap = h0 := by rw [← hh, Bd.state]; rfl
  have N0 := Fr.nil n0
  have hlk := Bd.notSynchronized
  have hret := Bd.returns
  show OGo p e below (OEnd s (Q_dual Z a aN aF aG aU aR h0 n0) ({ frames := 0, cells := 0, slots := 0, locals := 0 } : Room).cells ({ frames := 0, cells := 0, slots := 0, locals := 0 } : Room).slots) (s₁.setTop (entryFrame m #[(.ref a)] 2))
  rw [ef_dual]
  show OGo p e below _ (s₁.setTop (mkF m 0 #[.val (.ref a), .unset] []))
  refine OGo.by_ (fun t k => XS.aloadN X0.here hx rfl (hb hby d_dual_0) rfl rfl k) ?_
  show OGo p e below _ (s₁.setTop (mkF m 1 #[.val (.ref a), .unset] [(.ref a)]))
  obtain ⟨T1, X1, e1, st1⟩ := getS X0 hx hZ hown (host := "") (hw _ (List.mem_of_getElem? (i := 16) rfl)) Via.refl e0 S_FUTURE (g := (mkF m 1 #[.val (.ref a), .unset] [(.ref a)])) rfl (hb hby d_dual_1)
  refine OGo.by_ st1 ?_
  show OGo p e below _ (T1.setTop (mkF m 4 #[.val (.ref a), .unset] [(.ref aF), (.ref a)]))
  by_cases hc4 : a = aF
  · refine OGo.by_ (fun t k => Jvm.RoadKit.acmp (g := (mkF m 4 #[.val (.ref a), .unset] [(.ref aF), (.ref a)])) X1 hx rfl rfl rfl (pc0 := 4) (pc' := 7) (same := true) rfl (hb hby d_dual_4) rfl (decide_eq_true (congrArg Value.ref hc4)) (by decide) (by decide) k) ?_
    show OGo p e below _ (T1.setTop (mkF m 7 #[.val (.ref a), .unset] []))
    obtain ⟨T2, X2, e2, st2⟩ := getS X1 hx hZ hown (host := "") (hw _ (List.mem_of_getElem? (i := 18) rfl)) Via.refl e1 S_GLOBALLY (g := (mkF m 7 #[.val (.ref a), .unset] [])) rfl (hb hby d_dual_7)
    refine OGo.by_ st2 ?_
    show OGo p e below _ (T2.setTop (mkF m 10 #[.val (.ref a), .unset] [(.ref aG)]))
    refine OGo.by_ (fun t k => XS.astoreN X2.here hx rfl (hb hby d_dual_10) rfl rfl (l' := #[.val (.ref a), .val (.ref aG)]) rfl k) ?_
    show OGo p e below _ (T2.setTop (mkF m 11 #[.val (.ref a), .val (.ref aG)] []))
    refine OGo.by_ (fun t k => XS.goto X2.here hx rfl (pc0 := 11) (pc' := 60) rfl (hb hby d_dual_11) (by decide) (by decide) k) ?_
    show OGo p e below _ (T2.setTop (mkF m 60 #[.val (.ref a), .val (.ref aG)] []))
    refine OGo.by_ (fun t k => XS.aloadN X2.here hx rfl (hb hby d_dual_60) rfl rfl k) ?_
    show OGo p e below _ (T2.setTop (mkF m 61 #[.val (.ref a), .val (.ref aG)] [(.ref aG)]))
    exact own_retA X2 hx hlk hret rfl rfl (hb hby d_dual_61) (by decide) (by decide) (⟨by simp only [own_dual, if_pos hc4], N0, e2⟩)
  · refine OGo.by_ (fun t k => Jvm.RoadKit.acmp (g := (mkF m 4 #[.val (.ref a), .unset] [(.ref aF), (.ref a)])) X1 hx rfl rfl rfl (pc0 := 4) (pc' := 14) (same := false) rfl (hb hby d_dual_4) rfl (decide_eq_false fun q => hc4 (Value.ref.inj q)) (by decide) (by decide) k) ?_
    show OGo p e below _ (T1.setTop (mkF m 14 #[.val (.ref a), .unset] []))
    refine OGo.by_ (fun t k => XS.aloadN X1.here hx rfl (hb hby d_dual_14) rfl rfl k) ?_
    show OGo p e below _ (T1.setTop (mkF m 15 #[.val (.ref a), .unset] [(.ref a)]))
    obtain ⟨T3, X3, e3, st3⟩ := getS X1 hx hZ hown (host := "") (hw _ (List.mem_of_getElem? (i := 18) rfl)) Via.refl e1 S_GLOBALLY (g := (mkF m 15 #[.val (.ref a), .unset] [(.ref a)])) rfl (hb hby d_dual_15)
    refine OGo.by_ st3 ?_
    show OGo p e below _ (T3.setTop (mkF m 18 #[.val (.ref a), .unset] [(.ref aG), (.ref a)]))
    by_cases hc18 : a = aG
    · refine OGo.by_ (fun t k => Jvm.RoadKit.acmp (g := (mkF m 18 #[.val (.ref a), .unset] [(.ref aG), (.ref a)])) X3 hx rfl rfl rfl (pc0 := 18) (pc' := 21) (same := true) rfl (hb hby d_dual_18) rfl (decide_eq_true (congrArg Value.ref hc18)) (by decide) (by decide) k) ?_
      show OGo p e below _ (T3.setTop (mkF m 21 #[.val (.ref a), .unset] []))
      obtain ⟨T4, X4, e4, st4⟩ := getS X3 hx hZ hown (host := "") (hw _ (List.mem_of_getElem? (i := 16) rfl)) Via.refl e3 S_FUTURE (g := (mkF m 21 #[.val (.ref a), .unset] [])) rfl (hb hby d_dual_21)
      refine OGo.by_ st4 ?_
      show OGo p e below _ (T4.setTop (mkF m 24 #[.val (.ref a), .unset] [(.ref aF)]))
      refine OGo.by_ (fun t k => XS.astoreN X4.here hx rfl (hb hby d_dual_24) rfl rfl (l' := #[.val (.ref a), .val (.ref aF)]) rfl k) ?_
      show OGo p e below _ (T4.setTop (mkF m 25 #[.val (.ref a), .val (.ref aF)] []))
      refine OGo.by_ (fun t k => XS.goto X4.here hx rfl (pc0 := 25) (pc' := 60) rfl (hb hby d_dual_25) (by decide) (by decide) k) ?_
      show OGo p e below _ (T4.setTop (mkF m 60 #[.val (.ref a), .val (.ref aF)] []))
      refine OGo.by_ (fun t k => XS.aloadN X4.here hx rfl (hb hby d_dual_60) rfl rfl k) ?_
      show OGo p e below _ (T4.setTop (mkF m 61 #[.val (.ref a), .val (.ref aF)] [(.ref aF)]))
      exact own_retA X4 hx hlk hret rfl rfl (hb hby d_dual_61) (by decide) (by decide) (⟨by simp only [own_dual, if_neg hc4, if_pos hc18], N0, e4⟩)
    · refine OGo.by_ (fun t k => Jvm.RoadKit.acmp (g := (mkF m 18 #[.val (.ref a), .unset] [(.ref aG), (.ref a)])) X3 hx rfl rfl rfl (pc0 := 18) (pc' := 28) (same := false) rfl (hb hby d_dual_18) rfl (decide_eq_false fun q => hc18 (Value.ref.inj q)) (by decide) (by decide) k) ?_
      show OGo p e below _ (T3.setTop (mkF m 28 #[.val (.ref a), .unset] []))
      refine OGo.by_ (fun t k => XS.aloadN X3.here hx rfl (hb hby d_dual_28) rfl rfl k) ?_
      show OGo p e below _ (T3.setTop (mkF m 29 #[.val (.ref a), .unset] [(.ref a)]))
      obtain ⟨T5, X5, e5, st5⟩ := getS X3 hx hZ hown (host := "") (hw _ (List.mem_of_getElem? (i := 20) rfl)) Via.refl e3 S_UNTIL (g := (mkF m 29 #[.val (.ref a), .unset] [(.ref a)])) rfl (hb hby d_dual_29)
      refine OGo.by_ st5 ?_
      show OGo p e below _ (T5.setTop (mkF m 32 #[.val (.ref a), .unset] [(.ref aU), (.ref a)]))
      by_cases hc32 : a = aU
      · refine OGo.by_ (fun t k => Jvm.RoadKit.acmp (g := (mkF m 32 #[.val (.ref a), .unset] [(.ref aU), (.ref a)])) X5 hx rfl rfl rfl (pc0 := 32) (pc' := 35) (same := true) rfl (hb hby d_dual_32) rfl (decide_eq_true (congrArg Value.ref hc32)) (by decide) (by decide) k) ?_
        show OGo p e below _ (T5.setTop (mkF m 35 #[.val (.ref a), .unset] []))
        obtain ⟨T6, X6, e6, st6⟩ := getS X5 hx hZ hown (host := "") (hw _ (List.mem_of_getElem? (i := 22) rfl)) Via.refl e5 S_RELEASE (g := (mkF m 35 #[.val (.ref a), .unset] [])) rfl (hb hby d_dual_35)
        refine OGo.by_ st6 ?_
        show OGo p e below _ (T6.setTop (mkF m 38 #[.val (.ref a), .unset] [(.ref aR)]))
        refine OGo.by_ (fun t k => XS.astoreN X6.here hx rfl (hb hby d_dual_38) rfl rfl (l' := #[.val (.ref a), .val (.ref aR)]) rfl k) ?_
        show OGo p e below _ (T6.setTop (mkF m 39 #[.val (.ref a), .val (.ref aR)] []))
        refine OGo.by_ (fun t k => XS.goto X6.here hx rfl (pc0 := 39) (pc' := 60) rfl (hb hby d_dual_39) (by decide) (by decide) k) ?_
        show OGo p e below _ (T6.setTop (mkF m 60 #[.val (.ref a), .val (.ref aR)] []))
        refine OGo.by_ (fun t k => XS.aloadN X6.here hx rfl (hb hby d_dual_60) rfl rfl k) ?_
        show OGo p e below _ (T6.setTop (mkF m 61 #[.val (.ref a), .val (.ref aR)] [(.ref aR)]))
        exact own_retA X6 hx hlk hret rfl rfl (hb hby d_dual_61) (by decide) (by decide) (⟨by simp only [own_dual, if_neg hc4, if_neg hc18, if_pos hc32], N0, e6⟩)
      · refine OGo.by_ (fun t k => Jvm.RoadKit.acmp (g := (mkF m 32 #[.val (.ref a), .unset] [(.ref aU), (.ref a)])) X5 hx rfl rfl rfl (pc0 := 32) (pc' := 42) (same := false) rfl (hb hby d_dual_32) rfl (decide_eq_false fun q => hc32 (Value.ref.inj q)) (by decide) (by decide) k) ?_
        show OGo p e below _ (T5.setTop (mkF m 42 #[.val (.ref a), .unset] []))
        refine OGo.by_ (fun t k => XS.aloadN X5.here hx rfl (hb hby d_dual_42) rfl rfl k) ?_
        show OGo p e below _ (T5.setTop (mkF m 43 #[.val (.ref a), .unset] [(.ref a)]))
        obtain ⟨T7, X7, e7, st7⟩ := getS X5 hx hZ hown (host := "") (hw _ (List.mem_of_getElem? (i := 22) rfl)) Via.refl e5 S_RELEASE (g := (mkF m 43 #[.val (.ref a), .unset] [(.ref a)])) rfl (hb hby d_dual_43)
        refine OGo.by_ st7 ?_
        show OGo p e below _ (T7.setTop (mkF m 46 #[.val (.ref a), .unset] [(.ref aR), (.ref a)]))
        by_cases hc46 : a = aR
        · refine OGo.by_ (fun t k => Jvm.RoadKit.acmp (g := (mkF m 46 #[.val (.ref a), .unset] [(.ref aR), (.ref a)])) X7 hx rfl rfl rfl (pc0 := 46) (pc' := 49) (same := true) rfl (hb hby d_dual_46) rfl (decide_eq_true (congrArg Value.ref hc46)) (by decide) (by decide) k) ?_
          show OGo p e below _ (T7.setTop (mkF m 49 #[.val (.ref a), .unset] []))
          obtain ⟨T8, X8, e8, st8⟩ := getS X7 hx hZ hown (host := "") (hw _ (List.mem_of_getElem? (i := 20) rfl)) Via.refl e7 S_UNTIL (g := (mkF m 49 #[.val (.ref a), .unset] [])) rfl (hb hby d_dual_49)
          refine OGo.by_ st8 ?_
          show OGo p e below _ (T8.setTop (mkF m 52 #[.val (.ref a), .unset] [(.ref aU)]))
          refine OGo.by_ (fun t k => XS.astoreN X8.here hx rfl (hb hby d_dual_52) rfl rfl (l' := #[.val (.ref a), .val (.ref aU)]) rfl k) ?_
          show OGo p e below _ (T8.setTop (mkF m 53 #[.val (.ref a), .val (.ref aU)] []))
          refine OGo.by_ (fun t k => XS.goto X8.here hx rfl (pc0 := 53) (pc' := 60) rfl (hb hby d_dual_53) (by decide) (by decide) k) ?_
          show OGo p e below _ (T8.setTop (mkF m 60 #[.val (.ref a), .val (.ref aU)] []))
          refine OGo.by_ (fun t k => XS.aloadN X8.here hx rfl (hb hby d_dual_60) rfl rfl k) ?_
          show OGo p e below _ (T8.setTop (mkF m 61 #[.val (.ref a), .val (.ref aU)] [(.ref aU)]))
          exact own_retA X8 hx hlk hret rfl rfl (hb hby d_dual_61) (by decide) (by decide) (⟨by simp only [own_dual, if_neg hc4, if_neg hc18, if_neg hc32, if_pos hc46], N0, e8⟩)
        · refine OGo.by_ (fun t k => Jvm.RoadKit.acmp (g := (mkF m 46 #[.val (.ref a), .unset] [(.ref aR), (.ref a)])) X7 hx rfl rfl rfl (pc0 := 46) (pc' := 56) (same := false) rfl (hb hby d_dual_46) rfl (decide_eq_false fun q => hc46 (Value.ref.inj q)) (by decide) (by decide) k) ?_
          show OGo p e below _ (T7.setTop (mkF m 56 #[.val (.ref a), .unset] []))
          obtain ⟨T9, X9, e9, st9⟩ := getS X7 hx hZ hown (host := "") (hw _ (List.mem_of_getElem? (i := 24) rfl)) Via.refl e7 S_NEXT (g := (mkF m 56 #[.val (.ref a), .unset] [])) rfl (hb hby d_dual_56)
          refine OGo.by_ st9 ?_
          show OGo p e below _ (T9.setTop (mkF m 59 #[.val (.ref a), .unset] [(.ref aN)]))
          refine OGo.by_ (fun t k => XS.astoreN X9.here hx rfl (hb hby d_dual_59) rfl rfl (l' := #[.val (.ref a), .val (.ref aN)]) rfl k) ?_
          show OGo p e below _ (T9.setTop (mkF m 60 #[.val (.ref a), .val (.ref aN)] []))
          refine OGo.by_ (fun t k => XS.aloadN X9.here hx rfl (hb hby d_dual_60) rfl rfl k) ?_
          show OGo p e below _ (T9.setTop (mkF m 61 #[.val (.ref a), .val (.ref aN)] [(.ref aN)]))
          exact own_retA X9 hx hlk hret rfl rfl (hb hby d_dual_61) (by decide) (by decide) (⟨by simp only [own_dual, if_neg hc4, if_neg hc18, if_neg hc32, if_neg hc46], N0, e9⟩)
theorem d_ar_0 : decode prog_95_method_5_code 0 = .ok (.aload_n 0, 1) := by decide +kernel
theorem d_ar_1 : decode prog_95_method_5_code 1 = .ok (.getfield 42, 3) := by decide +kernel
theorem d_ar_4 : decode prog_95_method_5_code 4 = .ok (.ireturn, 1) := by decide +kernel
theorem ef_ar (m : MethodId) (x0 : Addr) : entryFrame m #[(.ref x0)] 1 = mkF m 0 #[.val (.ref x0)] [] := by first | (simp [entryFrame, mkF, argsToLocals, Value.category]; done) | rfl
def Q_ar (Z : State) (a : Addr) (q1 : Int32) (h0 : Heap) (n0 : Nat) (v : Option Value) (h : Heap) (L : List Loc) : Prop := v = some (.int q1) ∧ Fr n0 L ∧ h = h0
set_option maxRecDepth 65536 in
set_option maxHeartbeats 40000000 in
theorem rm_ar (l : Launch) (Z : State) (a0 : Array Value) (hw : ∀ d ∈ tables_1, d.before a0 Z = true) (ws : List Jvm.Cond) (a : Addr) (q1 : Int32) (h0 : Heap) (n0 : Nat) (Z0 : n0 ≤ h0.size) (F0 : Fld Z h0 a "com/example/fair_witness/fairwitness/model/TemporalFormula$Operator" "arity" "I" (.int q1)) :
    MetFree l (⟨"com/example/fair_witness/fairwitness/model/TemporalFormula$Operator", "arity", "()I"⟩ : MethodName) (head1 (Jvm.Cond.code (⟨"com/example/fair_witness/fairwitness/model/TemporalFormula$Operator", "arity", "()I"⟩ : MethodName) prog_95_method_5_code 1 (some .int) :: ws) ({ frames := 0, cells := 0, slots := 0, locals := 0 } : Room)) (fun a_ U => a_ = #[(.ref a)] ∧ Z.Warmed39 U.vm ∧ U.heap = h0) (fun _ _ _ _ _ => True) (fun _ U o U' => ∃ v L, o = .returned v ∧ Q_ar Z a q1 h0 n0 v U'.heap L ∧ FrameEnd U o U' L ({ frames := 0, cells := 0, slots := 0, locals := 0 } : Room).cells ({ frames := 0, cells := 0, slots := 0, locals := 0 } : Room).slots) := by
  refine MetFree.of_bodySF (plainFor_of_name pn_com_example_fair_witness_fairwitness_model_TemporalFormula_Operator) hisR ?_
  intro p e s m args below meth c s₁ Bd hml0 hP hK
  obtain ⟨rfl, hZ, hh⟩ := hP
  have hx := Bd.exec
  have hby := Bd.bytes
  have hml : c.maxLocals = 1 := hml0
  have hown : s.vm.findClass "com/example/fair_witness/fairwitness/model/TemporalFormula$Operator" = some m.cls := findClass_of_methodNamed Bd.named
  have hnm := (name_of_methodNamed Bd.named Bd.method).1
  have X0 : Stand p l e ({ frames := 0, cells := 0, slots := 0, locals := 0 } : Room) s m #[(.ref a)] below meth c s₁ [] 0 0 := Stand.of_body Bd
  have e0 : s₁.heap = h0 := by rw [← hh, Bd.state]; rfl
  have N0 := Fr.nil n0
  have hlk := Bd.notSynchronized
  have hret := Bd.returns
  show OGo p e below (OEnd s (Q_ar Z a q1 h0 n0) ({ frames := 0, cells := 0, slots := 0, locals := 0 } : Room).cells ({ frames := 0, cells := 0, slots := 0, locals := 0 } : Room).slots) (s₁.setTop (entryFrame m #[(.ref a)] 1))
  rw [ef_ar]
  show OGo p e below _ (s₁.setTop (mkF m 0 #[.val (.ref a)] []))
  refine OGo.by_ (fun t k => XS.aloadN X0.here hx rfl (hb hby d_ar_0) rfl rfl k) ?_
  show OGo p e below _ (s₁.setTop (mkF m 1 #[.val (.ref a)] [(.ref a)]))
  obtain ⟨T1, X1, e1, st1⟩ := getF X0 hx hZ hown (host := "") (Or.inl (hw _ (List.mem_of_getElem? (i := 30) rfl))) Via.refl e0 F0 (g := (mkF m 1 #[.val (.ref a)] [(.ref a)])) rfl rfl (hb hby d_ar_1)
  refine OGo.by_ st1 ?_
  show OGo p e below _ (T1.setTop (mkF m 4 #[.val (.ref a)] [(.int q1)]))
  exact own_retI X1 hx hlk hret (hb hby d_ar_4) (by decide) (by decide) (⟨rfl, N0, e1⟩)
def own_far (aN aF aG aU aR : Addr) : Prop := (aN ≠ aF ∧ aN ≠ aG ∧ aN ≠ aU ∧ aN ≠ aR) ∧ (aF ≠ aG ∧ aF ≠ aU ∧ aF ≠ aR) ∧ (aG ≠ aU ∧ aG ≠ aR) ∧ aU ≠ aR
theorem own_pick_cases (aN aF aG aU aR : Addr) (p : Int32) : (p = 0 ∧ own_pick aN aF aG aU aR p = aN ∧ own_dualI p = 0 ∧ own_ar p = 1) ∨ (p = 1 ∧ own_pick aN aF aG aU aR p = aF ∧ own_dualI p = 2 ∧ own_ar p = 1) ∨ (p = 2 ∧ own_pick aN aF aG aU aR p = aG ∧ own_dualI p = 1 ∧ own_ar p = 1) ∨ (p = 3 ∧ own_pick aN aF aG aU aR p = aU ∧ own_dualI p = 4 ∧ own_ar p = 2) ∨ ((¬ p = 0 ∧ ¬ p = 1 ∧ ¬ p = 2 ∧ ¬ p = 3) ∧ own_pick aN aF aG aU aR p = aR ∧ own_dualI p = 3 ∧ own_ar p = 2) := by
  by_cases h0 : p = 0
  · subst h0; exact Or.inl ⟨rfl, rfl, rfl, rfl⟩
  by_cases h1 : p = 1
  · subst h1; exact Or.inr (Or.inl ⟨rfl, rfl, rfl, rfl⟩)
  by_cases h2 : p = 2
  · subst h2; exact Or.inr (Or.inr (Or.inl ⟨rfl, rfl, rfl, rfl⟩))
  by_cases h3 : p = 3
  · subst h3; exact Or.inr (Or.inr (Or.inr (Or.inl ⟨rfl, rfl, rfl, rfl⟩)))
  exact Or.inr (Or.inr (Or.inr (Or.inr ⟨⟨h0, h1, h2, h3⟩, by simp [own_pick, h0, h1, h2, h3], by simp [own_dualI, h0, h1, h2, h3], by simp [own_ar, h0, h1, h2]⟩)))
theorem own_p0 (aN aF aG aU aR : Addr) : own_pick aN aF aG aU aR 0 = aN ∧ own_pick aN aF aG aU aR 1 = aF ∧ own_pick aN aF aG aU aR 2 = aG ∧ own_pick aN aF aG aU aR 3 = aU ∧ own_pick aN aF aG aU aR 4 = aR := ⟨rfl, rfl, rfl, rfl, rfl⟩
theorem own_d0 {aN aF aG aU aR : Addr} (f : own_far aN aF aG aU aR) : own_dual aN aF aG aU aR aN = aN ∧ own_dual aN aF aG aU aR aF = aG ∧ own_dual aN aF aG aU aR aG = aF ∧ own_dual aN aF aG aU aR aU = aR ∧ own_dual aN aF aG aU aR aR = aU := by
  obtain ⟨⟨a1, a2, a3, a4⟩, ⟨b1, b2, b3⟩, ⟨c1, c2⟩, d1⟩ := f
  refine ⟨?_, ?_, ?_, ?_, ?_⟩
  · simp only [own_dual, if_neg a1, if_neg a2, if_neg a3, if_neg a4]
  · simp only [own_dual, if_pos]
  · simp only [own_dual, if_neg b1.symm, if_pos]
  · simp only [own_dual, if_neg b2.symm, if_neg c1.symm, if_pos]
  · simp only [own_dual, if_neg b3.symm, if_neg c2.symm, if_neg d1.symm, if_pos]
theorem own_L1 {aN aF aG aU aR : Addr} (f : own_far aN aF aG aU aR) (p : Int32) : own_dual aN aF aG aU aR (own_pick aN aF aG aU aR p) = own_pick aN aF aG aU aR (own_dualI p) := by
  obtain ⟨d1, d2, d3, d4, d5⟩ := own_d0 f
  obtain ⟨e1, e2, e3, e4, e5⟩ := own_p0 aN aF aG aU aR
  rcases own_pick_cases aN aF aG aU aR p with ⟨-, h, k, -⟩ | ⟨-, h, k, -⟩ | ⟨-, h, k, -⟩ | ⟨-, h, k, -⟩ | ⟨-, h, k, -⟩ <;> rw [h, k] <;> simp only [d1, d2, d3, d4, d5, e1, e2, e3, e4, e5]
theorem own_L2 {aN aF aG aU aR : Addr} (f : own_far aN aF aG aU aR) (p : Int32) : own_dual aN aF aG aU aR (own_dual aN aF aG aU aR (own_pick aN aF aG aU aR p)) = own_pick aN aF aG aU aR p := by
  obtain ⟨d1, d2, d3, d4, d5⟩ := own_d0 f
  rcases own_pick_cases aN aF aG aU aR p with ⟨-, h, k, -⟩ | ⟨-, h, k, -⟩ | ⟨-, h, k, -⟩ | ⟨-, h, k, -⟩ | ⟨-, h, k, -⟩ <;> rw [h] <;> simp only [d1, d2, d3, d4, d5]
theorem own_L3 (p : Int32) : own_ar (own_dualI p) = own_ar p := by
  rcases own_pick_cases 0 0 0 0 0 p with ⟨-, -, h, k⟩ | ⟨-, -, h, k⟩ | ⟨-, -, h, k⟩ | ⟨-, -, h, k⟩ | ⟨-, -, h, k⟩ <;> rw [h, k] <;> rfl
theorem own_all {aN aF aG aU aR : Addr} {Pr : Addr → Int32 → Prop} (h0 : Pr aN 1) (h1 : Pr aF 1) (h2 : Pr aG 1) (h3 : Pr aU 2) (h4 : Pr aR 2) (p : Int32) : Pr (own_pick aN aF aG aU aR p) (own_ar p) := by
  rcases own_pick_cases aN aF aG aU aR p with ⟨-, h, -, k⟩ | ⟨-, h, -, k⟩ | ⟨-, h, -, k⟩ | ⟨-, h, -, k⟩ | ⟨-, h, -, k⟩ <;> rw [h, k] <;> assumption
theorem pd_oIcLcom_example_fair_witness_fairwitness_model_TemporalFormula_Operator_ : parseMethodDescriptor "(I)Lcom/example/fair_witness/fairwitness/model/TemporalFormula$Operator;" = some ⟨[.int], some (.object "com/example/fair_witness/fairwitness/model/TemporalFormula$Operator")⟩ := by decide +kernel
theorem pd_oIcI : parseMethodDescriptor "(I)I" = some ⟨[.int], some .int⟩ := by decide +kernel
theorem pd_ocLcom_example_fair_witness_fairwitness_model_TemporalFormula_Operator_ : parseMethodDescriptor "()Lcom/example/fair_witness/fairwitness/model/TemporalFormula$Operator;" = some ⟨[], some (.object "com/example/fair_witness/fairwitness/model/TemporalFormula$Operator")⟩ := by decide +kernel
theorem pd_ocI : parseMethodDescriptor "()I" = some ⟨[], some .int⟩ := by decide +kernel
theorem ef_law (m : MethodId) (x0 : Int32) : entryFrame m #[(.int x0)] maxLocals = mkF m 0 #[.val (.int x0), .unset, .unset, .unset, .unset, .unset, .unset, .unset] [] := by first | (simp [entryFrame, mkF, argsToLocals, Value.category, maxLocals]; done) | rfl
def Q_law (Z : State) (p1 : Int32) (aN aF aG aU aR : Addr) (h0 : Heap) (n0 : Nat) (v : Option Value) (h : Heap) (L : List Loc) : Prop := v = some (.int 1) ∧ Fr n0 L
set_option maxRecDepth 65536 in
set_option maxHeartbeats 40000000 in
theorem rm_law (l : Launch) (Z : State) (a0 : Array Value) (hw : ∀ d ∈ tables_1, d.before a0 Z = true) (ws : List Jvm.Cond) (p1 : Int32) (aN aF aG aU aR : Addr) (h0 : Heap) (n0 : Nat) (Z0 : n0 ≤ h0.size) (S_NEXT : Sta Z h0 "com/example/fair_witness/fairwitness/model/TemporalFormula$Operator" "NEXT" "Lcom/example/fair_witness/fairwitness/model/TemporalFormula$Operator;" (.ref aN)) (S_FUTURE : Sta Z h0 "com/example/fair_witness/fairwitness/model/TemporalFormula$Operator" "FUTURE" "Lcom/example/fair_witness/fairwitness/model/TemporalFormula$Operator;" (.ref aF)) (S_GLOBALLY : Sta Z h0 "com/example/fair_witness/fairwitness/model/TemporalFormula$Operator" "GLOBALLY" "Lcom/example/fair_witness/fairwitness/model/TemporalFormula$Operator;" (.ref aG)) (S_UNTIL : Sta Z h0 "com/example/fair_witness/fairwitness/model/TemporalFormula$Operator" "UNTIL" "Lcom/example/fair_witness/fairwitness/model/TemporalFormula$Operator;" (.ref aU)) (S_RELEASE : Sta Z h0 "com/example/fair_witness/fairwitness/model/TemporalFormula$Operator" "RELEASE" "Lcom/example/fair_witness/fairwitness/model/TemporalFormula$Operator;" (.ref aR)) (far : own_far aN aF aG aU aR) (HE : ∀ i, Exa Z h0 (own_pick aN aF aG aU aR i) "com/example/fair_witness/fairwitness/model/TemporalFormula$Operator") (HF : ∀ i, Fld Z h0 (own_pick aN aF aG aU aR i) "com/example/fair_witness/fairwitness/model/TemporalFormula$Operator" "arity" "I" (.int (own_ar i))) :
    MetFree l x (head1 (Jvm.Cond.code x code maxLocals ret :: ws) room_1) (fun a_ U => a_ = #[(.int p1)] ∧ Z.Warmed39 U.vm ∧ U.heap = h0) (fun _ _ _ _ _ => True) (fun _ U o U' => ∃ v L, o = .returned v ∧ Q_law Z p1 aN aF aG aU aR h0 n0 v U'.heap L ∧ FrameEnd U o U' L room_1.cells room_1.slots) := by
  refine MetFree.of_bodySF (plainFor_of_name pn_com_example_fair_witness_fairwitness_model_OperatorDualPinLaw) hisR ?_
  intro p e s m args below meth c s₁ Bd hml0 hP hK
  obtain ⟨rfl, hZ, hh⟩ := hP
  have hx := Bd.exec
  have hby := Bd.bytes
  have hml : c.maxLocals = 8 := hml0
  have hown : s.vm.findClass "com/example/fair_witness/fairwitness/model/OperatorDualPinLaw" = some m.cls := findClass_of_methodNamed Bd.named
  have hnm := (name_of_methodNamed Bd.named Bd.method).1
  have X0 : Stand p l e room_1 s m #[(.int p1)] below meth c s₁ [] 0 0 := Stand.of_body Bd
  have e0 : s₁.heap = h0 := by rw [← hh, Bd.state]; rfl
  have N0 := Fr.nil n0
  have hlk := Bd.notSynchronized
  have hret := Bd.returns
  show OGo p e below (OEnd s (Q_law Z p1 aN aF aG aU aR h0 n0) room_1.cells room_1.slots) (s₁.setTop (entryFrame m #[(.int p1)] maxLocals))
  rw [ef_law]
  show OGo p e below _ (s₁.setTop (mkF m 0 #[.val (.int p1), .unset, .unset, .unset, .unset, .unset, .unset, .unset] []))
  refine OGo.by_ (fun t k => XS.iloadN X0.here hx rfl (hb hby at_0) rfl k) ?_
  show OGo p e below _ (s₁.setTop (mkF m 1 #[.val (.int p1), .unset, .unset, .unset, .unset, .unset, .unset, .unset] [(.int p1)]))
  refine OGo.by_ (fun t k => X0.ldcInt hx hown (mvT hZ (hw _ (List.mem_of_getElem? (i := 0) rfl))) (g := (mkF m 1 #[.val (.int p1), .unset, .unset, .unset, .unset, .unset, .unset, .unset] [(.int p1)])) rfl (hb hby at_1) _ k) ?_
  show OGo p e below _ (s₁.setTop (mkF m 3 #[.val (.int p1), .unset, .unset, .unset, .unset, .unset, .unset, .unset] [(.int (2147483647 : Int32)), (.int p1)]))
  refine OGo.by_ (fun t k => XS.iand X0.here hx rfl (hb hby at_3) rfl k) ?_
  show OGo p e below _ (s₁.setTop (mkF m 4 #[.val (.int p1), .unset, .unset, .unset, .unset, .unset, .unset, .unset] [(.int (p1 &&& (2147483647 : Int32)))]))
  refine OGo.by_ (fun t k => XS.iconst X0.here hx rfl (hb hby at_4) k) ?_
  show OGo p e below _ (s₁.setTop (mkF m 5 #[.val (.int p1), .unset, .unset, .unset, .unset, .unset, .unset, .unset] [(.int (5 : Int32)), (.int (p1 &&& (2147483647 : Int32)))]))
  refine OGo.by_ (fun t k => iremM X0 hx rfl (hb hby at_5) rfl (by decide) k) ?_
  show OGo p e below _ (s₁.setTop (mkF m 6 #[.val (.int p1), .unset, .unset, .unset, .unset, .unset, .unset, .unset] [(.int ((p1 &&& (2147483647 : Int32)) % (5 : Int32)))]))
  refine OGo.by_ (fun t k => XS.istoreN X0.here hx rfl (hb hby at_6) rfl (l' := #[.val (.int p1), .val (.int ((p1 &&& (2147483647 : Int32)) % (5 : Int32))), .unset, .unset, .unset, .unset, .unset, .unset]) rfl k) ?_
  show OGo p e below _ (s₁.setTop (mkF m 7 #[.val (.int p1), .val (.int ((p1 &&& (2147483647 : Int32)) % (5 : Int32))), .unset, .unset, .unset, .unset, .unset, .unset] []))
  refine OGo.by_ (fun t k => XS.iloadN X0.here hx rfl (hb hby at_7) rfl k) ?_
  show OGo p e below _ (s₁.setTop (mkF m 8 #[.val (.int p1), .val (.int ((p1 &&& (2147483647 : Int32)) % (5 : Int32))), .unset, .unset, .unset, .unset, .unset, .unset] [(.int ((p1 &&& (2147483647 : Int32)) % (5 : Int32)))]))
  obtain ⟨i, hi⟩ : ∃ i, i = ((p1 &&& (2147483647 : Int32)) % (5 : Int32)) := ⟨_, rfl⟩
  rw [← hi]
  show OGo p e below _ (s₁.setTop (mkF m 8 #[.val (.int p1), .val (.int i), .unset, .unset, .unset, .unset, .unset, .unset] [(.int i)]))
  obtain ⟨_, _, ⟨T1, L1, k1, n1⟩, -, X1, ⟨Lc1, hQ1, l1, y1, z1⟩, st1⟩ := Jvm.LawKit.callS X0 hx (y := (⟨"com/example/fair_witness/fairwitness/model/OperatorDualPinLaw", "pick", "(I)Lcom/example/fair_witness/fairwitness/model/TemporalFormula$Operator;"⟩ : MethodName)) hown (mvT hZ (hw _ (List.mem_of_getElem? (i := 1) rfl))) (mvT hZ (hw _ (List.mem_of_getElem? (i := 2) rfl))) (mvT hZ (hw _ (List.mem_of_getElem? (i := 3) rfl))) (mvT hZ (hw _ (List.mem_of_getElem? (i := 4) rfl))) (by decide) (backOf (W := 0) (rm_pick l Z a0 hw [] i aN aF aG aU aR h0 n0 Z0 S_NEXT S_FUTURE S_GLOBALLY S_UNTIL S_RELEASE) hZ (hw _ (List.mem_of_getElem? (i := 4) rfl)) (hw _ (List.mem_of_getElem? (i := 3) rfl)) (by decide) (by decide)) (g := (mkF m 8 #[.val (.int p1), .val (.int i), .unset, .unset, .unset, .unset, .unset, .unset] [(.int i)])) rfl (by rw [hml]; rfl) (argsL := [(.int i)]) (rest := []) (lenOf pd_oIcLcom_example_fair_witness_fairwitness_model_TemporalFormula_Operator_ rfl) rfl (by show 2 * 0 + _ ≤ _; exact Nat.le_of_eq rfl) (hb hby at_8) (fun _ _ => ⟨rfl, e0, (by decide : 0 + 0 ≤ _), (by decide : 0 + 0 ≤ _)⟩)
  dsimp only [Pt.U, Pt.locs, Pt.cells, Pt.slots] at X1 l1 y1 z1 st1 hQ1
  subst l1 y1 z1
  obtain ⟨rfl, Nq1, eq1⟩ := hQ1
  have N1 := Fr.app N0 Nq1
  refine OGo.by_ st1 ?_
  show OGo p e below _ (T1.setTop (mkF m 11 #[.val (.int p1), .val (.int i), .unset, .unset, .unset, .unset, .unset, .unset] [(.ref (own_pick aN aF aG aU aR i))]))
  refine OGo.by_ (fun t k => XS.astoreN X1.here hx rfl (hb hby at_11) rfl rfl (l' := #[.val (.int p1), .val (.int i), .val (.ref (own_pick aN aF aG aU aR i)), .unset, .unset, .unset, .unset, .unset]) rfl k) ?_
  show OGo p e below _ (T1.setTop (mkF m 12 #[.val (.int p1), .val (.int i), .val (.ref (own_pick aN aF aG aU aR i)), .unset, .unset, .unset, .unset, .unset] []))
  refine OGo.by_ (fun t k => XS.iloadN X1.here hx rfl (hb hby at_12) rfl k) ?_
  show OGo p e below _ (T1.setTop (mkF m 13 #[.val (.int p1), .val (.int i), .val (.ref (own_pick aN aF aG aU aR i)), .unset, .unset, .unset, .unset, .unset] [(.int i)]))
  obtain ⟨_, _, ⟨T2, L2, k2, n2⟩, -, X2, ⟨Lc2, hQ2, l2, y2, z2⟩, st2⟩ := Jvm.LawKit.callS X1 hx (y := (⟨"com/example/fair_witness/fairwitness/model/OperatorDualPinLaw", "dualIndex", "(I)I"⟩ : MethodName)) hown (mvT hZ (hw _ (List.mem_of_getElem? (i := 8) rfl))) (mvT hZ (hw _ (List.mem_of_getElem? (i := 9) rfl))) (mvT hZ (hw _ (List.mem_of_getElem? (i := 3) rfl))) (mvT hZ (hw _ (List.mem_of_getElem? (i := 10) rfl))) (by decide) (backOf (W := 0) (rm_dix l Z a0 hw [] i h0 n0 Z0) hZ (hw _ (List.mem_of_getElem? (i := 10) rfl)) (hw _ (List.mem_of_getElem? (i := 3) rfl)) (by decide) (by decide)) (g := (mkF m 13 #[.val (.int p1), .val (.int i), .val (.ref (own_pick aN aF aG aU aR i)), .unset, .unset, .unset, .unset, .unset] [(.int i)])) rfl (by rw [hml]; rfl) (argsL := [(.int i)]) (rest := []) (lenOf pd_oIcI rfl) rfl (by show 2 * 0 + _ ≤ _; exact Nat.le_of_eq rfl) (hb hby at_13) (fun _ _ => ⟨rfl, eq1, (by decide : 0 + 0 ≤ _), (by decide : 0 + 0 ≤ _)⟩)
  dsimp only [Pt.U, Pt.locs, Pt.cells, Pt.slots] at X2 l2 y2 z2 st2 hQ2
  subst l2 y2 z2
  obtain ⟨rfl, Nq2, eq2⟩ := hQ2
  have N2 := Fr.app N1 Nq2
  refine OGo.by_ st2 ?_
  show OGo p e below _ (T2.setTop (mkF m 16 #[.val (.int p1), .val (.int i), .val (.ref (own_pick aN aF aG aU aR i)), .unset, .unset, .unset, .unset, .unset] [(.int (own_dualI i))]))
  obtain ⟨_, _, ⟨T3, L3, k3, n3⟩, -, X3, ⟨Lc3, hQ3, l3, y3, z3⟩, st3⟩ := Jvm.LawKit.callS X2 hx (y := (⟨"com/example/fair_witness/fairwitness/model/OperatorDualPinLaw", "pick", "(I)Lcom/example/fair_witness/fairwitness/model/TemporalFormula$Operator;"⟩ : MethodName)) hown (mvT hZ (hw _ (List.mem_of_getElem? (i := 1) rfl))) (mvT hZ (hw _ (List.mem_of_getElem? (i := 2) rfl))) (mvT hZ (hw _ (List.mem_of_getElem? (i := 3) rfl))) (mvT hZ (hw _ (List.mem_of_getElem? (i := 4) rfl))) (by decide) (backOf (W := 0) (rm_pick l Z a0 hw [] (own_dualI i) aN aF aG aU aR h0 n0 Z0 S_NEXT S_FUTURE S_GLOBALLY S_UNTIL S_RELEASE) hZ (hw _ (List.mem_of_getElem? (i := 4) rfl)) (hw _ (List.mem_of_getElem? (i := 3) rfl)) (by decide) (by decide)) (g := (mkF m 16 #[.val (.int p1), .val (.int i), .val (.ref (own_pick aN aF aG aU aR i)), .unset, .unset, .unset, .unset, .unset] [(.int (own_dualI i))])) rfl (by rw [hml]; rfl) (argsL := [(.int (own_dualI i))]) (rest := []) (lenOf pd_oIcLcom_example_fair_witness_fairwitness_model_TemporalFormula_Operator_ rfl) rfl (by show 2 * 0 + _ ≤ _; exact Nat.le_of_eq rfl) (hb hby at_16) (fun _ _ => ⟨rfl, eq2, (by decide : 0 + 0 ≤ _), (by decide : 0 + 0 ≤ _)⟩)
  dsimp only [Pt.U, Pt.locs, Pt.cells, Pt.slots] at X3 l3 y3 z3 st3 hQ3
  subst l3 y3 z3
  obtain ⟨rfl, Nq3, eq3⟩ := hQ3
  have N3 := Fr.app N2 Nq3
  refine OGo.by_ st3 ?_
  show OGo p e below _ (T3.setTop (mkF m 19 #[.val (.int p1), .val (.int i), .val (.ref (own_pick aN aF aG aU aR i)), .unset, .unset, .unset, .unset, .unset] [(.ref (own_pick aN aF aG aU aR (own_dualI i)))]))
  refine OGo.by_ (fun t k => XS.astoreN X3.here hx rfl (hb hby at_19) rfl rfl (l' := #[.val (.int p1), .val (.int i), .val (.ref (own_pick aN aF aG aU aR i)), .val (.ref (own_pick aN aF aG aU aR (own_dualI i))), .unset, .unset, .unset, .unset]) rfl k) ?_
  show OGo p e below _ (T3.setTop (mkF m 20 #[.val (.int p1), .val (.int i), .val (.ref (own_pick aN aF aG aU aR i)), .val (.ref (own_pick aN aF aG aU aR (own_dualI i))), .unset, .unset, .unset, .unset] []))
  refine OGo.by_ (fun t k => XS.aloadN X3.here hx rfl (hb hby at_20) rfl rfl k) ?_
  show OGo p e below _ (T3.setTop (mkF m 21 #[.val (.int p1), .val (.int i), .val (.ref (own_pick aN aF aG aU aR i)), .val (.ref (own_pick aN aF aG aU aR (own_dualI i))), .unset, .unset, .unset, .unset] [(.ref (own_pick aN aF aG aU aR i))]))
  have Ei := HE i
  have Fi := HF i
  have Ej : Exa Z h0 (own_dual aN aF aG aU aR (own_pick aN aF aG aU aR i)) "com/example/fair_witness/fairwitness/model/TemporalFormula$Operator" := own_L1 far i ▸ HE (own_dualI i)
  have Fj : Fld Z h0 (own_dual aN aF aG aU aR (own_pick aN aF aG aU aR i)) "com/example/fair_witness/fairwitness/model/TemporalFormula$Operator" "arity" "I" (.int (own_ar i)) := own_L3 i ▸ own_L1 far i ▸ HF (own_dualI i)
  obtain ⟨cq5, kq5, qa5, qb5, qc5⟩ := isOf hZ eq3 Ei
  obtain ⟨_, _, ⟨T4, L4, k4, n4⟩, -, X4, ⟨Lc4, hQ4, l4, y4, z4⟩, st4⟩ := X3.virtualBack hx (y := (⟨"com/example/fair_witness/fairwitness/model/TemporalFormula$Operator", "dual", "()Lcom/example/fair_witness/fairwitness/model/TemporalFormula$Operator;"⟩ : MethodName)) (z := (⟨"com/example/fair_witness/fairwitness/model/TemporalFormula$Operator", "dual", "()Lcom/example/fair_witness/fairwitness/model/TemporalFormula$Operator;"⟩ : MethodName)) hown (mvT hZ (hw _ (List.mem_of_getElem? (i := 11) rfl))) (mvT hZ (hw _ (List.mem_of_getElem? (i := 12) rfl))) (notFace_of_selects (args := #[]) (mvT hZ (hw _ (List.mem_of_getElem? (i := 14) rfl)))) (mvT hZ (hw _ (List.mem_of_getElem? (i := 14) rfl))) (mvT hZ (hw _ (List.mem_of_getElem? (i := 13) rfl))) (by decide) (backOf (W := 0) (rm_dual l Z a0 hw [] (own_pick aN aF aG aU aR i) aN aF aG aU aR h0 n0 Z0 S_NEXT S_FUTURE S_GLOBALLY S_UNTIL S_RELEASE) hZ (hw _ (List.mem_of_getElem? (i := 15) rfl)) (hw _ (List.mem_of_getElem? (i := 6) rfl)) (by decide) (by decide)) qa5 qc5 (g := (mkF m 21 #[.val (.int p1), .val (.int i), .val (.ref (own_pick aN aF aG aU aR i)), .val (.ref (own_pick aN aF aG aU aR (own_dualI i))), .unset, .unset, .unset, .unset] [(.ref (own_pick aN aF aG aU aR i))])) rfl (by rw [hml]; rfl) (Steps.refl _) (argsL := []) (rest := []) (lenOf pd_ocLcom_example_fair_witness_fairwitness_model_TemporalFormula_Operator_ rfl) rfl (by show 2 * 0 + _ ≤ _; exact Nat.le_of_eq rfl) (hb hby at_21) (fun _ _ => ⟨rfl, eq3, (by decide : 0 + 0 ≤ _), (by decide : 0 + 0 ≤ _)⟩)
  dsimp only [Pt.U, Pt.locs, Pt.cells, Pt.slots] at X4 l4 y4 z4 st4 hQ4
  subst l4 y4 z4
  obtain ⟨rfl, Nq4, eq4⟩ := hQ4
  have N4 := Fr.app N3 Nq4
  refine OGo.by_ (fun t k => st4.trans k) ?_
  show OGo p e below _ (T4.setTop (mkF m 24 #[.val (.int p1), .val (.int i), .val (.ref (own_pick aN aF aG aU aR i)), .val (.ref (own_pick aN aF aG aU aR (own_dualI i))), .unset, .unset, .unset, .unset] [(.ref (own_dual aN aF aG aU aR (own_pick aN aF aG aU aR i)))]))
  refine OGo.by_ (fun t k => XS.astore X4.here hx rfl (hb hby at_24) rfl rfl (l' := #[.val (.int p1), .val (.int i), .val (.ref (own_pick aN aF aG aU aR i)), .val (.ref (own_pick aN aF aG aU aR (own_dualI i))), .val (.ref (own_dual aN aF aG aU aR (own_pick aN aF aG aU aR i))), .unset, .unset, .unset]) rfl k) ?_
  show OGo p e below _ (T4.setTop (mkF m 26 #[.val (.int p1), .val (.int i), .val (.ref (own_pick aN aF aG aU aR i)), .val (.ref (own_pick aN aF aG aU aR (own_dualI i))), .val (.ref (own_dual aN aF aG aU aR (own_pick aN aF aG aU aR i))), .unset, .unset, .unset] []))
  refine OGo.by_ (fun t k => XS.aload X4.here hx rfl (hb hby at_26) rfl rfl k) ?_
  show OGo p e below _ (T4.setTop (mkF m 28 #[.val (.int p1), .val (.int i), .val (.ref (own_pick aN aF aG aU aR i)), .val (.ref (own_pick aN aF aG aU aR (own_dualI i))), .val (.ref (own_dual aN aF aG aU aR (own_pick aN aF aG aU aR i))), .unset, .unset, .unset] [(.ref (own_dual aN aF aG aU aR (own_pick aN aF aG aU aR i)))]))
  refine OGo.by_ (fun t k => XS.aloadN X4.here hx rfl (hb hby at_28) rfl rfl k) ?_
  show OGo p e below _ (T4.setTop (mkF m 29 #[.val (.int p1), .val (.int i), .val (.ref (own_pick aN aF aG aU aR i)), .val (.ref (own_pick aN aF aG aU aR (own_dualI i))), .val (.ref (own_dual aN aF aG aU aR (own_pick aN aF aG aU aR i))), .unset, .unset, .unset] [(.ref (own_pick aN aF aG aU aR (own_dualI i))), (.ref (own_dual aN aF aG aU aR (own_pick aN aF aG aU aR i)))]))
  refine OGo.by_ (fun t k => Jvm.RoadKit.acmp (g := (mkF m 29 #[.val (.int p1), .val (.int i), .val (.ref (own_pick aN aF aG aU aR i)), .val (.ref (own_pick aN aF aG aU aR (own_dualI i))), .val (.ref (own_dual aN aF aG aU aR (own_pick aN aF aG aU aR i))), .unset, .unset, .unset] [(.ref (own_pick aN aF aG aU aR (own_dualI i))), (.ref (own_dual aN aF aG aU aR (own_pick aN aF aG aU aR i)))])) X4 hx rfl rfl rfl (pc0 := 29) (pc' := 32) (same := true) rfl (hb hby at_29) rfl (decide_eq_true (congrArg Value.ref (own_L1 far i))) (by decide) (by decide) k) ?_
  show OGo p e below _ (T4.setTop (mkF m 32 #[.val (.int p1), .val (.int i), .val (.ref (own_pick aN aF aG aU aR i)), .val (.ref (own_pick aN aF aG aU aR (own_dualI i))), .val (.ref (own_dual aN aF aG aU aR (own_pick aN aF aG aU aR i))), .unset, .unset, .unset] []))
  refine OGo.by_ (fun t k => XS.iconst X4.here hx rfl (hb hby at_32) k) ?_
  show OGo p e below _ (T4.setTop (mkF m 33 #[.val (.int p1), .val (.int i), .val (.ref (own_pick aN aF aG aU aR i)), .val (.ref (own_pick aN aF aG aU aR (own_dualI i))), .val (.ref (own_dual aN aF aG aU aR (own_pick aN aF aG aU aR i))), .unset, .unset, .unset] [(.int (1 : Int32))]))
  refine OGo.by_ (fun t k => XS.goto X4.here hx rfl (pc0 := 33) (pc' := 37) rfl (hb hby at_33) (by decide) (by decide) k) ?_
  show OGo p e below _ (T4.setTop (mkF m 37 #[.val (.int p1), .val (.int i), .val (.ref (own_pick aN aF aG aU aR i)), .val (.ref (own_pick aN aF aG aU aR (own_dualI i))), .val (.ref (own_dual aN aF aG aU aR (own_pick aN aF aG aU aR i))), .unset, .unset, .unset] [(.int (1 : Int32))]))
  refine OGo.by_ (fun t k => XS.istore X4.here hx rfl (hb hby at_37) rfl (l' := #[.val (.int p1), .val (.int i), .val (.ref (own_pick aN aF aG aU aR i)), .val (.ref (own_pick aN aF aG aU aR (own_dualI i))), .val (.ref (own_dual aN aF aG aU aR (own_pick aN aF aG aU aR i))), .val (.int (1 : Int32)), .unset, .unset]) rfl k) ?_
  show OGo p e below _ (T4.setTop (mkF m 39 #[.val (.int p1), .val (.int i), .val (.ref (own_pick aN aF aG aU aR i)), .val (.ref (own_pick aN aF aG aU aR (own_dualI i))), .val (.ref (own_dual aN aF aG aU aR (own_pick aN aF aG aU aR i))), .val (.int (1 : Int32)), .unset, .unset] []))
  refine OGo.by_ (fun t k => XS.aload X4.here hx rfl (hb hby at_39) rfl rfl k) ?_
  show OGo p e below _ (T4.setTop (mkF m 41 #[.val (.int p1), .val (.int i), .val (.ref (own_pick aN aF aG aU aR i)), .val (.ref (own_pick aN aF aG aU aR (own_dualI i))), .val (.ref (own_dual aN aF aG aU aR (own_pick aN aF aG aU aR i))), .val (.int (1 : Int32)), .unset, .unset] [(.ref (own_dual aN aF aG aU aR (own_pick aN aF aG aU aR i)))]))
  obtain ⟨cq7, kq7, qa7, qb7, qc7⟩ := isOf hZ eq4 Ej
  obtain ⟨_, _, ⟨T6, L6, k6, n6⟩, -, X6, ⟨Lc6, hQ6, l6, y6, z6⟩, st6⟩ := X4.virtualBack hx (y := (⟨"com/example/fair_witness/fairwitness/model/TemporalFormula$Operator", "dual", "()Lcom/example/fair_witness/fairwitness/model/TemporalFormula$Operator;"⟩ : MethodName)) (z := (⟨"com/example/fair_witness/fairwitness/model/TemporalFormula$Operator", "dual", "()Lcom/example/fair_witness/fairwitness/model/TemporalFormula$Operator;"⟩ : MethodName)) hown (mvT hZ (hw _ (List.mem_of_getElem? (i := 11) rfl))) (mvT hZ (hw _ (List.mem_of_getElem? (i := 12) rfl))) (notFace_of_selects (args := #[]) (mvT hZ (hw _ (List.mem_of_getElem? (i := 14) rfl)))) (mvT hZ (hw _ (List.mem_of_getElem? (i := 14) rfl))) (mvT hZ (hw _ (List.mem_of_getElem? (i := 13) rfl))) (by decide) (backOf (W := 0) (rm_dual l Z a0 hw [] (own_dual aN aF aG aU aR (own_pick aN aF aG aU aR i)) aN aF aG aU aR h0 n0 Z0 S_NEXT S_FUTURE S_GLOBALLY S_UNTIL S_RELEASE) hZ (hw _ (List.mem_of_getElem? (i := 15) rfl)) (hw _ (List.mem_of_getElem? (i := 6) rfl)) (by decide) (by decide)) qa7 qc7 (g := (mkF m 41 #[.val (.int p1), .val (.int i), .val (.ref (own_pick aN aF aG aU aR i)), .val (.ref (own_pick aN aF aG aU aR (own_dualI i))), .val (.ref (own_dual aN aF aG aU aR (own_pick aN aF aG aU aR i))), .val (.int (1 : Int32)), .unset, .unset] [(.ref (own_dual aN aF aG aU aR (own_pick aN aF aG aU aR i)))])) rfl (by rw [hml]; rfl) (Steps.refl _) (argsL := []) (rest := []) (lenOf pd_ocLcom_example_fair_witness_fairwitness_model_TemporalFormula_Operator_ rfl) rfl (by show 2 * 0 + _ ≤ _; exact Nat.le_of_eq rfl) (hb hby at_41) (fun _ _ => ⟨rfl, eq4, (by decide : 0 + 0 ≤ _), (by decide : 0 + 0 ≤ _)⟩)
  dsimp only [Pt.U, Pt.locs, Pt.cells, Pt.slots] at X6 l6 y6 z6 st6 hQ6
  subst l6 y6 z6
  obtain ⟨rfl, Nq6, eq6⟩ := hQ6
  have N6 := Fr.app N4 Nq6
  refine OGo.by_ (fun t k => st6.trans k) ?_
  show OGo p e below _ (T6.setTop (mkF m 44 #[.val (.int p1), .val (.int i), .val (.ref (own_pick aN aF aG aU aR i)), .val (.ref (own_pick aN aF aG aU aR (own_dualI i))), .val (.ref (own_dual aN aF aG aU aR (own_pick aN aF aG aU aR i))), .val (.int (1 : Int32)), .unset, .unset] [(.ref (own_dual aN aF aG aU aR (own_dual aN aF aG aU aR (own_pick aN aF aG aU aR i))))]))
  refine OGo.by_ (fun t k => XS.aloadN X6.here hx rfl (hb hby at_44) rfl rfl k) ?_
  show OGo p e below _ (T6.setTop (mkF m 45 #[.val (.int p1), .val (.int i), .val (.ref (own_pick aN aF aG aU aR i)), .val (.ref (own_pick aN aF aG aU aR (own_dualI i))), .val (.ref (own_dual aN aF aG aU aR (own_pick aN aF aG aU aR i))), .val (.int (1 : Int32)), .unset, .unset] [(.ref (own_pick aN aF aG aU aR i)), (.ref (own_dual aN aF aG aU aR (own_dual aN aF aG aU aR (own_pick aN aF aG aU aR i))))]))
  refine OGo.by_ (fun t k => Jvm.RoadKit.acmp (g := (mkF m 45 #[.val (.int p1), .val (.int i), .val (.ref (own_pick aN aF aG aU aR i)), .val (.ref (own_pick aN aF aG aU aR (own_dualI i))), .val (.ref (own_dual aN aF aG aU aR (own_pick aN aF aG aU aR i))), .val (.int (1 : Int32)), .unset, .unset] [(.ref (own_pick aN aF aG aU aR i)), (.ref (own_dual aN aF aG aU aR (own_dual aN aF aG aU aR (own_pick aN aF aG aU aR i))))])) X6 hx rfl rfl rfl (pc0 := 45) (pc' := 48) (same := true) rfl (hb hby at_45) rfl (decide_eq_true (congrArg Value.ref (own_L2 far i))) (by decide) (by decide) k) ?_
  show OGo p e below _ (T6.setTop (mkF m 48 #[.val (.int p1), .val (.int i), .val (.ref (own_pick aN aF aG aU aR i)), .val (.ref (own_pick aN aF aG aU aR (own_dualI i))), .val (.ref (own_dual aN aF aG aU aR (own_pick aN aF aG aU aR i))), .val (.int (1 : Int32)), .unset, .unset] []))
  refine OGo.by_ (fun t k => XS.iconst X6.here hx rfl (hb hby at_48) k) ?_
  show OGo p e below _ (T6.setTop (mkF m 49 #[.val (.int p1), .val (.int i), .val (.ref (own_pick aN aF aG aU aR i)), .val (.ref (own_pick aN aF aG aU aR (own_dualI i))), .val (.ref (own_dual aN aF aG aU aR (own_pick aN aF aG aU aR i))), .val (.int (1 : Int32)), .unset, .unset] [(.int (1 : Int32))]))
  refine OGo.by_ (fun t k => XS.goto X6.here hx rfl (pc0 := 49) (pc' := 53) rfl (hb hby at_49) (by decide) (by decide) k) ?_
  show OGo p e below _ (T6.setTop (mkF m 53 #[.val (.int p1), .val (.int i), .val (.ref (own_pick aN aF aG aU aR i)), .val (.ref (own_pick aN aF aG aU aR (own_dualI i))), .val (.ref (own_dual aN aF aG aU aR (own_pick aN aF aG aU aR i))), .val (.int (1 : Int32)), .unset, .unset] [(.int (1 : Int32))]))
  refine OGo.by_ (fun t k => XS.istore X6.here hx rfl (hb hby at_53) rfl (l' := #[.val (.int p1), .val (.int i), .val (.ref (own_pick aN aF aG aU aR i)), .val (.ref (own_pick aN aF aG aU aR (own_dualI i))), .val (.ref (own_dual aN aF aG aU aR (own_pick aN aF aG aU aR i))), .val (.int (1 : Int32)), .val (.int (1 : Int32)), .unset]) rfl k) ?_
  show OGo p e below _ (T6.setTop (mkF m 55 #[.val (.int p1), .val (.int i), .val (.ref (own_pick aN aF aG aU aR i)), .val (.ref (own_pick aN aF aG aU aR (own_dualI i))), .val (.ref (own_dual aN aF aG aU aR (own_pick aN aF aG aU aR i))), .val (.int (1 : Int32)), .val (.int (1 : Int32)), .unset] []))
  refine OGo.by_ (fun t k => XS.aload X6.here hx rfl (hb hby at_55) rfl rfl k) ?_
  show OGo p e below _ (T6.setTop (mkF m 57 #[.val (.int p1), .val (.int i), .val (.ref (own_pick aN aF aG aU aR i)), .val (.ref (own_pick aN aF aG aU aR (own_dualI i))), .val (.ref (own_dual aN aF aG aU aR (own_pick aN aF aG aU aR i))), .val (.int (1 : Int32)), .val (.int (1 : Int32)), .unset] [(.ref (own_dual aN aF aG aU aR (own_pick aN aF aG aU aR i)))]))
  obtain ⟨cq9, kq9, qa9, qb9, qc9⟩ := isOf hZ eq6 Ej
  obtain ⟨_, _, ⟨T8, L8, k8, n8⟩, -, X8, ⟨Lc8, hQ8, l8, y8, z8⟩, st8⟩ := X6.virtualBack hx (y := (⟨"com/example/fair_witness/fairwitness/model/TemporalFormula$Operator", "arity", "()I"⟩ : MethodName)) (z := (⟨"com/example/fair_witness/fairwitness/model/TemporalFormula$Operator", "arity", "()I"⟩ : MethodName)) hown (mvT hZ (hw _ (List.mem_of_getElem? (i := 25) rfl))) (mvT hZ (hw _ (List.mem_of_getElem? (i := 26) rfl))) (notFace_of_selects (args := #[]) (mvT hZ (hw _ (List.mem_of_getElem? (i := 28) rfl)))) (mvT hZ (hw _ (List.mem_of_getElem? (i := 28) rfl))) (mvT hZ (hw _ (List.mem_of_getElem? (i := 27) rfl))) (by decide) (backOf (W := 0) (rm_ar l Z a0 hw [] (own_dual aN aF aG aU aR (own_pick aN aF aG aU aR i)) (own_ar i) h0 n0 Z0 Fj) hZ (hw _ (List.mem_of_getElem? (i := 29) rfl)) (hw _ (List.mem_of_getElem? (i := 6) rfl)) (by decide) (by decide)) qa9 qc9 (g := (mkF m 57 #[.val (.int p1), .val (.int i), .val (.ref (own_pick aN aF aG aU aR i)), .val (.ref (own_pick aN aF aG aU aR (own_dualI i))), .val (.ref (own_dual aN aF aG aU aR (own_pick aN aF aG aU aR i))), .val (.int (1 : Int32)), .val (.int (1 : Int32)), .unset] [(.ref (own_dual aN aF aG aU aR (own_pick aN aF aG aU aR i)))])) rfl (by rw [hml]; rfl) (Steps.refl _) (argsL := []) (rest := []) (lenOf pd_ocI rfl) rfl (by show 2 * 0 + _ ≤ _; exact Nat.le_of_eq rfl) (hb hby at_57) (fun _ _ => ⟨rfl, eq6, (by decide : 0 + 0 ≤ _), (by decide : 0 + 0 ≤ _)⟩)
  dsimp only [Pt.U, Pt.locs, Pt.cells, Pt.slots] at X8 l8 y8 z8 st8 hQ8
  subst l8 y8 z8
  obtain ⟨rfl, Nq8, eq8⟩ := hQ8
  have N8 := Fr.app N6 Nq8
  refine OGo.by_ (fun t k => st8.trans k) ?_
  show OGo p e below _ (T8.setTop (mkF m 60 #[.val (.int p1), .val (.int i), .val (.ref (own_pick aN aF aG aU aR i)), .val (.ref (own_pick aN aF aG aU aR (own_dualI i))), .val (.ref (own_dual aN aF aG aU aR (own_pick aN aF aG aU aR i))), .val (.int (1 : Int32)), .val (.int (1 : Int32)), .unset] [(.int (own_ar i))]))
  refine OGo.by_ (fun t k => XS.aloadN X8.here hx rfl (hb hby at_60) rfl rfl k) ?_
  show OGo p e below _ (T8.setTop (mkF m 61 #[.val (.int p1), .val (.int i), .val (.ref (own_pick aN aF aG aU aR i)), .val (.ref (own_pick aN aF aG aU aR (own_dualI i))), .val (.ref (own_dual aN aF aG aU aR (own_pick aN aF aG aU aR i))), .val (.int (1 : Int32)), .val (.int (1 : Int32)), .unset] [(.ref (own_pick aN aF aG aU aR i)), (.int (own_ar i))]))
  obtain ⟨cq11, kq11, qa11, qb11, qc11⟩ := isOf hZ eq8 Ei
  obtain ⟨_, _, ⟨T10, L10, k10, n10⟩, -, X10, ⟨Lc10, hQ10, l10, y10, z10⟩, st10⟩ := X8.virtualBack hx (y := (⟨"com/example/fair_witness/fairwitness/model/TemporalFormula$Operator", "arity", "()I"⟩ : MethodName)) (z := (⟨"com/example/fair_witness/fairwitness/model/TemporalFormula$Operator", "arity", "()I"⟩ : MethodName)) hown (mvT hZ (hw _ (List.mem_of_getElem? (i := 25) rfl))) (mvT hZ (hw _ (List.mem_of_getElem? (i := 26) rfl))) (notFace_of_selects (args := #[]) (mvT hZ (hw _ (List.mem_of_getElem? (i := 28) rfl)))) (mvT hZ (hw _ (List.mem_of_getElem? (i := 28) rfl))) (mvT hZ (hw _ (List.mem_of_getElem? (i := 27) rfl))) (by decide) (backOf (W := 1) (rm_ar l Z a0 hw [] (own_pick aN aF aG aU aR i) (own_ar i) h0 n0 Z0 Fi) hZ (hw _ (List.mem_of_getElem? (i := 29) rfl)) (hw _ (List.mem_of_getElem? (i := 6) rfl)) (by decide) (by decide)) qa11 qc11 (g := (mkF m 61 #[.val (.int p1), .val (.int i), .val (.ref (own_pick aN aF aG aU aR i)), .val (.ref (own_pick aN aF aG aU aR (own_dualI i))), .val (.ref (own_dual aN aF aG aU aR (own_pick aN aF aG aU aR i))), .val (.int (1 : Int32)), .val (.int (1 : Int32)), .unset] [(.ref (own_pick aN aF aG aU aR i)), (.int (own_ar i))])) rfl (by rw [hml]; rfl) (Steps.refl _) (argsL := []) (rest := [(.int (own_ar i))]) (lenOf pd_ocI rfl) rfl (by show 2 * 0 + _ ≤ _; exact Nat.le_of_eq rfl) (hb hby at_61) (fun _ _ => ⟨rfl, eq8, (by decide : 0 + 0 ≤ _), (by decide : 0 + 0 ≤ _)⟩)
  dsimp only [Pt.U, Pt.locs, Pt.cells, Pt.slots] at X10 l10 y10 z10 st10 hQ10
  subst l10 y10 z10
  obtain ⟨rfl, Nq10, eq10⟩ := hQ10
  have N10 := Fr.app N8 Nq10
  refine OGo.by_ (fun t k => st10.trans k) ?_
  show OGo p e below _ (T10.setTop (mkF m 64 #[.val (.int p1), .val (.int i), .val (.ref (own_pick aN aF aG aU aR i)), .val (.ref (own_pick aN aF aG aU aR (own_dualI i))), .val (.ref (own_dual aN aF aG aU aR (own_pick aN aF aG aU aR i))), .val (.int (1 : Int32)), .val (.int (1 : Int32)), .unset] [(.int (own_ar i)), (.int (own_ar i))]))
  refine OGo.by_ (fun t k => XS.icmpNo X10.here hx rfl (hb hby at_64) rfl (teq rfl).2 k) ?_
  show OGo p e below _ (T10.setTop (mkF m 67 #[.val (.int p1), .val (.int i), .val (.ref (own_pick aN aF aG aU aR i)), .val (.ref (own_pick aN aF aG aU aR (own_dualI i))), .val (.ref (own_dual aN aF aG aU aR (own_pick aN aF aG aU aR i))), .val (.int (1 : Int32)), .val (.int (1 : Int32)), .unset] []))
  refine OGo.by_ (fun t k => XS.iconst X10.here hx rfl (hb hby at_67) k) ?_
  show OGo p e below _ (T10.setTop (mkF m 68 #[.val (.int p1), .val (.int i), .val (.ref (own_pick aN aF aG aU aR i)), .val (.ref (own_pick aN aF aG aU aR (own_dualI i))), .val (.ref (own_dual aN aF aG aU aR (own_pick aN aF aG aU aR i))), .val (.int (1 : Int32)), .val (.int (1 : Int32)), .unset] [(.int (1 : Int32))]))
  refine OGo.by_ (fun t k => XS.goto X10.here hx rfl (pc0 := 68) (pc' := 72) rfl (hb hby at_68) (by decide) (by decide) k) ?_
  show OGo p e below _ (T10.setTop (mkF m 72 #[.val (.int p1), .val (.int i), .val (.ref (own_pick aN aF aG aU aR i)), .val (.ref (own_pick aN aF aG aU aR (own_dualI i))), .val (.ref (own_dual aN aF aG aU aR (own_pick aN aF aG aU aR i))), .val (.int (1 : Int32)), .val (.int (1 : Int32)), .unset] [(.int (1 : Int32))]))
  refine OGo.by_ (fun t k => XS.istore X10.here hx rfl (hb hby at_72) rfl (l' := #[.val (.int p1), .val (.int i), .val (.ref (own_pick aN aF aG aU aR i)), .val (.ref (own_pick aN aF aG aU aR (own_dualI i))), .val (.ref (own_dual aN aF aG aU aR (own_pick aN aF aG aU aR i))), .val (.int (1 : Int32)), .val (.int (1 : Int32)), .val (.int (1 : Int32))]) rfl k) ?_
  show OGo p e below _ (T10.setTop (mkF m 74 #[.val (.int p1), .val (.int i), .val (.ref (own_pick aN aF aG aU aR i)), .val (.ref (own_pick aN aF aG aU aR (own_dualI i))), .val (.ref (own_dual aN aF aG aU aR (own_pick aN aF aG aU aR i))), .val (.int (1 : Int32)), .val (.int (1 : Int32)), .val (.int (1 : Int32))] []))
  refine OGo.by_ (fun t k => XS.iload X10.here hx rfl (hb hby at_74) rfl k) ?_
  show OGo p e below _ (T10.setTop (mkF m 76 #[.val (.int p1), .val (.int i), .val (.ref (own_pick aN aF aG aU aR i)), .val (.ref (own_pick aN aF aG aU aR (own_dualI i))), .val (.ref (own_dual aN aF aG aU aR (own_pick aN aF aG aU aR i))), .val (.int (1 : Int32)), .val (.int (1 : Int32)), .val (.int (1 : Int32))] [(.int (1 : Int32))]))
  refine OGo.by_ (fun t k => XS.ifNo X10.here hx rfl (hb hby at_76) rfl ((if0 _ _).trans (feq (by decide)).1) k) ?_
  show OGo p e below _ (T10.setTop (mkF m 79 #[.val (.int p1), .val (.int i), .val (.ref (own_pick aN aF aG aU aR i)), .val (.ref (own_pick aN aF aG aU aR (own_dualI i))), .val (.ref (own_dual aN aF aG aU aR (own_pick aN aF aG aU aR i))), .val (.int (1 : Int32)), .val (.int (1 : Int32)), .val (.int (1 : Int32))] []))
  refine OGo.by_ (fun t k => XS.iload X10.here hx rfl (hb hby at_79) rfl k) ?_
  show OGo p e below _ (T10.setTop (mkF m 81 #[.val (.int p1), .val (.int i), .val (.ref (own_pick aN aF aG aU aR i)), .val (.ref (own_pick aN aF aG aU aR (own_dualI i))), .val (.ref (own_dual aN aF aG aU aR (own_pick aN aF aG aU aR i))), .val (.int (1 : Int32)), .val (.int (1 : Int32)), .val (.int (1 : Int32))] [(.int (1 : Int32))]))
  refine OGo.by_ (fun t k => XS.ifNo X10.here hx rfl (hb hby at_81) rfl ((if0 _ _).trans (feq (by decide)).1) k) ?_
  show OGo p e below _ (T10.setTop (mkF m 84 #[.val (.int p1), .val (.int i), .val (.ref (own_pick aN aF aG aU aR i)), .val (.ref (own_pick aN aF aG aU aR (own_dualI i))), .val (.ref (own_dual aN aF aG aU aR (own_pick aN aF aG aU aR i))), .val (.int (1 : Int32)), .val (.int (1 : Int32)), .val (.int (1 : Int32))] []))
  refine OGo.by_ (fun t k => XS.iload X10.here hx rfl (hb hby at_84) rfl k) ?_
  show OGo p e below _ (T10.setTop (mkF m 86 #[.val (.int p1), .val (.int i), .val (.ref (own_pick aN aF aG aU aR i)), .val (.ref (own_pick aN aF aG aU aR (own_dualI i))), .val (.ref (own_dual aN aF aG aU aR (own_pick aN aF aG aU aR i))), .val (.int (1 : Int32)), .val (.int (1 : Int32)), .val (.int (1 : Int32))] [(.int (1 : Int32))]))
  refine OGo.by_ (fun t k => XS.ifNo X10.here hx rfl (hb hby at_86) rfl ((if0 _ _).trans (feq (by decide)).1) k) ?_
  show OGo p e below _ (T10.setTop (mkF m 89 #[.val (.int p1), .val (.int i), .val (.ref (own_pick aN aF aG aU aR i)), .val (.ref (own_pick aN aF aG aU aR (own_dualI i))), .val (.ref (own_dual aN aF aG aU aR (own_pick aN aF aG aU aR i))), .val (.int (1 : Int32)), .val (.int (1 : Int32)), .val (.int (1 : Int32))] []))
  refine OGo.by_ (fun t k => XS.iconst X10.here hx rfl (hb hby at_89) k) ?_
  show OGo p e below _ (T10.setTop (mkF m 90 #[.val (.int p1), .val (.int i), .val (.ref (own_pick aN aF aG aU aR i)), .val (.ref (own_pick aN aF aG aU aR (own_dualI i))), .val (.ref (own_dual aN aF aG aU aR (own_pick aN aF aG aU aR i))), .val (.int (1 : Int32)), .val (.int (1 : Int32)), .val (.int (1 : Int32))] [(.int (1 : Int32))]))
  refine OGo.by_ (fun t k => XS.goto X10.here hx rfl (pc0 := 90) (pc' := 94) rfl (hb hby at_90) (by decide) (by decide) k) ?_
  show OGo p e below _ (T10.setTop (mkF m 94 #[.val (.int p1), .val (.int i), .val (.ref (own_pick aN aF aG aU aR i)), .val (.ref (own_pick aN aF aG aU aR (own_dualI i))), .val (.ref (own_dual aN aF aG aU aR (own_pick aN aF aG aU aR i))), .val (.int (1 : Int32)), .val (.int (1 : Int32)), .val (.int (1 : Int32))] [(.int (1 : Int32))]))
  exact own_retN X10 hx hlk (t := .boolean) hret (by simp) (hb hby at_94) (by decide) (by decide) (⟨rfl, N10⟩)
theorem own_fld_int {args : Array Value} {Z : State} {t : Term} {a : Addr} {C n d : String} {z : Int32} (ht : t.eval args Z none [] Z = some (.ref a)) (h : (Jvm.Cond.eq (Term.field t C n d) (Term.int z)).value args Z none Z [] = some true) : Fld Z Z.heap a C n d (.int z) := by
  obtain ⟨x, y, h1, h2, k1, k2⟩ := cmp_v (Or.inl h)
  cases Option.some.inj h2
  obtain ⟨w, rfl⟩ := k2
  have e := gotT (Cond.eq_ints h1 (Term.int_eval z)) h
  subst e
  exact Fld.start ((fld_at ht).symm.trans h1)
theorem own_inj {z w : Int32} (h : z ≠ w) : (Value.int z) ≠ (Value.int w) := fun q => h (Value.int.inj q)
set_option maxRecDepth 65536 in
set_option maxHeartbeats 40000000 in
theorem comes_1 {Post : Tables → Env → Array Value → State → Outcome → State → Prop} (hpost : ∀ tb e args s v u, (limb_1_1.after args s (.returned v) u = true ∧ limb_1_2.after args s (.returned v) u = true ∧ True) → FrameEnd s (.returned v) u (Jvm.fieldLocs frame_1_writes args s ++ Jvm.arrayLocs frame_1_arrays args s ++ Jvm.staticLocs frame_1_statics s) 0 0 → Post tb e args s (.returned v) u) :
    ArmFor flags0 classFile x code maxLocals ret World_1 tables_1 room_1 Calls_1 rest_1 Pre_1 Post := by
  intro l hfl _ _ p e ha hc hk s m args below hf hA hF happ hP
  obtain ⟨hcalls, hrest, hpre⟩ := hP
  obtain ⟨-, -, -, hnamed, -, -, -, hat⟩ := (Spec.applies_iff hf).mp happ
  obtain ⟨hg, hn⟩ := and_e (Cond.before_iff.mp (show (Jvm.Cond.and given_1 narrow_1).before args s = true from hpre))
  obtain ⟨hcount, hg0⟩ := and_e hg
  have ga0 := hg0
  obtain ⟨w0, rfl⟩ : ∃ w0 : Value, args = #[w0] := by
    have hs : args.size = 1 := by simpa [Cond.value, given_1] using hcount
    obtain ⟨L⟩ := args
    match L, hs with
    | [w0], _ => exact ⟨w0, rfl⟩
  have hw := fun d (hd : d ∈ tables_1) => atoms_spec (ws := Jvm.Cond.code x code maxLocals ret :: tables_1) hat d (List.mem_cons_of_mem _ hd)
  have hfit : Fit s := fun {y c} hc i hi => by
    obtain ⟨ha, rfl⟩ := Array.getElem?_eq_some_iff.mp hc
    have q := List.all_eq_true.mp ((Array.all_eq_true_iff_forall_mem.mp hF) _ (Array.getElem_mem ha)) i (List.mem_range.mpr hi)
    simpa [Array.getElem?_eq_getElem hi] using q
  obtain ⟨i0, ei0⟩ := is_v ga0
  obtain rfl : w0 = (.int i0) := Option.some.inj ei0
  obtain ⟨c0, hn⟩ := and_e hn
  obtain ⟨c1, hn⟩ := and_e hn
  obtain ⟨c2, hn⟩ := and_e hn
  obtain ⟨c3, hn⟩ := and_e hn
  obtain ⟨c4, hn⟩ := and_e hn
  obtain ⟨c5, hn⟩ := and_e hn
  obtain ⟨c6, hn⟩ := and_e hn
  obtain ⟨c7, hn⟩ := and_e hn
  obtain ⟨c8, hn⟩ := and_e hn
  obtain ⟨c9, hn⟩ := and_e hn
  obtain ⟨c10, hn⟩ := and_e hn
  obtain ⟨c11, hn⟩ := and_e hn
  obtain ⟨c12, hn⟩ := and_e hn
  obtain ⟨c13, hn⟩ := and_e hn
  have c14 := hn
  obtain ⟨aN, e_NEXT⟩ := exa_v c0
  have S_NEXT := Sta.start e_NEXT (Or.inr ⟨(hw _ (List.mem_of_getElem? (i := 6) rfl)), (hw _ (List.mem_of_getElem? (i := 7) rfl))⟩)
  have E_NEXT := Exa.start e_NEXT c0
  have O_NEXT := own_fld_int e_NEXT c2
  have A_NEXT := own_fld_int e_NEXT c10
  obtain ⟨aF, e_FUTURE⟩ := exa_v c1
  have S_FUTURE := Sta.start e_FUTURE (Or.inr ⟨(hw _ (List.mem_of_getElem? (i := 6) rfl)), (hw _ (List.mem_of_getElem? (i := 17) rfl))⟩)
  have E_FUTURE := Exa.start e_FUTURE c1
  have O_FUTURE := own_fld_int e_FUTURE c3
  have A_FUTURE := own_fld_int e_FUTURE c14
  obtain ⟨aG, e_GLOBALLY⟩ := exa_v c4
  have S_GLOBALLY := Sta.start e_GLOBALLY (Or.inr ⟨(hw _ (List.mem_of_getElem? (i := 6) rfl)), (hw _ (List.mem_of_getElem? (i := 19) rfl))⟩)
  have E_GLOBALLY := Exa.start e_GLOBALLY c4
  have O_GLOBALLY := own_fld_int e_GLOBALLY c5
  have A_GLOBALLY := own_fld_int e_GLOBALLY c13
  obtain ⟨aU, e_UNTIL⟩ := exa_v c6
  have S_UNTIL := Sta.start e_UNTIL (Or.inr ⟨(hw _ (List.mem_of_getElem? (i := 6) rfl)), (hw _ (List.mem_of_getElem? (i := 21) rfl))⟩)
  have E_UNTIL := Exa.start e_UNTIL c6
  have O_UNTIL := own_fld_int e_UNTIL c7
  have A_UNTIL := own_fld_int e_UNTIL c12
  obtain ⟨aR, e_RELEASE⟩ := exa_v c8
  have S_RELEASE := Sta.start e_RELEASE (Or.inr ⟨(hw _ (List.mem_of_getElem? (i := 6) rfl)), (hw _ (List.mem_of_getElem? (i := 23) rfl))⟩)
  have E_RELEASE := Exa.start e_RELEASE c8
  have O_RELEASE := own_fld_int e_RELEASE c9
  have A_RELEASE := own_fld_int e_RELEASE c11
  have far : own_far aN aF aG aU aR := ⟨⟨O_NEXT.ne O_FUTURE (own_inj (by decide)), O_NEXT.ne O_GLOBALLY (own_inj (by decide)), O_NEXT.ne O_UNTIL (own_inj (by decide)), O_NEXT.ne O_RELEASE (own_inj (by decide))⟩, ⟨O_FUTURE.ne O_GLOBALLY (own_inj (by decide)), O_FUTURE.ne O_UNTIL (own_inj (by decide)), O_FUTURE.ne O_RELEASE (own_inj (by decide))⟩, ⟨O_GLOBALLY.ne O_UNTIL (own_inj (by decide)), O_GLOBALLY.ne O_RELEASE (own_inj (by decide))⟩, O_UNTIL.ne O_RELEASE (own_inj (by decide))⟩
  have HE : ∀ i, Exa s s.heap (own_pick aN aF aG aU aR i) "com/example/fair_witness/fairwitness/model/TemporalFormula$Operator" := own_all (Pr := fun a _ => Exa s s.heap a "com/example/fair_witness/fairwitness/model/TemporalFormula$Operator") E_NEXT E_FUTURE E_GLOBALLY E_UNTIL E_RELEASE
  have HF : ∀ i, Fld s s.heap (own_pick aN aF aG aU aR i) "com/example/fair_witness/fairwitness/model/TemporalFormula$Operator" "arity" "I" (.int (own_ar i)) := own_all (Pr := fun a z => Fld s s.heap a "com/example/fair_witness/fairwitness/model/TemporalFormula$Operator" "arity" "I" (.int z)) A_NEXT A_FUTURE A_GLOBALLY A_UNTIL A_RELEASE
  obtain ⟨n, o, h1, h2, h3, _, L, rfl, ⟨rfl, N⟩, hq⟩ := rm_law l s _ hw tables_1 i0 aN aF aG aU aR s.heap s.heap.size (Nat.le_refl _) S_NEXT S_FUTURE S_GLOBALLY S_UNTIL S_RELEASE far HE HF p e ha hc hk s m _ below hf ((Spec.applies_iff_loose hf).mp happ).1 ⟨rfl, State.Warmed39.refl s, rfl⟩ trivial
  refine ⟨n, _, h1, h2, h3, hpost _ _ _ _ _ _ ⟨Cond.after_iff.mpr rfl, Cond.after_iff.mpr (eq_i res_at (Term.int_eval (1)) rfl), trivial⟩ ⟨hq.1, hq.2.1, (hq.2.2.sift fun y hy => Or.inr (N y hy)).mono (by decide) (by decide)⟩⟩
theorem main_1_1 : Claimed_1_1 := comes_1 fun _ _ _ _ _ _ h hF => ⟨h.1, hF⟩
theorem main_1_2 : Claimed_1_2 := comes_1 fun _ _ _ _ _ _ h hF => ⟨h.2.1, hF⟩
end Jvm.Pilot.@@N@@
namespace Jvm.Pilot.@@N@@
open Jvm Jvm.ClassFile Sem Op Lib Jvm.Free Jvm.Stand Jvm.Pilot.@@N@@.Jvm.D
/-! MADE BY PROGRAM (witnessworld.py) out of the Statement's table words and the real class files: 12 classes; the members and pool entries that the words name. The judged class is class 1, her method 3. -/
namespace start1
open Jvm.ClassFile
def u (s : String) : CpInfo := .utf8 (stringToUtf16 s)
/-- a pool by its gaps: so many unusable entries, then the entry; so many at the end -/
def gap : Nat → List CpInfo → List CpInfo
  | 0, r => r
  | n + 1, r => .unusable :: gap n r
def poolList (es : List (Nat × CpInfo)) (last : Nat) : List CpInfo := es.foldr (fun e r => gap e.1 (e.2 :: r)) (gap last [])
def pool (es : List (Nat × CpInfo)) (last : Nat) : Array CpInfo := ⟨poolList es last⟩
def fileOf (pool : Array CpInfo) (this : Nat) (attrs : Array Attribute := #[]) (ms : Array MethodInfo := #[]) (fl : Nat := 33) (sup : Nat := 0) (ifs : Array Nat := #[]) (fds : Array FieldInfo := #[]) : ClassFile where
  minorVersion := 0
  majorVersion := 65
  constantPool := pool
  accessFlags := fl
  thisClass := this
  superClass := sup
  interfaces := ifs
  fields := fds
  methods := ms
  attributes := attrs
def plain (name : String) (sup : Option ClassId) : Class where
  name := name
  kind := .ordinary
  loader := none
  accessFlags := 33
  super := sup
  interfaces := #[]
  cf := none
  fields := #[]
  methods := #[]
  instanceTypes := #[]
  staticTypes := #[]
  resolved := #[]
  callSites := []
  init := .initialized
  statics := none
  mirror := none

def pool0 : Array CpInfo := pool [(5, u "<init>"), (0, u "()V"), (1, .class_ 10), (1, u "java/lang/Object")] 113

def k0m0 : Method := { name := "<init>", desc := "()V", sig := { parameters := [], returnType := none }, accessFlags := 1, code := none }
/-- java/lang/Object -/
def k0 : Class := { plain "java/lang/Object" none with
  accessFlags := 33
  interfaces := #[]
  cf := some (fileOf pool0 8 #[] #[{ accessFlags := 1, nameIndex := 5, descriptorIndex := 6, attributes := #[] }] 33 0 #[] #[])
  fields := #[]
  methods := #[k0m0]
  instanceTypes := #[]
  staticTypes := #[]
  resolved := Array.replicate 124 none
  statics := none }

def pool1 : Array CpInfo := pool [(2, .class_ 4), (1, u "java/lang/Object"), (0, u "<init>"), (0, u "()V"), (0, .fieldref 8 9), (0, .class_ 10), (0, .nameAndType 11 12), (0, u "com/example/fair_witness/fairwitness/model/TemporalFormula$Operator"), (0, u "NEXT"), (0, u "Lcom/example/fair_witness/fairwitness/model/TemporalFormula$Operator;"), (0, .fieldref 8 14), (0, .nameAndType 15 12), (0, u "FUTURE"), (0, .fieldref 8 17), (0, .nameAndType 18 12), (0, u "GLOBALLY"), (0, .fieldref 8 20), (0, .nameAndType 21 12), (0, u "UNTIL"), (0, .fieldref 8 23), (0, .nameAndType 24 12), (0, u "RELEASE"), (0, .integer 2147483647), (0, .methodref 27 28), (0, .class_ 29), (0, .nameAndType 30 31), (0, u "com/example/fair_witness/fairwitness/model/OperatorDualPinLaw"), (0, u "pick"), (0, u "(I)Lcom/example/fair_witness/fairwitness/model/TemporalFormula$Operator;"), (0, .methodref 27 33), (0, .nameAndType 34 35), (0, u "dualIndex"), (0, u "(I)I"), (0, .methodref 8 37), (0, .nameAndType 38 39), (0, u "dual"), (0, u "()Lcom/example/fair_witness/fairwitness/model/TemporalFormula$Operator;"), (0, .methodref 8 41), (0, .nameAndType 42 43), (0, u "arity"), (0, u "()I"), (3, u "law"), (0, u "(I)Z")] 6

def k1m0 : Method := { name := "<init>", desc := "()V", sig := { parameters := [], returnType := none }, accessFlags := 2, code := none }
def k1c1 : Code := { maxStack := 2, maxLocals := 2, code := method_2_code, exceptionTable := #[], attributes := #[] }
def k1m1 : Method := { name := "pick", desc := "(I)Lcom/example/fair_witness/fairwitness/model/TemporalFormula$Operator;", sig := { parameters := [.int], returnType := some (.object "com/example/fair_witness/fairwitness/model/TemporalFormula$Operator") }, accessFlags := 10, code := some k1c1 }
def k1c2 : Code := { maxStack := 2, maxLocals := 2, code := method_3_code, exceptionTable := #[], attributes := #[] }
def k1m2 : Method := { name := "dualIndex", desc := "(I)I", sig := { parameters := [.int], returnType := some .int }, accessFlags := 10, code := some k1c2 }
def k1c3 : Code := { maxStack := 2, maxLocals := 8, code := code, exceptionTable := #[], attributes := #[] }
def k1m3 : Method := { name := "law", desc := "(I)Z", sig := { parameters := [.int], returnType := some .boolean }, accessFlags := 9, code := some k1c3 }
/-- com/example/fair_witness/fairwitness/model/OperatorDualPinLaw -/
def k1 : Class := { plain "com/example/fair_witness/fairwitness/model/OperatorDualPinLaw" (some 0) with
  accessFlags := 49
  interfaces := #[]
  cf := some (fileOf pool1 27 #[] #[{ accessFlags := 2, nameIndex := 5, descriptorIndex := 6, attributes := #[] }, { accessFlags := 10, nameIndex := 30, descriptorIndex := 31, attributes := #[] }, { accessFlags := 10, nameIndex := 34, descriptorIndex := 35, attributes := #[] }, { accessFlags := 9, nameIndex := 47, descriptorIndex := 48, attributes := #[] }] 49 2 #[] #[])
  fields := #[]
  methods := #[k1m0, k1m1, k1m2, k1m3]
  instanceTypes := #[]
  staticTypes := #[]
  resolved := Array.replicate 55 none
  statics := none }

def pool2 : Array CpInfo := pool [(1, .class_ 2), (0, u "java/lang/constant/Constable"), (0, .class_ 4), (0, u "java/lang/Object")] 6

/-- java/lang/constant/Constable -/
def k2 : Class := { plain "java/lang/constant/Constable" (some 0) with
  accessFlags := 1537
  interfaces := #[]
  cf := some (fileOf pool2 1 #[] #[] 1537 3 #[] #[])
  fields := #[]
  methods := #[]
  instanceTypes := #[]
  staticTypes := #[]
  resolved := Array.replicate 11 none
  statics := none }

def pool3 : Array CpInfo := pool [(1, .class_ 2), (0, u "java/lang/Comparable"), (0, .class_ 4), (0, u "java/lang/Object")] 7

/-- java/lang/Comparable -/
def k3 : Class := { plain "java/lang/Comparable" (some 0) with
  accessFlags := 1537
  interfaces := #[]
  cf := some (fileOf pool3 1 #[] #[] 1537 3 #[] #[])
  fields := #[]
  methods := #[]
  instanceTypes := #[]
  staticTypes := #[]
  resolved := Array.replicate 12 none
  statics := none }

def pool4 : Array CpInfo := pool [(1, .class_ 2), (0, u "java/io/Serializable"), (0, .class_ 4), (0, u "java/lang/Object")] 2

/-- java/io/Serializable -/
def k4 : Class := { plain "java/io/Serializable" (some 0) with
  accessFlags := 1537
  interfaces := #[]
  cf := some (fileOf pool4 1 #[] #[] 1537 3 #[] #[])
  fields := #[]
  methods := #[]
  instanceTypes := #[]
  staticTypes := #[]
  resolved := Array.replicate 7 none
  statics := none }

def pool5 : Array CpInfo := pool [(2, .class_ 4), (1, u "java/lang/Enum"), (0, u "name"), (0, u "Ljava/lang/String;"), (2, u "ordinal"), (0, u "I"), (1, .class_ 14), (1, u "java/lang/Object"), (4, u "hash"), (86, .class_ 108), (1, u "java/lang/Enum$EnumDesc"), (2, .class_ 112), (0, u "java/lang/constant/Constable"), (0, .class_ 114), (0, u "java/lang/Comparable"), (0, .class_ 116), (0, u "java/io/Serializable")] 87

/-- java/lang/Enum -/
def k5 : Class := { plain "java/lang/Enum" (some 0) with
  accessFlags := 1057
  interfaces := #[2, 3, 4]
  cf := some (fileOf pool5 2 #[.nestMembers #[106]] #[] 1057 12 #[111, 113, 115] #[{ accessFlags := 18, nameIndex := 5, descriptorIndex := 6, attributes := #[] }, { accessFlags := 18, nameIndex := 9, descriptorIndex := 10, attributes := #[] }, { accessFlags := 2, nameIndex := 19, descriptorIndex := 10, attributes := #[] }])
  fields := #[{ name := "name", type := (.object "java/lang/String"), accessFlags := 18, slot := 0, constantValue := 0 }, { name := "ordinal", type := .int, accessFlags := 18, slot := 1, constantValue := 0 }, { name := "hash", type := .int, accessFlags := 2, slot := 2, constantValue := 0 }]
  methods := #[]
  instanceTypes := #[(.object "java/lang/String"), .int, .int]
  staticTypes := #[]
  resolved := Array.replicate 204 none
  statics := none }

def pool6 : Array CpInfo := pool [(1, .class_ 2), (0, u "com/example/fair_witness/fairwitness/model/TemporalFormula$Operator"), (0, .fieldref 1 4), (0, .nameAndType 5 6), (0, u "NEXT"), (0, u "Lcom/example/fair_witness/fairwitness/model/TemporalFormula$Operator;"), (0, .fieldref 1 8), (0, .nameAndType 9 6), (0, u "FUTURE"), (0, .fieldref 1 11), (0, .nameAndType 12 6), (0, u "GLOBALLY"), (0, .fieldref 1 14), (0, .nameAndType 15 6), (0, u "UNTIL"), (0, .fieldref 1 17), (0, .nameAndType 18 6), (0, u "RELEASE"), (2, u "$VALUES"), (0, u "[Lcom/example/fair_witness/fairwitness/model/TemporalFormula$Operator;"), (6, .class_ 31), (1, u "java/lang/Enum"), (8, u "symbol"), (0, u "Ljava/lang/String;"), (0, .fieldref 1 43), (0, .nameAndType 44 45), (0, u "arity"), (0, u "I"), (29, u "()I"), (0, u "dual"), (0, u "()Lcom/example/fair_witness/fairwitness/model/TemporalFormula$Operator;"), (7, .class_ 86), (0, u "com/example/fair_witness/fairwitness/model/TemporalFormula")] 2

def k6c0 : Code := { maxStack := 1, maxLocals := 1, code := prog_95_method_5_code, exceptionTable := #[], attributes := #[] }
def k6m0 : Method := { name := "arity", desc := "()I", sig := { parameters := [], returnType := some .int }, accessFlags := 1, code := some k6c0 }
def k6c1 : Code := { maxStack := 2, maxLocals := 2, code := prog_95_method_6_code, exceptionTable := #[], attributes := #[] }
def k6m1 : Method := { name := "dual", desc := "()Lcom/example/fair_witness/fairwitness/model/TemporalFormula$Operator;", sig := { parameters := [], returnType := some (.object "com/example/fair_witness/fairwitness/model/TemporalFormula$Operator") }, accessFlags := 1, code := some k6c1 }
/-- com/example/fair_witness/fairwitness/model/TemporalFormula$Operator -/
def k6 : Class := { plain "com/example/fair_witness/fairwitness/model/TemporalFormula$Operator" (some 5) with
  accessFlags := 16433
  interfaces := #[]
  cf := some (fileOf pool6 1 #[.nestHost 85] #[{ accessFlags := 1, nameIndex := 44, descriptorIndex := 75, attributes := #[] }, { accessFlags := 1, nameIndex := 76, descriptorIndex := 77, attributes := #[] }] 16433 29 #[] #[{ accessFlags := 16409, nameIndex := 5, descriptorIndex := 6, attributes := #[] }, { accessFlags := 16409, nameIndex := 9, descriptorIndex := 6, attributes := #[] }, { accessFlags := 16409, nameIndex := 12, descriptorIndex := 6, attributes := #[] }, { accessFlags := 16409, nameIndex := 15, descriptorIndex := 6, attributes := #[] }, { accessFlags := 16409, nameIndex := 18, descriptorIndex := 6, attributes := #[] }, { accessFlags := 18, nameIndex := 40, descriptorIndex := 41, attributes := #[] }, { accessFlags := 18, nameIndex := 44, descriptorIndex := 45, attributes := #[] }, { accessFlags := 4122, nameIndex := 21, descriptorIndex := 22, attributes := #[] }])
  fields := #[{ name := "NEXT", type := (.object "com/example/fair_witness/fairwitness/model/TemporalFormula$Operator"), accessFlags := 16409, slot := 0, constantValue := 0 }, { name := "FUTURE", type := (.object "com/example/fair_witness/fairwitness/model/TemporalFormula$Operator"), accessFlags := 16409, slot := 1, constantValue := 0 }, { name := "GLOBALLY", type := (.object "com/example/fair_witness/fairwitness/model/TemporalFormula$Operator"), accessFlags := 16409, slot := 2, constantValue := 0 }, { name := "UNTIL", type := (.object "com/example/fair_witness/fairwitness/model/TemporalFormula$Operator"), accessFlags := 16409, slot := 3, constantValue := 0 }, { name := "RELEASE", type := (.object "com/example/fair_witness/fairwitness/model/TemporalFormula$Operator"), accessFlags := 16409, slot := 4, constantValue := 0 }, { name := "symbol", type := (.object "java/lang/String"), accessFlags := 18, slot := 3, constantValue := 0 }, { name := "arity", type := .int, accessFlags := 18, slot := 4, constantValue := 0 }, { name := "$VALUES", type := (.array (.object "com/example/fair_witness/fairwitness/model/TemporalFormula$Operator")), accessFlags := 4122, slot := 5, constantValue := 0 }]
  methods := #[k6m0, k6m1]
  instanceTypes := #[(.object "java/lang/String"), .int, .int, (.object "java/lang/String"), .int]
  staticTypes := #[(.object "com/example/fair_witness/fairwitness/model/TemporalFormula$Operator"), (.object "com/example/fair_witness/fairwitness/model/TemporalFormula$Operator"), (.object "com/example/fair_witness/fairwitness/model/TemporalFormula$Operator"), (.object "com/example/fair_witness/fairwitness/model/TemporalFormula$Operator"), (.object "com/example/fair_witness/fairwitness/model/TemporalFormula$Operator"), (.array (.object "com/example/fair_witness/fairwitness/model/TemporalFormula$Operator"))]
  resolved := Array.replicate 89 none
  statics := some 0 }

def pool7 : Array CpInfo := pool [(1, u "java/lang/Cloneable"), (0, .class_ 1), (0, u "java/lang/Object"), (0, .class_ 3)] 3

/-- java/lang/Cloneable -/
def k7 : Class := { plain "java/lang/Cloneable" (some 0) with
  accessFlags := 1537
  interfaces := #[]
  cf := some (fileOf pool7 2 #[] #[] 1537 4 #[] #[])
  fields := #[]
  methods := #[]
  instanceTypes := #[]
  staticTypes := #[]
  resolved := Array.replicate 8 none
  statics := none }

/-- the primitive byte -/
def k8 : Class := { plain "byte" none with kind := .primitive 'B', accessFlags := 0x411 }
/-- [B -/
def k9 : Class := { plain "[B" (some 0) with kind := .array 8 .byte, interfaces := #[7, 4], accessFlags := 1041 }

/-- the primitive int -/
def k10 : Class := { plain "int" none with kind := .primitive 'I', accessFlags := 0x411 }
/-- [I -/
def k11 : Class := { plain "[I" (some 0) with kind := .array 10 .int, interfaces := #[7, 4], accessFlags := 1041 }

def heap : Heap := #[{ cls := 6, slots := #[.ref 1, .ref 2, .ref 3, .ref 4, .ref 5, .null], vm := .statics 6 },
  { cls := 6, slots := #[.null, .int 0, .int 0, .null, .int 1], vm := .none },
  { cls := 6, slots := #[.null, .int 1, .int 0, .null, .int 1], vm := .none },
  { cls := 6, slots := #[.null, .int 2, .int 0, .null, .int 1], vm := .none },
  { cls := 6, slots := #[.null, .int 3, .int 0, .null, .int 2], vm := .none },
  { cls := 6, slots := #[.null, .int 4, .int 0, .null, .int 2], vm := .none }]
def classes : Array Class := #[k0, k1, k2, k3, k4, k5, k6, k7, k8, k9, k10, k11]
def interned : List (Array UInt16 × Addr) := []
def slotsUsed : Nat := 31
def theMethod : MethodId := ⟨1, 3⟩
def args0 : Array Value := #[.int 7]
def aboutOver (below : List Frame) : State where
  vm := { classes := classes, interned := interned.toArray }
  heap := heap
  slotsUsed := slotsUsed
  threads := #[{ frames := .invoking theMethod args0 :: below }]
def below0 : List Frame := [.native { method := ⟨0, 0⟩, args := #[] }]
def about1 : State := aboutOver below0
def p0 : Program := .bare "" "" ""
def e0 : Env := launch0.env 0 0 0
theorem w_frames : about1.frames = Frame.invoking theMethod args0 :: below0 := rfl
set_option maxRecDepth 65536 in
theorem w_args : argsFit about1.vm theMethod args0 = true := by decide +kernel
set_option maxRecDepth 65536 in
theorem w_heap : heapFits about1 = true := by decide +kernel
set_option maxRecDepth 65536 in
theorem w_runnable : about1.curStatus? = some .runnable := by decide +kernel
set_option maxRecDepth 65536 in
theorem w_alone : about1.alone = true := by decide +kernel
set_option maxRecDepth 65536 in
theorem w_named : about1.methodNamed? x = some theMethod := by decide +kernel
set_option maxRecDepth 65536 in
theorem w_hears : about1.hears theMethod below0 = true := by decide +kernel
set_option maxRecDepth 65536 in
theorem w_ripe : about1.ripe theMethod args0 below0 = true := by decide +kernel
theorem w_running : about1.status = .running := rfl
set_option maxRecDepth 65536 in
theorem w_room : about1.hasRoom e0.platform room_1 = true :=
  launch0.hasRoom_least _ room_1 (by decide +kernel) (by decide +kernel) (by decide +kernel) (by decide +kernel) (by decide +kernel) (by decide +kernel)
theorem allAtoms_all (ts : List Jvm.Cond) (a : Array Jvm.Value) (st : Jvm.State) : (allAtoms ts).before a st = ts.all (fun c => c.before a st) := by
  induction ts with
  | nil => rfl
  | cons c t ih =>
    show (Jvm.Cond.and c (allAtoms t)).before a st = _
    rw [Jvm.Cond.before_and, ih, List.all_cons]
def words1 : List Jvm.Cond := Jvm.Cond.code x code maxLocals ret :: tables_1
/-- a 'code' word, met by the world's own term for the bytes: nothing is compared byte by byte -/
theorem code_word {y : MethodName} {bytes : ByteArray} {mx : Nat} {rt : Option FieldType} {a : Array Value} {s : State} {m : MethodId} {meth : Method} {c : Code} (h1 : s.methodNamed? y = some m) (h2 : s.vm.method? m = some meth) (h3 : meth.code = some c) (h4 : c.code = bytes)
    (h5 : (c.maxLocals == mx && c.exceptionTable.isEmpty && decide (c.maxStack ≤ mostOperands) && decide (meth.sig.returnType = rt) && !meth.locks && decide (parseMethodDescriptor y.desc = some meth.sig)) = true) : (Jvm.Cond.code y bytes mx rt).before a s = true := by
  simp only [Bool.and_eq_true, beq_iff_eq, Bool.not_eq_true', decide_eq_true_eq] at h5
  obtain ⟨⟨⟨⟨⟨g1, g2⟩, g3⟩, g4⟩, g5⟩, g6⟩ := h5
  simp [Cond.before, Cond.holds, Cond.value, h1, h2, h3, h4, g1, g2, g3, g4, g5, g6]
def isCode : Jvm.Cond → Bool
  | .code _ _ _ _ => true
  | _ => false
theorem all_split {L : List Jvm.Cond} {P : Jvm.Cond → Bool} (h1 : L.all (fun c => isCode c || P c) = true) (h2 : ∀ c ∈ L.filter isCode, P c = true) : L.all P = true := by
  refine List.all_eq_true.mpr fun c hc => ?_
  have h := List.all_eq_true.mp h1 c hc
  rcases Bool.eq_false_or_eq_true (isCode c) with hi | hi
  · exact h2 c (List.mem_filter.mpr ⟨hc, hi⟩)
  · simpa [hi] using h
set_option maxRecDepth 65536 in
theorem w_c0 : (Jvm.Cond.code x code maxLocals ret).before args0 about1 = true := code_word (m := ⟨1, 3⟩) (meth := k1m3) (c := k1c3) (by decide +kernel) rfl rfl rfl (by decide +kernel)
set_option maxRecDepth 65536 in
theorem w_c1 : (Jvm.Cond.code ({ cls := "com/example/fair_witness/fairwitness/model/OperatorDualPinLaw", name := "pick", desc := "(I)Lcom/example/fair_witness/fairwitness/model/TemporalFormula$Operator;" } : Jvm.MethodName) method_2_code (2 : Nat) (Option.some (Jvm.ClassFile.FieldType.object "com/example/fair_witness/fairwitness/model/TemporalFormula$Operator"))).before args0 about1 = true := code_word (m := ⟨1, 1⟩) (meth := k1m1) (c := k1c1) (by decide +kernel) rfl rfl rfl (by decide +kernel)
set_option maxRecDepth 65536 in
theorem w_c2 : (Jvm.Cond.code ({ cls := "com/example/fair_witness/fairwitness/model/OperatorDualPinLaw", name := "dualIndex", desc := "(I)I" } : Jvm.MethodName) method_3_code (2 : Nat) (Option.some Jvm.ClassFile.FieldType.int)).before args0 about1 = true := code_word (m := ⟨1, 2⟩) (meth := k1m2) (c := k1c2) (by decide +kernel) rfl rfl rfl (by decide +kernel)
set_option maxRecDepth 65536 in
theorem w_c3 : (Jvm.Cond.code ({ cls := "com/example/fair_witness/fairwitness/model/TemporalFormula$Operator", name := "dual", desc := "()Lcom/example/fair_witness/fairwitness/model/TemporalFormula$Operator;" } : Jvm.MethodName) prog_95_method_6_code (2 : Nat) (Option.some (Jvm.ClassFile.FieldType.object "com/example/fair_witness/fairwitness/model/TemporalFormula$Operator"))).before args0 about1 = true := code_word (m := ⟨6, 1⟩) (meth := k6m1) (c := k6c1) (by decide +kernel) rfl rfl rfl (by decide +kernel)
set_option maxRecDepth 65536 in
theorem w_c4 : (Jvm.Cond.code ({ cls := "com/example/fair_witness/fairwitness/model/TemporalFormula$Operator", name := "arity", desc := "()I" } : Jvm.MethodName) prog_95_method_5_code (1 : Nat) (Option.some Jvm.ClassFile.FieldType.int)).before args0 about1 = true := code_word (m := ⟨6, 0⟩) (meth := k6m0) (c := k6c0) (by decide +kernel) rfl rfl rfl (by decide +kernel)
def codes1 : List Jvm.Cond := [Jvm.Cond.code x code maxLocals ret, Jvm.Cond.code ({ cls := "com/example/fair_witness/fairwitness/model/OperatorDualPinLaw", name := "pick", desc := "(I)Lcom/example/fair_witness/fairwitness/model/TemporalFormula$Operator;" } : Jvm.MethodName) method_2_code (2 : Nat) (Option.some (Jvm.ClassFile.FieldType.object "com/example/fair_witness/fairwitness/model/TemporalFormula$Operator")), Jvm.Cond.code ({ cls := "com/example/fair_witness/fairwitness/model/OperatorDualPinLaw", name := "dualIndex", desc := "(I)I" } : Jvm.MethodName) method_3_code (2 : Nat) (Option.some Jvm.ClassFile.FieldType.int), Jvm.Cond.code ({ cls := "com/example/fair_witness/fairwitness/model/TemporalFormula$Operator", name := "dual", desc := "()Lcom/example/fair_witness/fairwitness/model/TemporalFormula$Operator;" } : Jvm.MethodName) prog_95_method_6_code (2 : Nat) (Option.some (Jvm.ClassFile.FieldType.object "com/example/fair_witness/fairwitness/model/TemporalFormula$Operator")), Jvm.Cond.code ({ cls := "com/example/fair_witness/fairwitness/model/TemporalFormula$Operator", name := "arity", desc := "()I" } : Jvm.MethodName) prog_95_method_5_code (1 : Nat) (Option.some Jvm.ClassFile.FieldType.int)]
set_option maxRecDepth 65536 in
theorem codes_eq : words1.filter isCode = codes1 := rfl
theorem w_codes : ∀ c ∈ words1.filter isCode, c.before args0 about1 = true := by
  rw [codes_eq]
  intro c hc
  simp only [codes1, List.mem_cons, List.not_mem_nil, or_false] at hc
  rcases hc with rfl | rfl | rfl | rfl | rfl
  · exact w_c0
  · exact w_c1
  · exact w_c2
  · exact w_c3
  · exact w_c4
set_option maxRecDepth 65536 in
theorem w_t1 : (words1.take 24).all (fun c => isCode c || c.before args0 about1) = true := by decide +kernel
set_option maxRecDepth 65536 in
theorem w_t2 : (words1.drop 24).all (fun c => isCode c || c.before args0 about1) = true := by decide +kernel
theorem w_tables : (allAtoms (Jvm.Cond.code x code maxLocals ret :: tables_1)).before args0 about1 = true := by
  rw [allAtoms_all]
  show words1.all (fun c => c.before args0 about1) = true
  refine all_split ?_ w_codes
  rw [← List.take_append_drop 24 words1, List.all_append, w_t1, w_t2]
  rfl
set_option maxRecDepth 65536 in
theorem w_case : (Jvm.Cond.and given_1 narrow_1).before args0 about1 = true := by decide +kernel
theorem w_applies : (headSpec (Jvm.Cond.code x code maxLocals ret :: tables_1) room_1).applies x e0.platform about1 = true :=
  (Spec.applies_iff w_frames).mpr ⟨w_running, w_runnable, w_alone, w_named, w_hears, w_ripe, w_room, w_tables⟩
theorem atStart : AtStart classFile x code maxLocals ret World_1 tables_1 room_1 Calls_1 rest_1 Pre_1 launch0 p0 e0 about1 theMethod args0 below0 :=
  ⟨lists_1, trivial, launch0.admits_env _ _ _, launch0.least_env, fairChoices_fair.cas, fairChoices_fair.clock, w_frames, w_args, w_heap, w_applies, trivial, trivial, w_case⟩
end start1
theorem witness_1 : WitnessClaimed_1 := ⟨start1.p0, start1.e0, start1.about1, start1.theMethod, start1.args0, start1.below0, start1.atStart⟩
end Jvm.Pilot.@@N@@
