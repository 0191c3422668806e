import JvmDerived
import JvmDerived.Pilot.@@N@@Statement
import JvmDerived.Pilot.@@N@@Code
set_option linter.unusedVariables false
set_option linter.unusedSimpArgs false
namespace Jvm.RoadKit
open Sem ClassFile Op Lib Jvm.Stand Jvm.Free Jvm.LawKit
section OwnKit
variable {p : Program} {l : Launch} {e : Env} {R : Room} {s : State} {m : MethodId} {args : Array Value} {below : List Frame} {meth : Method} {c : Code} {T : State} {locs : List Loc} {cells slots : Nat}
/-- the run from U ends the invocation, and P holds there -/
def OGo (p : Program) (e : Env) (below : List Frame) (P : Outcome → State → Prop) (U : State) : Prop :=
  ∃ s₂ o, Steps p.tables e below U s₂ ∧ s₂.status = .running ∧ Ended s₂ below o ∧ P o s₂
theorem OGo.by_ {P : Outcome → State → Prop} {U U' : State} (h : ∀ t, Steps p.tables e below U' t → Steps p.tables e below U t) (g : OGo p e below P U') : OGo p e below P U := by
  obtain ⟨t, o, a, b⟩ := g
  exact ⟨t, o, h t a, b⟩
abbrev OEnd (s : State) (Q : Option Value → Heap → List Loc → Prop) (k n : Nat) (o : Outcome) (U' : State) : Prop :=
  ∃ v L, o = .returned v ∧ Q v U'.heap L ∧ FrameEnd s o U' L k n
variable {Q : Option Value → Heap → List Loc → Prop} {k n : Nat} {pc : Nat} {Ls : Array Slot} {rest : List Value}
theorem own_retW (X : Stand p l e R s m args below meth c T locs cells slots) (hx : p.tables.exec = Jvm.exec) (hlk : meth.locks = false) {w : Value} {t : FieldType} {i : Instr} (hret : meth.sig.returnType = some t) (hn : narrow t w = w)
    (hi : (i = .ireturn ∧ (t = .int ∨ t = .boolean ∨ t = .byte ∨ t = .char ∨ t = .short) ∧ ∃ z, w = .int z) ∨ (i = .lreturn ∧ t = .long ∧ ∃ z, w = .long z) ∨ (i = .dreturn ∧ t = .double ∧ ∃ z, w = .double z) ∨ (i = .freturn ∧ t = .float ∧ ∃ z, w = .float z) ∨ (i = .areturn ∧ t.isReference = true ∧ w.isRef = true))
    (hd : decode c.code pc = .ok (i, 1)) (hk : cells ≤ k) (hs : slots ≤ n) (hQ : Q (some w) T.heap locs) : OGo p e below (OEnd s Q k n) (T.setTop (mkF m pc Ls (w :: rest))) := by
  obtain ⟨fs, hr, hrun, hended, hW, hsame⟩ := X.leave (v := some w) (fun h => by rw [hret] at h; cases h) hlk
  exact ⟨_, _, retOut X hx hret hn hi hd hr, hrun, hended, _, _, rfl, hQ, ⟨_, rfl⟩, hW, hsame.mono hk hs⟩
theorem own_retI (X : Stand p l e R s m args below meth c T locs cells slots) (hx : p.tables.exec = Jvm.exec) (hlk : meth.locks = false) {z : Int32} (hret : meth.sig.returnType = some .int)
    (hd : decode c.code pc = .ok (.ireturn, 1)) (hk : cells ≤ k) (hs : slots ≤ n) (hQ : Q (some (.int z)) T.heap locs) : OGo p e below (OEnd s Q k n) (T.setTop (mkF m pc Ls (.int z :: rest))) :=
  own_retW X hx hlk hret rfl (Or.inl ⟨rfl, Or.inl rfl, z, rfl⟩) hd hk hs hQ
theorem own_retJ (X : Stand p l e R s m args below meth c T locs cells slots) (hx : p.tables.exec = Jvm.exec) (hlk : meth.locks = false) {z : Int64} (hret : meth.sig.returnType = some .long)
    (hd : decode c.code pc = .ok (.lreturn, 1)) (hk : cells ≤ k) (hs : slots ≤ n) (hQ : Q (some (.long z)) T.heap locs) : OGo p e below (OEnd s Q k n) (T.setTop (mkF m pc Ls (.long z :: rest))) :=
  own_retW X hx hlk hret rfl (Or.inr (Or.inl ⟨rfl, rfl, z, rfl⟩)) hd hk hs hQ
theorem own_retA (X : Stand p l e R s m args below meth c T locs cells slots) (hx : p.tables.exec = Jvm.exec) (hlk : meth.locks = false) {w : Value} {t : FieldType} (hret : meth.sig.returnType = some t) (ht : t.isReference = true) (hw : w.isRef = true)
    (hd : decode c.code pc = .ok (.areturn, 1)) (hk : cells ≤ k) (hs : slots ≤ n) (hQ : Q (some w) T.heap locs) : OGo p e below (OEnd s Q k n) (T.setTop (mkF m pc Ls (w :: rest))) :=
  own_retW X hx hlk hret (by cases t <;> cases w <;> simp [FieldType.isReference, Value.isRef] at ht hw <;> rfl) (Or.inr (Or.inr (Or.inr (Or.inr ⟨rfl, ht, hw⟩)))) hd hk hs hQ
theorem own_retN (X : Stand p l e R s m args below meth c T locs cells slots) (hx : p.tables.exec = Jvm.exec) (hlk : meth.locks = false) {z : Int32} {t : FieldType} (hret : meth.sig.returnType = some t) (ht : t = .boolean ∨ t = .byte ∨ t = .char ∨ t = .short)
    (hd : decode c.code pc = .ok (.ireturn, 1)) (hk : cells ≤ k) (hs : slots ≤ n) (hQ : Q (some (.int (nar t z))) T.heap locs) : OGo p e below (OEnd s Q k n) (T.setTop (mkF m pc Ls (.int z :: rest))) := by
  obtain ⟨fs, hr, hrun, hended, hW, hsame⟩ := X.leave (v := some (.int (nar t z))) (fun h => by rw [hret] at h; cases h) hlk
  exact ⟨_, _, retN X hx hret ht hd hr, hrun, hended, _, _, rfl, hQ, ⟨_, rfl⟩, hW, hsame.mono hk hs⟩
theorem own_ret (X : Stand p l e R s m args below meth c T locs cells slots) (hx : p.tables.exec = Jvm.exec) (hlk : meth.locks = false) (hret : meth.sig.returnType = none)
    (hd : decode c.code pc = .ok (.return_, 1)) (hk : cells ≤ k) (hs : slots ≤ n) (hQ : Q none T.heap locs) : OGo p e below (OEnd s Q k n) (T.setTop (mkF m pc Ls [])) := by
  obtain ⟨fs, hr, hrun, hended, hW, hsame⟩ := X.leave (v := none) (fun _ => rfl) hlk
  exact ⟨_, _, X.returnOut hx hret hd hr, hrun, hended, _, _, rfl, hQ, ⟨_, rfl⟩, hW, hsame.mono hk hs⟩
abbrev OEndW (s : State) (Q : Option Value → Heap → List Loc → Prop) (k n : Nat) (o : Outcome) (U' : State) : Prop :=
  ∃ v L, o = .returned v ∧ Q v U'.heap L ∧ ReturnedEndW s o U' L k n
variable {vm₁ : Vm} {j : Nat}
theorem own_wretW (X : Stand p l e R (s.setVm vm₁) m args below meth c T locs cells slots) (hS : s.Since vm₁ j) (hj : j ≤ T.heap.size) (hx : p.tables.exec = Jvm.exec) (hlk : meth.locks = false) {w : Value} {t : FieldType} {i : Instr} (hret : meth.sig.returnType = some t) (hn : narrow t w = w)
    (hi : (i = .ireturn ∧ (t = .int ∨ t = .boolean ∨ t = .byte ∨ t = .char ∨ t = .short) ∧ ∃ z, w = .int z) ∨ (i = .lreturn ∧ t = .long ∧ ∃ z, w = .long z) ∨ (i = .dreturn ∧ t = .double ∧ ∃ z, w = .double z) ∨ (i = .freturn ∧ t = .float ∧ ∃ z, w = .float z) ∨ (i = .areturn ∧ t.isReference = true ∧ w.isRef = true))
    (hd : decode c.code pc = .ok (i, 1)) (hk : cells ≤ k) (hs : slots ≤ n) (hQ : Q (some w) T.heap locs) : OGo p e below (OEndW s Q k n) (T.setTop (mkF m pc Ls (w :: rest))) := by
  obtain ⟨fs, hr, hrun, hended, h1, h2, h3, h4⟩ := X.leaveW hS hj (v := some w) (fun h => by rw [hret] at h; cases h) hlk
  exact ⟨_, _, retOut X hx hret hn hi hd hr, hrun, hended, _, _, rfl, hQ, h1, h2, h3, h4.mono hk hs⟩
theorem own_wretI (X : Stand p l e R (s.setVm vm₁) m args below meth c T locs cells slots) (hS : s.Since vm₁ j) (hj : j ≤ T.heap.size) (hx : p.tables.exec = Jvm.exec) (hlk : meth.locks = false) {z : Int32} (hret : meth.sig.returnType = some .int)
    (hd : decode c.code pc = .ok (.ireturn, 1)) (hk : cells ≤ k) (hs : slots ≤ n) (hQ : Q (some (.int z)) T.heap locs) : OGo p e below (OEndW s Q k n) (T.setTop (mkF m pc Ls (.int z :: rest))) :=
  own_wretW X hS hj hx hlk hret rfl (Or.inl ⟨rfl, Or.inl rfl, z, rfl⟩) hd hk hs hQ
theorem own_wretA (X : Stand p l e R (s.setVm vm₁) m args below meth c T locs cells slots) (hS : s.Since vm₁ j) (hj : j ≤ T.heap.size) (hx : p.tables.exec = Jvm.exec) (hlk : meth.locks = false) {w : Value} {t : FieldType} (hret : meth.sig.returnType = some t) (ht : t.isReference = true) (hw : w.isRef = true)
    (hd : decode c.code pc = .ok (.areturn, 1)) (hk : cells ≤ k) (hs : slots ≤ n) (hQ : Q (some w) T.heap locs) : OGo p e below (OEndW s Q k n) (T.setTop (mkF m pc Ls (w :: rest))) :=
  own_wretW X hS hj hx hlk hret (by cases t <;> cases w <;> simp [FieldType.isReference, Value.isRef] at ht hw <;> rfl) (Or.inr (Or.inr (Or.inr (Or.inr ⟨rfl, ht, hw⟩)))) hd hk hs hQ
theorem own_wretN (X : Stand p l e R (s.setVm vm₁) m args below meth c T locs cells slots) (hS : s.Since vm₁ j) (hj : j ≤ T.heap.size) (hx : p.tables.exec = Jvm.exec) (hlk : meth.locks = false) {z : Int32} {t : FieldType} (hret : meth.sig.returnType = some t) (ht : t = .boolean ∨ t = .byte ∨ t = .char ∨ t = .short)
    (hd : decode c.code pc = .ok (.ireturn, 1)) (hk : cells ≤ k) (hs : slots ≤ n) (hQ : Q (some (.int (nar t z))) T.heap locs) : OGo p e below (OEndW s Q k n) (T.setTop (mkF m pc Ls (.int z :: rest))) := by
  obtain ⟨fs, hr, hrun, hended, h1, h2, h3, h4⟩ := X.leaveW hS hj (v := some (.int (nar t z))) (fun h => by rw [hret] at h; cases h) hlk
  exact ⟨_, _, retN X hx hret ht hd hr, hrun, hended, _, _, rfl, hQ, h1, h2, h3, h4.mono hk hs⟩
theorem own_wret (X : Stand p l e R (s.setVm vm₁) m args below meth c T locs cells slots) (hS : s.Since vm₁ j) (hj : j ≤ T.heap.size) (hx : p.tables.exec = Jvm.exec) (hlk : meth.locks = false) (hret : meth.sig.returnType = none)
    (hd : decode c.code pc = .ok (.return_, 1)) (hk : cells ≤ k) (hs : slots ≤ n) (hQ : Q none T.heap locs) : OGo p e below (OEndW s Q k n) (T.setTop (mkF m pc Ls [])) := by
  obtain ⟨fs, hr, hrun, hended, h1, h2, h3, h4⟩ := X.leaveW hS hj (v := none) (fun _ => rfl) hlk
  exact ⟨_, _, X.returnOut hx hret hd hr, hrun, hended, _, _, rfl, hQ, h1, h2, h3, h4.mono hk hs⟩
end OwnKit
end Jvm.RoadKit
namespace Jvm.Pilot.@@N@@
open Jvm Jvm.ClassFile Sem Op Lib Jvm.Free Jvm.Stand Jvm.LawKit Jvm.RoadKit Bundle Jvm.Pilot.@@N@@.Jvm.D
theorem d_of_0 : decode prog_8_method_2_code 0 = .ok (.iload_n 0, 1) := by decide +kernel
theorem d_of_1 : decode prog_8_method_2_code 1 = .ok (.ifCond .eq 9, 3) := by decide +kernel
theorem d_of_10 : decode prog_8_method_2_code 10 = .ok (.getstatic 17, 3) := by decide +kernel
theorem d_of_13 : decode prog_8_method_2_code 13 = .ok (.areturn, 1) := by decide +kernel
theorem d_of_4 : decode prog_8_method_2_code 4 = .ok (.getstatic 13, 3) := by decide +kernel
theorem d_of_7 : decode prog_8_method_2_code 7 = .ok (.goto 6, 3) := by decide +kernel
theorem pn_com_example_frigg_frigg_engine_BoolValue : plainName "com/example/frigg/frigg/engine/BoolValue" = true := by first | (simp [plainName, overriddenIn]; done) | decide +kernel
theorem ef_of (m : MethodId) (x0 : Int32) : entryFrame m #[(.int x0)] 1 = mkF m 0 #[.val (.int x0)] [] := by first | (simp [entryFrame, mkF, argsToLocals, Value.category]; done) | rfl
def Q_of (Z : State) (p1 : Int32) (aT aF : Addr) (h0 : Heap) (n0 : Nat) (v : Option Value) (h : Heap) (L : List Loc) : Prop := v = some (.ref (if p1 = (0 : Int32) then aF else aT)) ∧ Fr n0 L ∧ h = h0
set_option maxRecDepth 65536 in
set_option maxHeartbeats 40000000 in
theorem rm_of (l : Launch) (Z : State) (a0 : Array Value) (hw : ∀ d ∈ tables_1, d.before a0 Z = true) (ws : List Jvm.Cond) (p1 : Int32) (aT aF : Addr) (h0 : Heap) (n0 : Nat) (Z0 : n0 ≤ h0.size) (ST : Sta Z h0 "com/example/frigg/frigg/engine/BoolValue" "TRUE" "Lcom/example/frigg/frigg/engine/BoolValue;" (.ref aT)) (SF : Sta Z h0 "com/example/frigg/frigg/engine/BoolValue" "FALSE" "Lcom/example/frigg/frigg/engine/BoolValue;" (.ref aF)) :
    MetFree l (⟨"com/example/frigg/frigg/engine/BoolValue", "of", "(Z)Lcom/example/frigg/frigg/engine/BoolValue;"⟩ : MethodName) (head1 (Jvm.Cond.code (⟨"com/example/frigg/frigg/engine/BoolValue", "of", "(Z)Lcom/example/frigg/frigg/engine/BoolValue;"⟩ : MethodName) prog_8_method_2_code 1 (some (.object "com/example/frigg/frigg/engine/BoolValue")) :: ws) ({ frames := 0, cells := 0, slots := 0, locals := 0 } : Room)) (fun a_ U => a_ = #[(.int p1)] ∧ Z.Warmed39 U.vm ∧ U.heap = h0) (fun _ _ _ _ _ => True) (fun _ U o U' => ∃ v L, o = .returned v ∧ Q_of Z p1 aT aF h0 n0 v U'.heap L ∧ FrameEnd U o U' L ({ frames := 0, cells := 0, slots := 0, locals := 0 } : Room).cells ({ frames := 0, cells := 0, slots := 0, locals := 0 } : Room).slots) := by
  refine MetFree.of_bodySF (plainFor_of_name pn_com_example_frigg_frigg_engine_BoolValue) hisR ?_
  intro p e s m args below meth c s₁ Bd hml0 hP hK
  obtain ⟨rfl, hZ, hh⟩ := hP
  have hx := Bd.exec
  have hby := Bd.bytes
  have hml : c.maxLocals = 1 := hml0
  have hown : s.vm.findClass "com/example/frigg/frigg/engine/BoolValue" = some m.cls := findClass_of_methodNamed Bd.named
  have hnm := (name_of_methodNamed Bd.named Bd.method).1
  have X0 : Stand p l e ({ frames := 0, cells := 0, slots := 0, locals := 0 } : Room) s m #[(.int p1)] below meth c s₁ [] 0 0 := Stand.of_body Bd
  have e0 : s₁.heap = h0 := by rw [← hh, Bd.state]; rfl
  have N0 := Fr.nil n0
  have hlk := Bd.notSynchronized
  have hret := Bd.returns
  show OGo p e below (OEnd s (Q_of Z p1 aT aF h0 n0) ({ frames := 0, cells := 0, slots := 0, locals := 0 } : Room).cells ({ frames := 0, cells := 0, slots := 0, locals := 0 } : Room).slots) (s₁.setTop (entryFrame m #[(.int p1)] 1))
  rw [ef_of]
  show OGo p e below _ (s₁.setTop (mkF m 0 #[.val (.int p1)] []))
  refine OGo.by_ (fun t k => XS.iloadN X0.here hx rfl (hb hby d_of_0) rfl k) ?_
  show OGo p e below _ (s₁.setTop (mkF m 1 #[.val (.int p1)] [(.int p1)]))
  by_cases hc1 : p1 = (0 : Int32)
  · refine OGo.by_ (fun t k => XS.ifYes X0.here hx rfl (pc0 := 1) (pc' := 10) rfl (hb hby d_of_1) rfl ((if0 _ _).trans (teq hc1).1) (by decide) (by decide) k) ?_
    show OGo p e below _ (s₁.setTop (mkF m 10 #[.val (.int p1)] []))
    obtain ⟨T1, X1, e1, st1⟩ := getS X0 hx hZ hown (host := "") (hw _ (List.mem_of_getElem? (i := 4) rfl)) Via.refl e0 SF (g := (mkF m 10 #[.val (.int p1)] [])) rfl (hb hby d_of_10)
    refine OGo.by_ st1 ?_
    show OGo p e below _ (T1.setTop (mkF m 13 #[.val (.int p1)] [(.ref aF)]))
    exact own_retA X1 hx hlk hret rfl rfl (hb hby d_of_13) (by decide) (by decide) (⟨by simp only [if_pos hc1], N0, e1⟩)
  · refine OGo.by_ (fun t k => XS.ifNo X0.here hx rfl (hb hby d_of_1) rfl ((if0 _ _).trans (feq hc1).1) k) ?_
    show OGo p e below _ (s₁.setTop (mkF m 4 #[.val (.int p1)] []))
    obtain ⟨T2, X2, e2, st2⟩ := getS X0 hx hZ hown (host := "") (hw _ (List.mem_of_getElem? (i := 16) rfl)) Via.refl e0 ST (g := (mkF m 4 #[.val (.int p1)] [])) rfl (hb hby d_of_4)
    refine OGo.by_ st2 ?_
    show OGo p e below _ (T2.setTop (mkF m 7 #[.val (.int p1)] [(.ref aT)]))
    refine OGo.by_ (fun t k => XS.goto X2.here hx rfl (pc0 := 7) (pc' := 13) rfl (hb hby d_of_7) (by decide) (by decide) k) ?_
    show OGo p e below _ (T2.setTop (mkF m 13 #[.val (.int p1)] [(.ref aT)]))
    exact own_retA X2 hx hlk hret rfl rfl (hb hby d_of_13) (by decide) (by decide) (⟨by simp only [if_neg hc1], N0, e2⟩)
theorem d_val_0 : decode prog_8_method_3_code 0 = .ok (.aload_n 0, 1) := by decide +kernel
theorem d_val_1 : decode prog_8_method_3_code 1 = .ok (.getfield 7, 3) := by decide +kernel
theorem d_val_4 : decode prog_8_method_3_code 4 = .ok (.ireturn, 1) := by decide +kernel
theorem ef_val (m : MethodId) (x0 : Addr) : entryFrame m #[(.ref x0)] 1 = mkF m 0 #[.val (.ref x0)] [] := by first | (simp [entryFrame, mkF, argsToLocals, Value.category]; done) | rfl
def Q_val (Z : State) (a : Addr) (q1 : Int32) (h0 : Heap) (n0 : Nat) (v : Option Value) (h : Heap) (L : List Loc) : Prop := v = some (.int (nar .boolean q1)) ∧ Fr n0 L ∧ h = h0
set_option maxRecDepth 65536 in
set_option maxHeartbeats 40000000 in
theorem rm_val (l : Launch) (Z : State) (a0 : Array Value) (hw : ∀ d ∈ tables_1, d.before a0 Z = true) (ws : List Jvm.Cond) (a : Addr) (q1 : Int32) (h0 : Heap) (n0 : Nat) (Z0 : n0 ≤ h0.size) (F0 : Fld Z h0 a "com/example/frigg/frigg/engine/BoolValue" "value" "Z" (.int q1)) :
    MetFree l (⟨"com/example/frigg/frigg/engine/BoolValue", "value", "()Z"⟩ : MethodName) (head1 (Jvm.Cond.code (⟨"com/example/frigg/frigg/engine/BoolValue", "value", "()Z"⟩ : MethodName) prog_8_method_3_code 1 (some .boolean) :: ws) ({ frames := 0, cells := 0, slots := 0, locals := 0 } : Room)) (fun a_ U => a_ = #[(.ref a)] ∧ Z.Warmed39 U.vm ∧ U.heap = h0) (fun _ _ _ _ _ => True) (fun _ U o U' => ∃ v L, o = .returned v ∧ Q_val Z a q1 h0 n0 v U'.heap L ∧ FrameEnd U o U' L ({ frames := 0, cells := 0, slots := 0, locals := 0 } : Room).cells ({ frames := 0, cells := 0, slots := 0, locals := 0 } : Room).slots) := by
  refine MetFree.of_bodySF (plainFor_of_name pn_com_example_frigg_frigg_engine_BoolValue) hisR ?_
  intro p e s m args below meth c s₁ Bd hml0 hP hK
  obtain ⟨rfl, hZ, hh⟩ := hP
  have hx := Bd.exec
  have hby := Bd.bytes
  have hml : c.maxLocals = 1 := hml0
  have hown : s.vm.findClass "com/example/frigg/frigg/engine/BoolValue" = some m.cls := findClass_of_methodNamed Bd.named
  have hnm := (name_of_methodNamed Bd.named Bd.method).1
  have X0 : Stand p l e ({ frames := 0, cells := 0, slots := 0, locals := 0 } : Room) s m #[(.ref a)] below meth c s₁ [] 0 0 := Stand.of_body Bd
  have e0 : s₁.heap = h0 := by rw [← hh, Bd.state]; rfl
  have N0 := Fr.nil n0
  have hlk := Bd.notSynchronized
  have hret := Bd.returns
  show OGo p e below (OEnd s (Q_val Z a q1 h0 n0) ({ frames := 0, cells := 0, slots := 0, locals := 0 } : Room).cells ({ frames := 0, cells := 0, slots := 0, locals := 0 } : Room).slots) (s₁.setTop (entryFrame m #[(.ref a)] 1))
  rw [ef_val]
  show OGo p e below _ (s₁.setTop (mkF m 0 #[.val (.ref a)] []))
  refine OGo.by_ (fun t k => XS.aloadN X0.here hx rfl (hb hby d_val_0) rfl rfl k) ?_
  show OGo p e below _ (s₁.setTop (mkF m 1 #[.val (.ref a)] [(.ref a)]))
  obtain ⟨T1, X1, e1, st1⟩ := getF X0 hx hZ hown (host := "") (Or.inl (hw _ (List.mem_of_getElem? (i := 11) rfl))) Via.refl e0 F0 (g := (mkF m 1 #[.val (.ref a)] [(.ref a)])) rfl rfl (hb hby d_val_1)
  refine OGo.by_ st1 ?_
  show OGo p e below _ (T1.setTop (mkF m 4 #[.val (.ref a)] [(.int q1)]))
  exact own_retN X1 hx hlk (t := .boolean) hret (by simp) (hb hby d_val_4) (by decide) (by decide) (⟨rfl, N0, e1⟩)
theorem pd_oZcLcom_example_frigg_frigg_engine_BoolValue_ : parseMethodDescriptor "(Z)Lcom/example/frigg/frigg/engine/BoolValue;" = some ⟨[.boolean], some (.object "com/example/frigg/frigg/engine/BoolValue")⟩ := by decide +kernel
theorem pd_ocZ : parseMethodDescriptor "()Z" = some ⟨[], some .boolean⟩ := by decide +kernel
theorem pn_com_example_frigg_frigg_engine_BoolValueOfPinLaw : plainName "com/example/frigg/frigg/engine/BoolValueOfPinLaw" = true := by first | (simp [plainName, overriddenIn]; done) | decide +kernel
theorem ef_law (m : MethodId) (x0 : Int32) : entryFrame m #[(.int x0)] maxLocals = mkF m 0 #[.val (.int x0), .unset, .unset, .unset, .unset, .unset, .unset, .unset] [] := by first | (simp [entryFrame, mkF, argsToLocals, Value.category, maxLocals]; done) | rfl
def Q_law (Z : State) (p1 : Int32) (aT aF : Addr) (h0 : Heap) (n0 : Nat) (v : Option Value) (h : Heap) (L : List Loc) : Prop := v = some (.int 1) ∧ Fr n0 L
set_option maxRecDepth 65536 in
set_option maxHeartbeats 40000000 in
theorem rm_law (l : Launch) (Z : State) (a0 : Array Value) (hw : ∀ d ∈ tables_1, d.before a0 Z = true) (ws : List Jvm.Cond) (p1 : Int32) (aT aF : Addr) (h0 : Heap) (n0 : Nat) (Z0 : n0 ≤ h0.size) (ST : Sta Z h0 "com/example/frigg/frigg/engine/BoolValue" "TRUE" "Lcom/example/frigg/frigg/engine/BoolValue;" (.ref aT)) (SF : Sta Z h0 "com/example/frigg/frigg/engine/BoolValue" "FALSE" "Lcom/example/frigg/frigg/engine/BoolValue;" (.ref aF)) (E0 : Exa Z h0 aF "com/example/frigg/frigg/engine/BoolValue") (E1 : Exa Z h0 aT "com/example/frigg/frigg/engine/BoolValue") (V0 : Fld Z h0 aF "com/example/frigg/frigg/engine/BoolValue" "value" "Z" (.int (0 : Int32))) (V1 : Fld Z h0 aT "com/example/frigg/frigg/engine/BoolValue" "value" "Z" (.int (1 : Int32))) (hne : aF ≠ aT) :
    MetFree l x (head1 (Jvm.Cond.code x code maxLocals ret :: ws) room_1) (fun a_ U => a_ = #[(.int p1)] ∧ Z.Warmed39 U.vm ∧ U.heap = h0) (fun _ _ _ _ _ => True) (fun _ U o U' => ∃ v L, o = .returned v ∧ Q_law Z p1 aT aF h0 n0 v U'.heap L ∧ FrameEnd U o U' L room_1.cells room_1.slots) := by
  refine MetFree.of_bodySF (plainFor_of_name pn_com_example_frigg_frigg_engine_BoolValueOfPinLaw) hisR ?_
  intro p e s m args below meth c s₁ Bd hml0 hP hK
  obtain ⟨rfl, hZ, hh⟩ := hP
  have hx := Bd.exec
  have hby := Bd.bytes
  have hml : c.maxLocals = 8 := hml0
  have hown : s.vm.findClass "com/example/frigg/frigg/engine/BoolValueOfPinLaw" = some m.cls := findClass_of_methodNamed Bd.named
  have hnm := (name_of_methodNamed Bd.named Bd.method).1
  have X0 : Stand p l e room_1 s m #[(.int p1)] below meth c s₁ [] 0 0 := Stand.of_body Bd
  have e0 : s₁.heap = h0 := by rw [← hh, Bd.state]; rfl
  have N0 := Fr.nil n0
  have hlk := Bd.notSynchronized
  have hret := Bd.returns
  show OGo p e below (OEnd s (Q_law Z p1 aT aF h0 n0) room_1.cells room_1.slots) (s₁.setTop (entryFrame m #[(.int p1)] maxLocals))
  rw [ef_law]
  show OGo p e below _ (s₁.setTop (mkF m 0 #[.val (.int p1), .unset, .unset, .unset, .unset, .unset, .unset, .unset] []))
  refine OGo.by_ (fun t k => XS.iloadN X0.here hx rfl (hb hby at_0) rfl k) ?_
  show OGo p e below _ (s₁.setTop (mkF m 1 #[.val (.int p1), .unset, .unset, .unset, .unset, .unset, .unset, .unset] [(.int p1)]))
  refine OGo.by_ (fun t k => XS.iconst X0.here hx rfl (hb hby at_1) k) ?_
  show OGo p e below _ (s₁.setTop (mkF m 2 #[.val (.int p1), .unset, .unset, .unset, .unset, .unset, .unset, .unset] [(.int (1 : Int32)), (.int p1)]))
  refine OGo.by_ (fun t k => XS.iand X0.here hx rfl (hb hby at_2) rfl k) ?_
  show OGo p e below _ (s₁.setTop (mkF m 3 #[.val (.int p1), .unset, .unset, .unset, .unset, .unset, .unset, .unset] [(.int (p1 &&& (1 : Int32)))]))
  by_cases hc3 : (p1 &&& (1 : Int32)) = (0 : Int32)
  · refine OGo.by_ (fun t k => XS.ifYes X0.here hx rfl (pc0 := 3) (pc' := 10) rfl (hb hby at_3) rfl ((if0 _ _).trans (teq hc3).1) (by decide) (by decide) k) ?_
    show OGo p e below _ (s₁.setTop (mkF m 10 #[.val (.int p1), .unset, .unset, .unset, .unset, .unset, .unset, .unset] []))
    refine OGo.by_ (fun t k => XS.iconst X0.here hx rfl (hb hby at_10) k) ?_
    show OGo p e below _ (s₁.setTop (mkF m 11 #[.val (.int p1), .unset, .unset, .unset, .unset, .unset, .unset, .unset] [(.int (0 : Int32))]))
    refine OGo.by_ (fun t k => XS.istoreN X0.here hx rfl (hb hby at_11) rfl (l' := #[.val (.int p1), .val (.int (0 : Int32)), .unset, .unset, .unset, .unset, .unset, .unset]) rfl k) ?_
    show OGo p e below _ (s₁.setTop (mkF m 12 #[.val (.int p1), .val (.int (0 : Int32)), .unset, .unset, .unset, .unset, .unset, .unset] []))
    refine OGo.by_ (fun t k => XS.iloadN X0.here hx rfl (hb hby at_12) rfl k) ?_
    show OGo p e below _ (s₁.setTop (mkF m 13 #[.val (.int p1), .val (.int (0 : Int32)), .unset, .unset, .unset, .unset, .unset, .unset] [(.int (0 : Int32))]))
    obtain ⟨_, _, ⟨T1, L1, k1, n1⟩, -, X1, ⟨Lc1, hQ1, l1, y1, z1⟩, st1⟩ := Jvm.LawKit.callS X0 hx (y := (⟨"com/example/frigg/frigg/engine/BoolValue", "of", "(Z)Lcom/example/frigg/frigg/engine/BoolValue;"⟩ : MethodName)) hown (mvT hZ (hw _ (List.mem_of_getElem? (i := 0) rfl))) (mvT hZ (hw _ (List.mem_of_getElem? (i := 1) rfl))) (mvT hZ (hw _ (List.mem_of_getElem? (i := 2) rfl))) (mvT hZ (hw _ (List.mem_of_getElem? (i := 3) rfl))) (by decide) (backOf (W := 0) (rm_of l Z a0 hw [] (0 : Int32) aT aF h0 n0 Z0 ST SF) hZ (hw _ (List.mem_of_getElem? (i := 3) rfl)) (hw _ (List.mem_of_getElem? (i := 2) rfl)) (by decide) (by decide)) (g := (mkF m 13 #[.val (.int p1), .val (.int (0 : Int32)), .unset, .unset, .unset, .unset, .unset, .unset] [(.int (0 : Int32))])) rfl (by rw [hml]; rfl) (argsL := [(.int (0 : Int32))]) (rest := []) (lenOf pd_oZcLcom_example_frigg_frigg_engine_BoolValue_ rfl) rfl (by show 2 * 0 + _ ≤ _; exact Nat.le_of_eq rfl) (hb hby at_13) (fun _ _ => ⟨rfl, e0, (by decide : 0 + 0 ≤ _), (by decide : 0 + 0 ≤ _)⟩)
    dsimp only [Pt.U, Pt.locs, Pt.cells, Pt.slots] at X1 l1 y1 z1 st1 hQ1
    subst l1 y1 z1
    obtain ⟨rfl, Nq1, eq1⟩ := hQ1
    have N1 := Fr.app N0 Nq1
    refine OGo.by_ st1 ?_
    show OGo p e below _ (T1.setTop (mkF m 16 #[.val (.int p1), .val (.int (0 : Int32)), .unset, .unset, .unset, .unset, .unset, .unset] [(.ref aF)]))
    refine OGo.by_ (fun t k => XS.astoreN X1.here hx rfl (hb hby at_16) rfl rfl (l' := #[.val (.int p1), .val (.int (0 : Int32)), .val (.ref aF), .unset, .unset, .unset, .unset, .unset]) rfl k) ?_
    show OGo p e below _ (T1.setTop (mkF m 17 #[.val (.int p1), .val (.int (0 : Int32)), .val (.ref aF), .unset, .unset, .unset, .unset, .unset] []))
    refine OGo.by_ (fun t k => XS.iloadN X1.here hx rfl (hb hby at_17) rfl k) ?_
    show OGo p e below _ (T1.setTop (mkF m 18 #[.val (.int p1), .val (.int (0 : Int32)), .val (.ref aF), .unset, .unset, .unset, .unset, .unset] [(.int (0 : Int32))]))
    obtain ⟨_, _, ⟨T2, L2, k2, n2⟩, -, X2, ⟨Lc2, hQ2, l2, y2, z2⟩, st2⟩ := Jvm.LawKit.callS X1 hx (y := (⟨"com/example/frigg/frigg/engine/BoolValue", "of", "(Z)Lcom/example/frigg/frigg/engine/BoolValue;"⟩ : MethodName)) hown (mvT hZ (hw _ (List.mem_of_getElem? (i := 0) rfl))) (mvT hZ (hw _ (List.mem_of_getElem? (i := 1) rfl))) (mvT hZ (hw _ (List.mem_of_getElem? (i := 2) rfl))) (mvT hZ (hw _ (List.mem_of_getElem? (i := 3) rfl))) (by decide) (backOf (W := 0) (rm_of l Z a0 hw [] (0 : Int32) aT aF h0 n0 Z0 ST SF) hZ (hw _ (List.mem_of_getElem? (i := 3) rfl)) (hw _ (List.mem_of_getElem? (i := 2) rfl)) (by decide) (by decide)) (g := (mkF m 18 #[.val (.int p1), .val (.int (0 : Int32)), .val (.ref aF), .unset, .unset, .unset, .unset, .unset] [(.int (0 : Int32))])) rfl (by rw [hml]; rfl) (argsL := [(.int (0 : Int32))]) (rest := []) (lenOf pd_oZcLcom_example_frigg_frigg_engine_BoolValue_ rfl) rfl (by show 2 * 0 + _ ≤ _; exact Nat.le_of_eq rfl) (hb hby at_18) (fun _ _ => ⟨rfl, eq1, (by decide : 0 + 0 ≤ _), (by decide : 0 + 0 ≤ _)⟩)
    dsimp only [Pt.U, Pt.locs, Pt.cells, Pt.slots] at X2 l2 y2 z2 st2 hQ2
    subst l2 y2 z2
    obtain ⟨rfl, Nq2, eq2⟩ := hQ2
    have N2 := Fr.app N1 Nq2
    refine OGo.by_ st2 ?_
    show OGo p e below _ (T2.setTop (mkF m 21 #[.val (.int p1), .val (.int (0 : Int32)), .val (.ref aF), .unset, .unset, .unset, .unset, .unset] [(.ref aF)]))
    refine OGo.by_ (fun t k => XS.astoreN X2.here hx rfl (hb hby at_21) rfl rfl (l' := #[.val (.int p1), .val (.int (0 : Int32)), .val (.ref aF), .val (.ref aF), .unset, .unset, .unset, .unset]) rfl k) ?_
    show OGo p e below _ (T2.setTop (mkF m 22 #[.val (.int p1), .val (.int (0 : Int32)), .val (.ref aF), .val (.ref aF), .unset, .unset, .unset, .unset] []))
    refine OGo.by_ (fun t k => XS.aloadN X2.here hx rfl (hb hby at_22) rfl rfl k) ?_
    show OGo p e below _ (T2.setTop (mkF m 23 #[.val (.int p1), .val (.int (0 : Int32)), .val (.ref aF), .val (.ref aF), .unset, .unset, .unset, .unset] [(.ref aF)]))
    refine OGo.by_ (fun t k => XS.ifnonnullYes X2.here hx rfl (pc0 := 23) (pc' := 28) rfl (hb hby at_23) rfl (by decide) (by decide) k) ?_
    show OGo p e below _ (T2.setTop (mkF m 28 #[.val (.int p1), .val (.int (0 : Int32)), .val (.ref aF), .val (.ref aF), .unset, .unset, .unset, .unset] []))
    refine OGo.by_ (fun t k => XS.aloadN X2.here hx rfl (hb hby at_28) rfl rfl k) ?_
    show OGo p e below _ (T2.setTop (mkF m 29 #[.val (.int p1), .val (.int (0 : Int32)), .val (.ref aF), .val (.ref aF), .unset, .unset, .unset, .unset] [(.ref aF)]))
    obtain ⟨cq4, kq4, qa4, qb4, qc4⟩ := isOf hZ eq2 E0
    obtain ⟨_, _, ⟨T3, L3, k3, n3⟩, -, X3, ⟨Lc3, hQ3, l3, y3, z3⟩, st3⟩ := X2.virtualBack hx (y := (⟨"com/example/frigg/frigg/engine/BoolValue", "value", "()Z"⟩ : MethodName)) (z := (⟨"com/example/frigg/frigg/engine/BoolValue", "value", "()Z"⟩ : MethodName)) hown (mvT hZ (hw _ (List.mem_of_getElem? (i := 6) rfl))) (mvT hZ (hw _ (List.mem_of_getElem? (i := 7) rfl))) (notFace_of_selects (args := #[]) (mvT hZ (hw _ (List.mem_of_getElem? (i := 9) rfl)))) (mvT hZ (hw _ (List.mem_of_getElem? (i := 9) rfl))) (mvT hZ (hw _ (List.mem_of_getElem? (i := 8) rfl))) (by decide) (backOf (W := 0) (rm_val l Z a0 hw [] aF (0 : Int32) h0 n0 Z0 V0) hZ (hw _ (List.mem_of_getElem? (i := 10) rfl)) (hw _ (List.mem_of_getElem? (i := 2) rfl)) (by decide) (by decide)) qa4 qc4 (g := (mkF m 29 #[.val (.int p1), .val (.int (0 : Int32)), .val (.ref aF), .val (.ref aF), .unset, .unset, .unset, .unset] [(.ref aF)])) rfl (by rw [hml]; rfl) (Steps.refl _) (argsL := []) (rest := []) (lenOf pd_ocZ rfl) rfl (by show 2 * 0 + _ ≤ _; exact Nat.le_of_eq rfl) (hb hby at_29) (fun _ _ => ⟨rfl, eq2, (by decide : 0 + 0 ≤ _), (by decide : 0 + 0 ≤ _)⟩)
    dsimp only [Pt.U, Pt.locs, Pt.cells, Pt.slots] at X3 l3 y3 z3 st3 hQ3
    subst l3 y3 z3
    obtain ⟨rfl, Nq3, eq3⟩ := hQ3
    have N3 := Fr.app N2 Nq3
    refine OGo.by_ (fun t k => st3.trans k) ?_
    show OGo p e below _ (T3.setTop (mkF m 32 #[.val (.int p1), .val (.int (0 : Int32)), .val (.ref aF), .val (.ref aF), .unset, .unset, .unset, .unset] [(.int (0 : Int32))]))
    refine OGo.by_ (fun t k => XS.iloadN X3.here hx rfl (hb hby at_32) rfl k) ?_
    show OGo p e below _ (T3.setTop (mkF m 33 #[.val (.int p1), .val (.int (0 : Int32)), .val (.ref aF), .val (.ref aF), .unset, .unset, .unset, .unset] [(.int (0 : Int32)), (.int (0 : Int32))]))
    refine OGo.by_ (fun t k => XS.icmpNo X3.here hx rfl (hb hby at_33) rfl (teq rfl).2 k) ?_
    show OGo p e below _ (T3.setTop (mkF m 36 #[.val (.int p1), .val (.int (0 : Int32)), .val (.ref aF), .val (.ref aF), .unset, .unset, .unset, .unset] []))
    refine OGo.by_ (fun t k => XS.iconst X3.here hx rfl (hb hby at_36) k) ?_
    show OGo p e below _ (T3.setTop (mkF m 37 #[.val (.int p1), .val (.int (0 : Int32)), .val (.ref aF), .val (.ref aF), .unset, .unset, .unset, .unset] [(.int (1 : Int32))]))
    refine OGo.by_ (fun t k => XS.goto X3.here hx rfl (pc0 := 37) (pc' := 41) rfl (hb hby at_37) (by decide) (by decide) k) ?_
    show OGo p e below _ (T3.setTop (mkF m 41 #[.val (.int p1), .val (.int (0 : Int32)), .val (.ref aF), .val (.ref aF), .unset, .unset, .unset, .unset] [(.int (1 : Int32))]))
    refine OGo.by_ (fun t k => XS.istore X3.here hx rfl (hb hby at_41) rfl (l' := #[.val (.int p1), .val (.int (0 : Int32)), .val (.ref aF), .val (.ref aF), .val (.int (1 : Int32)), .unset, .unset, .unset]) rfl k) ?_
    show OGo p e below _ (T3.setTop (mkF m 43 #[.val (.int p1), .val (.int (0 : Int32)), .val (.ref aF), .val (.ref aF), .val (.int (1 : Int32)), .unset, .unset, .unset] []))
    refine OGo.by_ (fun t k => XS.aloadN X3.here hx rfl (hb hby at_43) rfl rfl k) ?_
    show OGo p e below _ (T3.setTop (mkF m 44 #[.val (.int p1), .val (.int (0 : Int32)), .val (.ref aF), .val (.ref aF), .val (.int (1 : Int32)), .unset, .unset, .unset] [(.ref aF)]))
    refine OGo.by_ (fun t k => XS.aloadN X3.here hx rfl (hb hby at_44) rfl rfl k) ?_
    show OGo p e below _ (T3.setTop (mkF m 45 #[.val (.int p1), .val (.int (0 : Int32)), .val (.ref aF), .val (.ref aF), .val (.int (1 : Int32)), .unset, .unset, .unset] [(.ref aF), (.ref aF)]))
    refine OGo.by_ (fun t k => Jvm.RoadKit.acmp (g := (mkF m 45 #[.val (.int p1), .val (.int (0 : Int32)), .val (.ref aF), .val (.ref aF), .val (.int (1 : Int32)), .unset, .unset, .unset] [(.ref aF), (.ref aF)])) X3 hx rfl rfl rfl (pc0 := 45) (pc' := 48) (same := true) rfl (hb hby at_45) rfl (decide_eq_true rfl) (by decide) (by decide) k) ?_
    show OGo p e below _ (T3.setTop (mkF m 48 #[.val (.int p1), .val (.int (0 : Int32)), .val (.ref aF), .val (.ref aF), .val (.int (1 : Int32)), .unset, .unset, .unset] []))
    refine OGo.by_ (fun t k => XS.iconst X3.here hx rfl (hb hby at_48) k) ?_
    show OGo p e below _ (T3.setTop (mkF m 49 #[.val (.int p1), .val (.int (0 : Int32)), .val (.ref aF), .val (.ref aF), .val (.int (1 : Int32)), .unset, .unset, .unset] [(.int (1 : Int32))]))
    refine OGo.by_ (fun t k => XS.goto X3.here hx rfl (pc0 := 49) (pc' := 53) rfl (hb hby at_49) (by decide) (by decide) k) ?_
    show OGo p e below _ (T3.setTop (mkF m 53 #[.val (.int p1), .val (.int (0 : Int32)), .val (.ref aF), .val (.ref aF), .val (.int (1 : Int32)), .unset, .unset, .unset] [(.int (1 : Int32))]))
    refine OGo.by_ (fun t k => XS.istore X3.here hx rfl (hb hby at_53) rfl (l' := #[.val (.int p1), .val (.int (0 : Int32)), .val (.ref aF), .val (.ref aF), .val (.int (1 : Int32)), .val (.int (1 : Int32)), .unset, .unset]) rfl k) ?_
    show OGo p e below _ (T3.setTop (mkF m 55 #[.val (.int p1), .val (.int (0 : Int32)), .val (.ref aF), .val (.ref aF), .val (.int (1 : Int32)), .val (.int (1 : Int32)), .unset, .unset] []))
    refine OGo.by_ (fun t k => XS.aloadN X3.here hx rfl (hb hby at_55) rfl rfl k) ?_
    show OGo p e below _ (T3.setTop (mkF m 56 #[.val (.int p1), .val (.int (0 : Int32)), .val (.ref aF), .val (.ref aF), .val (.int (1 : Int32)), .val (.int (1 : Int32)), .unset, .unset] [(.ref aF)]))
    obtain ⟨T5, X5, e5, st5⟩ := getS X3 hx hZ hown (host := "") (hw _ (List.mem_of_getElem? (i := 13) rfl)) Via.refl eq3 ST (g := (mkF m 56 #[.val (.int p1), .val (.int (0 : Int32)), .val (.ref aF), .val (.ref aF), .val (.int (1 : Int32)), .val (.int (1 : Int32)), .unset, .unset] [(.ref aF)])) rfl (hb hby at_56)
    refine OGo.by_ st5 ?_
    show OGo p e below _ (T5.setTop (mkF m 59 #[.val (.int p1), .val (.int (0 : Int32)), .val (.ref aF), .val (.ref aF), .val (.int (1 : Int32)), .val (.int (1 : Int32)), .unset, .unset] [(.ref aT), (.ref aF)]))
    refine OGo.by_ (fun t k => Jvm.RoadKit.acmp (g := (mkF m 59 #[.val (.int p1), .val (.int (0 : Int32)), .val (.ref aF), .val (.ref aF), .val (.int (1 : Int32)), .val (.int (1 : Int32)), .unset, .unset] [(.ref aT), (.ref aF)])) X5 hx rfl rfl rfl (pc0 := 59) (pc' := 66) (same := false) rfl (hb hby at_59) rfl (decide_eq_false fun q => hne (Value.ref.inj q)) (by decide) (by decide) k) ?_
    show OGo p e below _ (T5.setTop (mkF m 66 #[.val (.int p1), .val (.int (0 : Int32)), .val (.ref aF), .val (.ref aF), .val (.int (1 : Int32)), .val (.int (1 : Int32)), .unset, .unset] []))
    refine OGo.by_ (fun t k => XS.iconst X5.here hx rfl (hb hby at_66) k) ?_
    show OGo p e below _ (T5.setTop (mkF m 67 #[.val (.int p1), .val (.int (0 : Int32)), .val (.ref aF), .val (.ref aF), .val (.int (1 : Int32)), .val (.int (1 : Int32)), .unset, .unset] [(.int (0 : Int32))]))
    refine OGo.by_ (fun t k => XS.iloadN X5.here hx rfl (hb hby at_67) rfl k) ?_
    show OGo p e below _ (T5.setTop (mkF m 68 #[.val (.int p1), .val (.int (0 : Int32)), .val (.ref aF), .val (.ref aF), .val (.int (1 : Int32)), .val (.int (1 : Int32)), .unset, .unset] [(.int (0 : Int32)), (.int (0 : Int32))]))
    refine OGo.by_ (fun t k => XS.icmpNo X5.here hx rfl (hb hby at_68) rfl (teq rfl).2 k) ?_
    show OGo p e below _ (T5.setTop (mkF m 71 #[.val (.int p1), .val (.int (0 : Int32)), .val (.ref aF), .val (.ref aF), .val (.int (1 : Int32)), .val (.int (1 : Int32)), .unset, .unset] []))
    refine OGo.by_ (fun t k => XS.iconst X5.here hx rfl (hb hby at_71) k) ?_
    show OGo p e below _ (T5.setTop (mkF m 72 #[.val (.int p1), .val (.int (0 : Int32)), .val (.ref aF), .val (.ref aF), .val (.int (1 : Int32)), .val (.int (1 : Int32)), .unset, .unset] [(.int (1 : Int32))]))
    refine OGo.by_ (fun t k => XS.goto X5.here hx rfl (pc0 := 72) (pc' := 76) rfl (hb hby at_72) (by decide) (by decide) k) ?_
    show OGo p e below _ (T5.setTop (mkF m 76 #[.val (.int p1), .val (.int (0 : Int32)), .val (.ref aF), .val (.ref aF), .val (.int (1 : Int32)), .val (.int (1 : Int32)), .unset, .unset] [(.int (1 : Int32))]))
    refine OGo.by_ (fun t k => XS.istore X5.here hx rfl (hb hby at_76) rfl (l' := #[.val (.int p1), .val (.int (0 : Int32)), .val (.ref aF), .val (.ref aF), .val (.int (1 : Int32)), .val (.int (1 : Int32)), .val (.int (1 : Int32)), .unset]) rfl k) ?_
    show OGo p e below _ (T5.setTop (mkF m 78 #[.val (.int p1), .val (.int (0 : Int32)), .val (.ref aF), .val (.ref aF), .val (.int (1 : Int32)), .val (.int (1 : Int32)), .val (.int (1 : Int32)), .unset] []))
    refine OGo.by_ (fun t k => XS.aloadN X5.here hx rfl (hb hby at_78) rfl rfl k) ?_
    show OGo p e below _ (T5.setTop (mkF m 79 #[.val (.int p1), .val (.int (0 : Int32)), .val (.ref aF), .val (.ref aF), .val (.int (1 : Int32)), .val (.int (1 : Int32)), .val (.int (1 : Int32)), .unset] [(.ref aF)]))
    obtain ⟨T6, X6, e6, st6⟩ := getS X5 hx hZ hown (host := "") (hw _ (List.mem_of_getElem? (i := 15) rfl)) Via.refl e5 SF (g := (mkF m 79 #[.val (.int p1), .val (.int (0 : Int32)), .val (.ref aF), .val (.ref aF), .val (.int (1 : Int32)), .val (.int (1 : Int32)), .val (.int (1 : Int32)), .unset] [(.ref aF)])) rfl (hb hby at_79)
    refine OGo.by_ st6 ?_
    show OGo p e below _ (T6.setTop (mkF m 82 #[.val (.int p1), .val (.int (0 : Int32)), .val (.ref aF), .val (.ref aF), .val (.int (1 : Int32)), .val (.int (1 : Int32)), .val (.int (1 : Int32)), .unset] [(.ref aF), (.ref aF)]))
    refine OGo.by_ (fun t k => Jvm.RoadKit.acmp (g := (mkF m 82 #[.val (.int p1), .val (.int (0 : Int32)), .val (.ref aF), .val (.ref aF), .val (.int (1 : Int32)), .val (.int (1 : Int32)), .val (.int (1 : Int32)), .unset] [(.ref aF), (.ref aF)])) X6 hx rfl rfl rfl (pc0 := 82) (pc' := 85) (same := true) rfl (hb hby at_82) rfl (decide_eq_true rfl) (by decide) (by decide) k) ?_
    show OGo p e below _ (T6.setTop (mkF m 85 #[.val (.int p1), .val (.int (0 : Int32)), .val (.ref aF), .val (.ref aF), .val (.int (1 : Int32)), .val (.int (1 : Int32)), .val (.int (1 : Int32)), .unset] []))
    refine OGo.by_ (fun t k => XS.iconst X6.here hx rfl (hb hby at_85) k) ?_
    show OGo p e below _ (T6.setTop (mkF m 86 #[.val (.int p1), .val (.int (0 : Int32)), .val (.ref aF), .val (.ref aF), .val (.int (1 : Int32)), .val (.int (1 : Int32)), .val (.int (1 : Int32)), .unset] [(.int (1 : Int32))]))
    refine OGo.by_ (fun t k => XS.goto X6.here hx rfl (pc0 := 86) (pc' := 90) rfl (hb hby at_86) (by decide) (by decide) k) ?_
    show OGo p e below _ (T6.setTop (mkF m 90 #[.val (.int p1), .val (.int (0 : Int32)), .val (.ref aF), .val (.ref aF), .val (.int (1 : Int32)), .val (.int (1 : Int32)), .val (.int (1 : Int32)), .unset] [(.int (1 : Int32))]))
    refine OGo.by_ (fun t k => XS.iloadN X6.here hx rfl (hb hby at_90) rfl k) ?_
    show OGo p e below _ (T6.setTop (mkF m 91 #[.val (.int p1), .val (.int (0 : Int32)), .val (.ref aF), .val (.ref aF), .val (.int (1 : Int32)), .val (.int (1 : Int32)), .val (.int (1 : Int32)), .unset] [(.int (0 : Int32)), (.int (1 : Int32))]))
    refine OGo.by_ (fun t k => XS.ifNo X6.here hx rfl (hb hby at_91) rfl ((if0 _ _).trans (teq rfl).2) k) ?_
    show OGo p e below _ (T6.setTop (mkF m 94 #[.val (.int p1), .val (.int (0 : Int32)), .val (.ref aF), .val (.ref aF), .val (.int (1 : Int32)), .val (.int (1 : Int32)), .val (.int (1 : Int32)), .unset] [(.int (1 : Int32))]))
    refine OGo.by_ (fun t k => XS.iconst X6.here hx rfl (hb hby at_94) k) ?_
    show OGo p e below _ (T6.setTop (mkF m 95 #[.val (.int p1), .val (.int (0 : Int32)), .val (.ref aF), .val (.ref aF), .val (.int (1 : Int32)), .val (.int (1 : Int32)), .val (.int (1 : Int32)), .unset] [(.int (1 : Int32)), (.int (1 : Int32))]))
    refine OGo.by_ (fun t k => XS.goto X6.here hx rfl (pc0 := 95) (pc' := 99) rfl (hb hby at_95) (by decide) (by decide) k) ?_
    show OGo p e below _ (T6.setTop (mkF m 99 #[.val (.int p1), .val (.int (0 : Int32)), .val (.ref aF), .val (.ref aF), .val (.int (1 : Int32)), .val (.int (1 : Int32)), .val (.int (1 : Int32)), .unset] [(.int (1 : Int32)), (.int (1 : Int32))]))
    refine OGo.by_ (fun t k => XS.icmpNo X6.here hx rfl (hb hby at_99) rfl (teq rfl).2 k) ?_
    show OGo p e below _ (T6.setTop (mkF m 102 #[.val (.int p1), .val (.int (0 : Int32)), .val (.ref aF), .val (.ref aF), .val (.int (1 : Int32)), .val (.int (1 : Int32)), .val (.int (1 : Int32)), .unset] []))
    refine OGo.by_ (fun t k => XS.iconst X6.here hx rfl (hb hby at_102) k) ?_
    show OGo p e below _ (T6.setTop (mkF m 103 #[.val (.int p1), .val (.int (0 : Int32)), .val (.ref aF), .val (.ref aF), .val (.int (1 : Int32)), .val (.int (1 : Int32)), .val (.int (1 : Int32)), .unset] [(.int (1 : Int32))]))
    refine OGo.by_ (fun t k => XS.goto X6.here hx rfl (pc0 := 103) (pc' := 107) rfl (hb hby at_103) (by decide) (by decide) k) ?_
    show OGo p e below _ (T6.setTop (mkF m 107 #[.val (.int p1), .val (.int (0 : Int32)), .val (.ref aF), .val (.ref aF), .val (.int (1 : Int32)), .val (.int (1 : Int32)), .val (.int (1 : Int32)), .unset] [(.int (1 : Int32))]))
    refine OGo.by_ (fun t k => XS.istore X6.here hx rfl (hb hby at_107) rfl (l' := #[.val (.int p1), .val (.int (0 : Int32)), .val (.ref aF), .val (.ref aF), .val (.int (1 : Int32)), .val (.int (1 : Int32)), .val (.int (1 : Int32)), .val (.int (1 : Int32))]) rfl k) ?_
    show OGo p e below _ (T6.setTop (mkF m 109 #[.val (.int p1), .val (.int (0 : Int32)), .val (.ref aF), .val (.ref aF), .val (.int (1 : Int32)), .val (.int (1 : Int32)), .val (.int (1 : Int32)), .val (.int (1 : Int32))] []))
    refine OGo.by_ (fun t k => XS.iload X6.here hx rfl (hb hby at_109) rfl k) ?_
    show OGo p e below _ (T6.setTop (mkF m 111 #[.val (.int p1), .val (.int (0 : Int32)), .val (.ref aF), .val (.ref aF), .val (.int (1 : Int32)), .val (.int (1 : Int32)), .val (.int (1 : Int32)), .val (.int (1 : Int32))] [(.int (1 : Int32))]))
    refine OGo.by_ (fun t k => XS.ifNo X6.here hx rfl (hb hby at_111) rfl ((if0 _ _).trans (feq (by decide)).1) k) ?_
    show OGo p e below _ (T6.setTop (mkF m 114 #[.val (.int p1), .val (.int (0 : Int32)), .val (.ref aF), .val (.ref aF), .val (.int (1 : Int32)), .val (.int (1 : Int32)), .val (.int (1 : Int32)), .val (.int (1 : Int32))] []))
    refine OGo.by_ (fun t k => XS.iload X6.here hx rfl (hb hby at_114) rfl k) ?_
    show OGo p e below _ (T6.setTop (mkF m 116 #[.val (.int p1), .val (.int (0 : Int32)), .val (.ref aF), .val (.ref aF), .val (.int (1 : Int32)), .val (.int (1 : Int32)), .val (.int (1 : Int32)), .val (.int (1 : Int32))] [(.int (1 : Int32))]))
    refine OGo.by_ (fun t k => XS.ifNo X6.here hx rfl (hb hby at_116) rfl ((if0 _ _).trans (feq (by decide)).1) k) ?_
    show OGo p e below _ (T6.setTop (mkF m 119 #[.val (.int p1), .val (.int (0 : Int32)), .val (.ref aF), .val (.ref aF), .val (.int (1 : Int32)), .val (.int (1 : Int32)), .val (.int (1 : Int32)), .val (.int (1 : Int32))] []))
    refine OGo.by_ (fun t k => XS.iload X6.here hx rfl (hb hby at_119) rfl k) ?_
    show OGo p e below _ (T6.setTop (mkF m 121 #[.val (.int p1), .val (.int (0 : Int32)), .val (.ref aF), .val (.ref aF), .val (.int (1 : Int32)), .val (.int (1 : Int32)), .val (.int (1 : Int32)), .val (.int (1 : Int32))] [(.int (1 : Int32))]))
    refine OGo.by_ (fun t k => XS.ifNo X6.here hx rfl (hb hby at_121) rfl ((if0 _ _).trans (feq (by decide)).1) k) ?_
    show OGo p e below _ (T6.setTop (mkF m 124 #[.val (.int p1), .val (.int (0 : Int32)), .val (.ref aF), .val (.ref aF), .val (.int (1 : Int32)), .val (.int (1 : Int32)), .val (.int (1 : Int32)), .val (.int (1 : Int32))] []))
    refine OGo.by_ (fun t k => XS.iload X6.here hx rfl (hb hby at_124) rfl k) ?_
    show OGo p e below _ (T6.setTop (mkF m 126 #[.val (.int p1), .val (.int (0 : Int32)), .val (.ref aF), .val (.ref aF), .val (.int (1 : Int32)), .val (.int (1 : Int32)), .val (.int (1 : Int32)), .val (.int (1 : Int32))] [(.int (1 : Int32))]))
    refine OGo.by_ (fun t k => XS.ifNo X6.here hx rfl (hb hby at_126) rfl ((if0 _ _).trans (feq (by decide)).1) k) ?_
    show OGo p e below _ (T6.setTop (mkF m 129 #[.val (.int p1), .val (.int (0 : Int32)), .val (.ref aF), .val (.ref aF), .val (.int (1 : Int32)), .val (.int (1 : Int32)), .val (.int (1 : Int32)), .val (.int (1 : Int32))] []))
    refine OGo.by_ (fun t k => XS.iconst X6.here hx rfl (hb hby at_129) k) ?_
    show OGo p e below _ (T6.setTop (mkF m 130 #[.val (.int p1), .val (.int (0 : Int32)), .val (.ref aF), .val (.ref aF), .val (.int (1 : Int32)), .val (.int (1 : Int32)), .val (.int (1 : Int32)), .val (.int (1 : Int32))] [(.int (1 : Int32))]))
    refine OGo.by_ (fun t k => XS.goto X6.here hx rfl (pc0 := 130) (pc' := 134) rfl (hb hby at_130) (by decide) (by decide) k) ?_
    show OGo p e below _ (T6.setTop (mkF m 134 #[.val (.int p1), .val (.int (0 : Int32)), .val (.ref aF), .val (.ref aF), .val (.int (1 : Int32)), .val (.int (1 : Int32)), .val (.int (1 : Int32)), .val (.int (1 : Int32))] [(.int (1 : Int32))]))
    exact own_retN X6 hx hlk (t := .boolean) hret (by simp) (hb hby at_134) (by decide) (by decide) (⟨rfl, N3⟩)
  · refine OGo.by_ (fun t k => XS.ifNo X0.here hx rfl (hb hby at_3) rfl ((if0 _ _).trans (feq hc3).1) k) ?_
    show OGo p e below _ (s₁.setTop (mkF m 6 #[.val (.int p1), .unset, .unset, .unset, .unset, .unset, .unset, .unset] []))
    refine OGo.by_ (fun t k => XS.iconst X0.here hx rfl (hb hby at_6) k) ?_
    show OGo p e below _ (s₁.setTop (mkF m 7 #[.val (.int p1), .unset, .unset, .unset, .unset, .unset, .unset, .unset] [(.int (1 : Int32))]))
    refine OGo.by_ (fun t k => XS.goto X0.here hx rfl (pc0 := 7) (pc' := 11) rfl (hb hby at_7) (by decide) (by decide) k) ?_
    show OGo p e below _ (s₁.setTop (mkF m 11 #[.val (.int p1), .unset, .unset, .unset, .unset, .unset, .unset, .unset] [(.int (1 : Int32))]))
    refine OGo.by_ (fun t k => XS.istoreN X0.here hx rfl (hb hby at_11) rfl (l' := #[.val (.int p1), .val (.int (1 : Int32)), .unset, .unset, .unset, .unset, .unset, .unset]) rfl k) ?_
    show OGo p e below _ (s₁.setTop (mkF m 12 #[.val (.int p1), .val (.int (1 : Int32)), .unset, .unset, .unset, .unset, .unset, .unset] []))
    refine OGo.by_ (fun t k => XS.iloadN X0.here hx rfl (hb hby at_12) rfl k) ?_
    show OGo p e below _ (s₁.setTop (mkF m 13 #[.val (.int p1), .val (.int (1 : Int32)), .unset, .unset, .unset, .unset, .unset, .unset] [(.int (1 : Int32))]))
    obtain ⟨_, _, ⟨T7, L7, k7, n7⟩, -, X7, ⟨Lc7, hQ7, l7, y7, z7⟩, st7⟩ := Jvm.LawKit.callS X0 hx (y := (⟨"com/example/frigg/frigg/engine/BoolValue", "of", "(Z)Lcom/example/frigg/frigg/engine/BoolValue;"⟩ : MethodName)) hown (mvT hZ (hw _ (List.mem_of_getElem? (i := 0) rfl))) (mvT hZ (hw _ (List.mem_of_getElem? (i := 1) rfl))) (mvT hZ (hw _ (List.mem_of_getElem? (i := 2) rfl))) (mvT hZ (hw _ (List.mem_of_getElem? (i := 3) rfl))) (by decide) (backOf (W := 0) (rm_of l Z a0 hw [] (1 : Int32) aT aF h0 n0 Z0 ST SF) hZ (hw _ (List.mem_of_getElem? (i := 3) rfl)) (hw _ (List.mem_of_getElem? (i := 2) rfl)) (by decide) (by decide)) (g := (mkF m 13 #[.val (.int p1), .val (.int (1 : Int32)), .unset, .unset, .unset, .unset, .unset, .unset] [(.int (1 : Int32))])) rfl (by rw [hml]; rfl) (argsL := [(.int (1 : Int32))]) (rest := []) (lenOf pd_oZcLcom_example_frigg_frigg_engine_BoolValue_ rfl) rfl (by show 2 * 0 + _ ≤ _; exact Nat.le_of_eq rfl) (hb hby at_13) (fun _ _ => ⟨rfl, e0, (by decide : 0 + 0 ≤ _), (by decide : 0 + 0 ≤ _)⟩)
    dsimp only [Pt.U, Pt.locs, Pt.cells, Pt.slots] at X7 l7 y7 z7 st7 hQ7
    subst l7 y7 z7
    obtain ⟨rfl, Nq7, eq7⟩ := hQ7
    have N7 := Fr.app N0 Nq7
    refine OGo.by_ st7 ?_
    show OGo p e below _ (T7.setTop (mkF m 16 #[.val (.int p1), .val (.int (1 : Int32)), .unset, .unset, .unset, .unset, .unset, .unset] [(.ref aT)]))
    refine OGo.by_ (fun t k => XS.astoreN X7.here hx rfl (hb hby at_16) rfl rfl (l' := #[.val (.int p1), .val (.int (1 : Int32)), .val (.ref aT), .unset, .unset, .unset, .unset, .unset]) rfl k) ?_
    show OGo p e below _ (T7.setTop (mkF m 17 #[.val (.int p1), .val (.int (1 : Int32)), .val (.ref aT), .unset, .unset, .unset, .unset, .unset] []))
    refine OGo.by_ (fun t k => XS.iloadN X7.here hx rfl (hb hby at_17) rfl k) ?_
    show OGo p e below _ (T7.setTop (mkF m 18 #[.val (.int p1), .val (.int (1 : Int32)), .val (.ref aT), .unset, .unset, .unset, .unset, .unset] [(.int (1 : Int32))]))
    obtain ⟨_, _, ⟨T8, L8, k8, n8⟩, -, X8, ⟨Lc8, hQ8, l8, y8, z8⟩, st8⟩ := Jvm.LawKit.callS X7 hx (y := (⟨"com/example/frigg/frigg/engine/BoolValue", "of", "(Z)Lcom/example/frigg/frigg/engine/BoolValue;"⟩ : MethodName)) hown (mvT hZ (hw _ (List.mem_of_getElem? (i := 0) rfl))) (mvT hZ (hw _ (List.mem_of_getElem? (i := 1) rfl))) (mvT hZ (hw _ (List.mem_of_getElem? (i := 2) rfl))) (mvT hZ (hw _ (List.mem_of_getElem? (i := 3) rfl))) (by decide) (backOf (W := 0) (rm_of l Z a0 hw [] (1 : Int32) aT aF h0 n0 Z0 ST SF) hZ (hw _ (List.mem_of_getElem? (i := 3) rfl)) (hw _ (List.mem_of_getElem? (i := 2) rfl)) (by decide) (by decide)) (g := (mkF m 18 #[.val (.int p1), .val (.int (1 : Int32)), .val (.ref aT), .unset, .unset, .unset, .unset, .unset] [(.int (1 : Int32))])) rfl (by rw [hml]; rfl) (argsL := [(.int (1 : Int32))]) (rest := []) (lenOf pd_oZcLcom_example_frigg_frigg_engine_BoolValue_ rfl) rfl (by show 2 * 0 + _ ≤ _; exact Nat.le_of_eq rfl) (hb hby at_18) (fun _ _ => ⟨rfl, eq7, (by decide : 0 + 0 ≤ _), (by decide : 0 + 0 ≤ _)⟩)
    dsimp only [Pt.U, Pt.locs, Pt.cells, Pt.slots] at X8 l8 y8 z8 st8 hQ8
    subst l8 y8 z8
    obtain ⟨rfl, Nq8, eq8⟩ := hQ8
    have N8 := Fr.app N7 Nq8
    refine OGo.by_ st8 ?_
    show OGo p e below _ (T8.setTop (mkF m 21 #[.val (.int p1), .val (.int (1 : Int32)), .val (.ref aT), .unset, .unset, .unset, .unset, .unset] [(.ref aT)]))
    refine OGo.by_ (fun t k => XS.astoreN X8.here hx rfl (hb hby at_21) rfl rfl (l' := #[.val (.int p1), .val (.int (1 : Int32)), .val (.ref aT), .val (.ref aT), .unset, .unset, .unset, .unset]) rfl k) ?_
    show OGo p e below _ (T8.setTop (mkF m 22 #[.val (.int p1), .val (.int (1 : Int32)), .val (.ref aT), .val (.ref aT), .unset, .unset, .unset, .unset] []))
    refine OGo.by_ (fun t k => XS.aloadN X8.here hx rfl (hb hby at_22) rfl rfl k) ?_
    show OGo p e below _ (T8.setTop (mkF m 23 #[.val (.int p1), .val (.int (1 : Int32)), .val (.ref aT), .val (.ref aT), .unset, .unset, .unset, .unset] [(.ref aT)]))
    refine OGo.by_ (fun t k => XS.ifnonnullYes X8.here hx rfl (pc0 := 23) (pc' := 28) rfl (hb hby at_23) rfl (by decide) (by decide) k) ?_
    show OGo p e below _ (T8.setTop (mkF m 28 #[.val (.int p1), .val (.int (1 : Int32)), .val (.ref aT), .val (.ref aT), .unset, .unset, .unset, .unset] []))
    refine OGo.by_ (fun t k => XS.aloadN X8.here hx rfl (hb hby at_28) rfl rfl k) ?_
    show OGo p e below _ (T8.setTop (mkF m 29 #[.val (.int p1), .val (.int (1 : Int32)), .val (.ref aT), .val (.ref aT), .unset, .unset, .unset, .unset] [(.ref aT)]))
    obtain ⟨cq10, kq10, qa10, qb10, qc10⟩ := isOf hZ eq8 E1
    obtain ⟨_, _, ⟨T9, L9, k9, n9⟩, -, X9, ⟨Lc9, hQ9, l9, y9, z9⟩, st9⟩ := X8.virtualBack hx (y := (⟨"com/example/frigg/frigg/engine/BoolValue", "value", "()Z"⟩ : MethodName)) (z := (⟨"com/example/frigg/frigg/engine/BoolValue", "value", "()Z"⟩ : MethodName)) hown (mvT hZ (hw _ (List.mem_of_getElem? (i := 6) rfl))) (mvT hZ (hw _ (List.mem_of_getElem? (i := 7) rfl))) (notFace_of_selects (args := #[]) (mvT hZ (hw _ (List.mem_of_getElem? (i := 9) rfl)))) (mvT hZ (hw _ (List.mem_of_getElem? (i := 9) rfl))) (mvT hZ (hw _ (List.mem_of_getElem? (i := 8) rfl))) (by decide) (backOf (W := 0) (rm_val l Z a0 hw [] aT (1 : Int32) h0 n0 Z0 V1) hZ (hw _ (List.mem_of_getElem? (i := 10) rfl)) (hw _ (List.mem_of_getElem? (i := 2) rfl)) (by decide) (by decide)) qa10 qc10 (g := (mkF m 29 #[.val (.int p1), .val (.int (1 : Int32)), .val (.ref aT), .val (.ref aT), .unset, .unset, .unset, .unset] [(.ref aT)])) rfl (by rw [hml]; rfl) (Steps.refl _) (argsL := []) (rest := []) (lenOf pd_ocZ rfl) rfl (by show 2 * 0 + _ ≤ _; exact Nat.le_of_eq rfl) (hb hby at_29) (fun _ _ => ⟨rfl, eq8, (by decide : 0 + 0 ≤ _), (by decide : 0 + 0 ≤ _)⟩)
    dsimp only [Pt.U, Pt.locs, Pt.cells, Pt.slots] at X9 l9 y9 z9 st9 hQ9
    subst l9 y9 z9
    obtain ⟨rfl, Nq9, eq9⟩ := hQ9
    have N9 := Fr.app N8 Nq9
    refine OGo.by_ (fun t k => st9.trans k) ?_
    show OGo p e below _ (T9.setTop (mkF m 32 #[.val (.int p1), .val (.int (1 : Int32)), .val (.ref aT), .val (.ref aT), .unset, .unset, .unset, .unset] [(.int (1 : Int32))]))
    refine OGo.by_ (fun t k => XS.iloadN X9.here hx rfl (hb hby at_32) rfl k) ?_
    show OGo p e below _ (T9.setTop (mkF m 33 #[.val (.int p1), .val (.int (1 : Int32)), .val (.ref aT), .val (.ref aT), .unset, .unset, .unset, .unset] [(.int (1 : Int32)), (.int (1 : Int32))]))
    refine OGo.by_ (fun t k => XS.icmpNo X9.here hx rfl (hb hby at_33) rfl (teq rfl).2 k) ?_
    show OGo p e below _ (T9.setTop (mkF m 36 #[.val (.int p1), .val (.int (1 : Int32)), .val (.ref aT), .val (.ref aT), .unset, .unset, .unset, .unset] []))
    refine OGo.by_ (fun t k => XS.iconst X9.here hx rfl (hb hby at_36) k) ?_
    show OGo p e below _ (T9.setTop (mkF m 37 #[.val (.int p1), .val (.int (1 : Int32)), .val (.ref aT), .val (.ref aT), .unset, .unset, .unset, .unset] [(.int (1 : Int32))]))
    refine OGo.by_ (fun t k => XS.goto X9.here hx rfl (pc0 := 37) (pc' := 41) rfl (hb hby at_37) (by decide) (by decide) k) ?_
    show OGo p e below _ (T9.setTop (mkF m 41 #[.val (.int p1), .val (.int (1 : Int32)), .val (.ref aT), .val (.ref aT), .unset, .unset, .unset, .unset] [(.int (1 : Int32))]))
    refine OGo.by_ (fun t k => XS.istore X9.here hx rfl (hb hby at_41) rfl (l' := #[.val (.int p1), .val (.int (1 : Int32)), .val (.ref aT), .val (.ref aT), .val (.int (1 : Int32)), .unset, .unset, .unset]) rfl k) ?_
    show OGo p e below _ (T9.setTop (mkF m 43 #[.val (.int p1), .val (.int (1 : Int32)), .val (.ref aT), .val (.ref aT), .val (.int (1 : Int32)), .unset, .unset, .unset] []))
    refine OGo.by_ (fun t k => XS.aloadN X9.here hx rfl (hb hby at_43) rfl rfl k) ?_
    show OGo p e below _ (T9.setTop (mkF m 44 #[.val (.int p1), .val (.int (1 : Int32)), .val (.ref aT), .val (.ref aT), .val (.int (1 : Int32)), .unset, .unset, .unset] [(.ref aT)]))
    refine OGo.by_ (fun t k => XS.aloadN X9.here hx rfl (hb hby at_44) rfl rfl k) ?_
    show OGo p e below _ (T9.setTop (mkF m 45 #[.val (.int p1), .val (.int (1 : Int32)), .val (.ref aT), .val (.ref aT), .val (.int (1 : Int32)), .unset, .unset, .unset] [(.ref aT), (.ref aT)]))
    refine OGo.by_ (fun t k => Jvm.RoadKit.acmp (g := (mkF m 45 #[.val (.int p1), .val (.int (1 : Int32)), .val (.ref aT), .val (.ref aT), .val (.int (1 : Int32)), .unset, .unset, .unset] [(.ref aT), (.ref aT)])) X9 hx rfl rfl rfl (pc0 := 45) (pc' := 48) (same := true) rfl (hb hby at_45) rfl (decide_eq_true rfl) (by decide) (by decide) k) ?_
    show OGo p e below _ (T9.setTop (mkF m 48 #[.val (.int p1), .val (.int (1 : Int32)), .val (.ref aT), .val (.ref aT), .val (.int (1 : Int32)), .unset, .unset, .unset] []))
    refine OGo.by_ (fun t k => XS.iconst X9.here hx rfl (hb hby at_48) k) ?_
    show OGo p e below _ (T9.setTop (mkF m 49 #[.val (.int p1), .val (.int (1 : Int32)), .val (.ref aT), .val (.ref aT), .val (.int (1 : Int32)), .unset, .unset, .unset] [(.int (1 : Int32))]))
    refine OGo.by_ (fun t k => XS.goto X9.here hx rfl (pc0 := 49) (pc' := 53) rfl (hb hby at_49) (by decide) (by decide) k) ?_
    show OGo p e below _ (T9.setTop (mkF m 53 #[.val (.int p1), .val (.int (1 : Int32)), .val (.ref aT), .val (.ref aT), .val (.int (1 : Int32)), .unset, .unset, .unset] [(.int (1 : Int32))]))
    refine OGo.by_ (fun t k => XS.istore X9.here hx rfl (hb hby at_53) rfl (l' := #[.val (.int p1), .val (.int (1 : Int32)), .val (.ref aT), .val (.ref aT), .val (.int (1 : Int32)), .val (.int (1 : Int32)), .unset, .unset]) rfl k) ?_
    show OGo p e below _ (T9.setTop (mkF m 55 #[.val (.int p1), .val (.int (1 : Int32)), .val (.ref aT), .val (.ref aT), .val (.int (1 : Int32)), .val (.int (1 : Int32)), .unset, .unset] []))
    refine OGo.by_ (fun t k => XS.aloadN X9.here hx rfl (hb hby at_55) rfl rfl k) ?_
    show OGo p e below _ (T9.setTop (mkF m 56 #[.val (.int p1), .val (.int (1 : Int32)), .val (.ref aT), .val (.ref aT), .val (.int (1 : Int32)), .val (.int (1 : Int32)), .unset, .unset] [(.ref aT)]))
    obtain ⟨T11, X11, e11, st11⟩ := getS X9 hx hZ hown (host := "") (hw _ (List.mem_of_getElem? (i := 13) rfl)) Via.refl eq9 ST (g := (mkF m 56 #[.val (.int p1), .val (.int (1 : Int32)), .val (.ref aT), .val (.ref aT), .val (.int (1 : Int32)), .val (.int (1 : Int32)), .unset, .unset] [(.ref aT)])) rfl (hb hby at_56)
    refine OGo.by_ st11 ?_
    show OGo p e below _ (T11.setTop (mkF m 59 #[.val (.int p1), .val (.int (1 : Int32)), .val (.ref aT), .val (.ref aT), .val (.int (1 : Int32)), .val (.int (1 : Int32)), .unset, .unset] [(.ref aT), (.ref aT)]))
    refine OGo.by_ (fun t k => Jvm.RoadKit.acmp (g := (mkF m 59 #[.val (.int p1), .val (.int (1 : Int32)), .val (.ref aT), .val (.ref aT), .val (.int (1 : Int32)), .val (.int (1 : Int32)), .unset, .unset] [(.ref aT), (.ref aT)])) X11 hx rfl rfl rfl (pc0 := 59) (pc' := 62) (same := true) rfl (hb hby at_59) rfl (decide_eq_true rfl) (by decide) (by decide) k) ?_
    show OGo p e below _ (T11.setTop (mkF m 62 #[.val (.int p1), .val (.int (1 : Int32)), .val (.ref aT), .val (.ref aT), .val (.int (1 : Int32)), .val (.int (1 : Int32)), .unset, .unset] []))
    refine OGo.by_ (fun t k => XS.iconst X11.here hx rfl (hb hby at_62) k) ?_
    show OGo p e below _ (T11.setTop (mkF m 63 #[.val (.int p1), .val (.int (1 : Int32)), .val (.ref aT), .val (.ref aT), .val (.int (1 : Int32)), .val (.int (1 : Int32)), .unset, .unset] [(.int (1 : Int32))]))
    refine OGo.by_ (fun t k => XS.goto X11.here hx rfl (pc0 := 63) (pc' := 67) rfl (hb hby at_63) (by decide) (by decide) k) ?_
    show OGo p e below _ (T11.setTop (mkF m 67 #[.val (.int p1), .val (.int (1 : Int32)), .val (.ref aT), .val (.ref aT), .val (.int (1 : Int32)), .val (.int (1 : Int32)), .unset, .unset] [(.int (1 : Int32))]))
    refine OGo.by_ (fun t k => XS.iloadN X11.here hx rfl (hb hby at_67) rfl k) ?_
    show OGo p e below _ (T11.setTop (mkF m 68 #[.val (.int p1), .val (.int (1 : Int32)), .val (.ref aT), .val (.ref aT), .val (.int (1 : Int32)), .val (.int (1 : Int32)), .unset, .unset] [(.int (1 : Int32)), (.int (1 : Int32))]))
    refine OGo.by_ (fun t k => XS.icmpNo X11.here hx rfl (hb hby at_68) rfl (teq rfl).2 k) ?_
    show OGo p e below _ (T11.setTop (mkF m 71 #[.val (.int p1), .val (.int (1 : Int32)), .val (.ref aT), .val (.ref aT), .val (.int (1 : Int32)), .val (.int (1 : Int32)), .unset, .unset] []))
    refine OGo.by_ (fun t k => XS.iconst X11.here hx rfl (hb hby at_71) k) ?_
    show OGo p e below _ (T11.setTop (mkF m 72 #[.val (.int p1), .val (.int (1 : Int32)), .val (.ref aT), .val (.ref aT), .val (.int (1 : Int32)), .val (.int (1 : Int32)), .unset, .unset] [(.int (1 : Int32))]))
    refine OGo.by_ (fun t k => XS.goto X11.here hx rfl (pc0 := 72) (pc' := 76) rfl (hb hby at_72) (by decide) (by decide) k) ?_
    show OGo p e below _ (T11.setTop (mkF m 76 #[.val (.int p1), .val (.int (1 : Int32)), .val (.ref aT), .val (.ref aT), .val (.int (1 : Int32)), .val (.int (1 : Int32)), .unset, .unset] [(.int (1 : Int32))]))
    refine OGo.by_ (fun t k => XS.istore X11.here hx rfl (hb hby at_76) rfl (l' := #[.val (.int p1), .val (.int (1 : Int32)), .val (.ref aT), .val (.ref aT), .val (.int (1 : Int32)), .val (.int (1 : Int32)), .val (.int (1 : Int32)), .unset]) rfl k) ?_
    show OGo p e below _ (T11.setTop (mkF m 78 #[.val (.int p1), .val (.int (1 : Int32)), .val (.ref aT), .val (.ref aT), .val (.int (1 : Int32)), .val (.int (1 : Int32)), .val (.int (1 : Int32)), .unset] []))
    refine OGo.by_ (fun t k => XS.aloadN X11.here hx rfl (hb hby at_78) rfl rfl k) ?_
    show OGo p e below _ (T11.setTop (mkF m 79 #[.val (.int p1), .val (.int (1 : Int32)), .val (.ref aT), .val (.ref aT), .val (.int (1 : Int32)), .val (.int (1 : Int32)), .val (.int (1 : Int32)), .unset] [(.ref aT)]))
    obtain ⟨T12, X12, e12, st12⟩ := getS X11 hx hZ hown (host := "") (hw _ (List.mem_of_getElem? (i := 15) rfl)) Via.refl e11 SF (g := (mkF m 79 #[.val (.int p1), .val (.int (1 : Int32)), .val (.ref aT), .val (.ref aT), .val (.int (1 : Int32)), .val (.int (1 : Int32)), .val (.int (1 : Int32)), .unset] [(.ref aT)])) rfl (hb hby at_79)
    refine OGo.by_ st12 ?_
    show OGo p e below _ (T12.setTop (mkF m 82 #[.val (.int p1), .val (.int (1 : Int32)), .val (.ref aT), .val (.ref aT), .val (.int (1 : Int32)), .val (.int (1 : Int32)), .val (.int (1 : Int32)), .unset] [(.ref aF), (.ref aT)]))
    refine OGo.by_ (fun t k => Jvm.RoadKit.acmp (g := (mkF m 82 #[.val (.int p1), .val (.int (1 : Int32)), .val (.ref aT), .val (.ref aT), .val (.int (1 : Int32)), .val (.int (1 : Int32)), .val (.int (1 : Int32)), .unset] [(.ref aF), (.ref aT)])) X12 hx rfl rfl rfl (pc0 := 82) (pc' := 89) (same := false) rfl (hb hby at_82) rfl (decide_eq_false fun q => hne (Value.ref.inj q).symm) (by decide) (by decide) k) ?_
    show OGo p e below _ (T12.setTop (mkF m 89 #[.val (.int p1), .val (.int (1 : Int32)), .val (.ref aT), .val (.ref aT), .val (.int (1 : Int32)), .val (.int (1 : Int32)), .val (.int (1 : Int32)), .unset] []))
    refine OGo.by_ (fun t k => XS.iconst X12.here hx rfl (hb hby at_89) k) ?_
    show OGo p e below _ (T12.setTop (mkF m 90 #[.val (.int p1), .val (.int (1 : Int32)), .val (.ref aT), .val (.ref aT), .val (.int (1 : Int32)), .val (.int (1 : Int32)), .val (.int (1 : Int32)), .unset] [(.int (0 : Int32))]))
    refine OGo.by_ (fun t k => XS.iloadN X12.here hx rfl (hb hby at_90) rfl k) ?_
    show OGo p e below _ (T12.setTop (mkF m 91 #[.val (.int p1), .val (.int (1 : Int32)), .val (.ref aT), .val (.ref aT), .val (.int (1 : Int32)), .val (.int (1 : Int32)), .val (.int (1 : Int32)), .unset] [(.int (1 : Int32)), (.int (0 : Int32))]))
    refine OGo.by_ (fun t k => XS.ifYes X12.here hx rfl (pc0 := 91) (pc' := 98) rfl (hb hby at_91) rfl ((if0 _ _).trans (feq (by decide)).2) (by decide) (by decide) k) ?_
    show OGo p e below _ (T12.setTop (mkF m 98 #[.val (.int p1), .val (.int (1 : Int32)), .val (.ref aT), .val (.ref aT), .val (.int (1 : Int32)), .val (.int (1 : Int32)), .val (.int (1 : Int32)), .unset] [(.int (0 : Int32))]))
    refine OGo.by_ (fun t k => XS.iconst X12.here hx rfl (hb hby at_98) k) ?_
    show OGo p e below _ (T12.setTop (mkF m 99 #[.val (.int p1), .val (.int (1 : Int32)), .val (.ref aT), .val (.ref aT), .val (.int (1 : Int32)), .val (.int (1 : Int32)), .val (.int (1 : Int32)), .unset] [(.int (0 : Int32)), (.int (0 : Int32))]))
    refine OGo.by_ (fun t k => XS.icmpNo X12.here hx rfl (hb hby at_99) rfl (teq rfl).2 k) ?_
    show OGo p e below _ (T12.setTop (mkF m 102 #[.val (.int p1), .val (.int (1 : Int32)), .val (.ref aT), .val (.ref aT), .val (.int (1 : Int32)), .val (.int (1 : Int32)), .val (.int (1 : Int32)), .unset] []))
    refine OGo.by_ (fun t k => XS.iconst X12.here hx rfl (hb hby at_102) k) ?_
    show OGo p e below _ (T12.setTop (mkF m 103 #[.val (.int p1), .val (.int (1 : Int32)), .val (.ref aT), .val (.ref aT), .val (.int (1 : Int32)), .val (.int (1 : Int32)), .val (.int (1 : Int32)), .unset] [(.int (1 : Int32))]))
    refine OGo.by_ (fun t k => XS.goto X12.here hx rfl (pc0 := 103) (pc' := 107) rfl (hb hby at_103) (by decide) (by decide) k) ?_
    show OGo p e below _ (T12.setTop (mkF m 107 #[.val (.int p1), .val (.int (1 : Int32)), .val (.ref aT), .val (.ref aT), .val (.int (1 : Int32)), .val (.int (1 : Int32)), .val (.int (1 : Int32)), .unset] [(.int (1 : Int32))]))
    refine OGo.by_ (fun t k => XS.istore X12.here hx rfl (hb hby at_107) rfl (l' := #[.val (.int p1), .val (.int (1 : Int32)), .val (.ref aT), .val (.ref aT), .val (.int (1 : Int32)), .val (.int (1 : Int32)), .val (.int (1 : Int32)), .val (.int (1 : Int32))]) rfl k) ?_
    show OGo p e below _ (T12.setTop (mkF m 109 #[.val (.int p1), .val (.int (1 : Int32)), .val (.ref aT), .val (.ref aT), .val (.int (1 : Int32)), .val (.int (1 : Int32)), .val (.int (1 : Int32)), .val (.int (1 : Int32))] []))
    refine OGo.by_ (fun t k => XS.iload X12.here hx rfl (hb hby at_109) rfl k) ?_
    show OGo p e below _ (T12.setTop (mkF m 111 #[.val (.int p1), .val (.int (1 : Int32)), .val (.ref aT), .val (.ref aT), .val (.int (1 : Int32)), .val (.int (1 : Int32)), .val (.int (1 : Int32)), .val (.int (1 : Int32))] [(.int (1 : Int32))]))
    refine OGo.by_ (fun t k => XS.ifNo X12.here hx rfl (hb hby at_111) rfl ((if0 _ _).trans (feq (by decide)).1) k) ?_
    show OGo p e below _ (T12.setTop (mkF m 114 #[.val (.int p1), .val (.int (1 : Int32)), .val (.ref aT), .val (.ref aT), .val (.int (1 : Int32)), .val (.int (1 : Int32)), .val (.int (1 : Int32)), .val (.int (1 : Int32))] []))
    refine OGo.by_ (fun t k => XS.iload X12.here hx rfl (hb hby at_114) rfl k) ?_
    show OGo p e below _ (T12.setTop (mkF m 116 #[.val (.int p1), .val (.int (1 : Int32)), .val (.ref aT), .val (.ref aT), .val (.int (1 : Int32)), .val (.int (1 : Int32)), .val (.int (1 : Int32)), .val (.int (1 : Int32))] [(.int (1 : Int32))]))
    refine OGo.by_ (fun t k => XS.ifNo X12.here hx rfl (hb hby at_116) rfl ((if0 _ _).trans (feq (by decide)).1) k) ?_
    show OGo p e below _ (T12.setTop (mkF m 119 #[.val (.int p1), .val (.int (1 : Int32)), .val (.ref aT), .val (.ref aT), .val (.int (1 : Int32)), .val (.int (1 : Int32)), .val (.int (1 : Int32)), .val (.int (1 : Int32))] []))
    refine OGo.by_ (fun t k => XS.iload X12.here hx rfl (hb hby at_119) rfl k) ?_
    show OGo p e below _ (T12.setTop (mkF m 121 #[.val (.int p1), .val (.int (1 : Int32)), .val (.ref aT), .val (.ref aT), .val (.int (1 : Int32)), .val (.int (1 : Int32)), .val (.int (1 : Int32)), .val (.int (1 : Int32))] [(.int (1 : Int32))]))
    refine OGo.by_ (fun t k => XS.ifNo X12.here hx rfl (hb hby at_121) rfl ((if0 _ _).trans (feq (by decide)).1) k) ?_
    show OGo p e below _ (T12.setTop (mkF m 124 #[.val (.int p1), .val (.int (1 : Int32)), .val (.ref aT), .val (.ref aT), .val (.int (1 : Int32)), .val (.int (1 : Int32)), .val (.int (1 : Int32)), .val (.int (1 : Int32))] []))
    refine OGo.by_ (fun t k => XS.iload X12.here hx rfl (hb hby at_124) rfl k) ?_
    show OGo p e below _ (T12.setTop (mkF m 126 #[.val (.int p1), .val (.int (1 : Int32)), .val (.ref aT), .val (.ref aT), .val (.int (1 : Int32)), .val (.int (1 : Int32)), .val (.int (1 : Int32)), .val (.int (1 : Int32))] [(.int (1 : Int32))]))
    refine OGo.by_ (fun t k => XS.ifNo X12.here hx rfl (hb hby at_126) rfl ((if0 _ _).trans (feq (by decide)).1) k) ?_
    show OGo p e below _ (T12.setTop (mkF m 129 #[.val (.int p1), .val (.int (1 : Int32)), .val (.ref aT), .val (.ref aT), .val (.int (1 : Int32)), .val (.int (1 : Int32)), .val (.int (1 : Int32)), .val (.int (1 : Int32))] []))
    refine OGo.by_ (fun t k => XS.iconst X12.here hx rfl (hb hby at_129) k) ?_
    show OGo p e below _ (T12.setTop (mkF m 130 #[.val (.int p1), .val (.int (1 : Int32)), .val (.ref aT), .val (.ref aT), .val (.int (1 : Int32)), .val (.int (1 : Int32)), .val (.int (1 : Int32)), .val (.int (1 : Int32))] [(.int (1 : Int32))]))
    refine OGo.by_ (fun t k => XS.goto X12.here hx rfl (pc0 := 130) (pc' := 134) rfl (hb hby at_130) (by decide) (by decide) k) ?_
    show OGo p e below _ (T12.setTop (mkF m 134 #[.val (.int p1), .val (.int (1 : Int32)), .val (.ref aT), .val (.ref aT), .val (.int (1 : Int32)), .val (.int (1 : Int32)), .val (.int (1 : Int32)), .val (.int (1 : Int32))] [(.int (1 : Int32))]))
    exact own_retN X12 hx hlk (t := .boolean) hret (by simp) (hb hby at_134) (by decide) (by decide) (⟨rfl, N9⟩)
theorem own_fld_int {args : Array Value} {Z : State} {t : Term} {a : Addr} {C n d : String} {z : Int32} (ht : t.eval args Z none [] Z = some (.ref a)) (h : (Jvm.Cond.eq (Term.field t C n d) (Term.int z)).value args Z none Z [] = some true) : Fld Z Z.heap a C n d (.int z) := by
  obtain ⟨x, y, h1, h2, k1, k2⟩ := cmp_v (Or.inl h)
  cases Option.some.inj h2
  obtain ⟨w, rfl⟩ := k2
  have e := gotT (Cond.eq_ints h1 (Term.int_eval z)) h
  subst e
  exact Fld.start ((fld_at ht).symm.trans h1)
set_option maxRecDepth 65536 in
set_option maxHeartbeats 40000000 in
theorem comes_1 {Post : Tables → Env → Array Value → State → Outcome → State → Prop} (hpost : ∀ tb e args s v u, (limb_1_1.after args s (.returned v) u = true ∧ limb_1_2.after args s (.returned v) u = true ∧ True) → FrameEnd s (.returned v) u (Jvm.fieldLocs frame_1_writes args s ++ Jvm.arrayLocs frame_1_arrays args s ++ Jvm.staticLocs frame_1_statics s) 0 0 → Post tb e args s (.returned v) u) :
    ArmFor flags0 classFile x code maxLocals ret World_1 tables_1 room_1 Calls_1 rest_1 Pre_1 Post := by
  intro l hfl _ _ p e ha hc hk s m args below hf hA hF happ hP
  obtain ⟨hcalls, hrest, hpre⟩ := hP
  obtain ⟨-, -, -, hnamed, -, -, -, hat⟩ := (Spec.applies_iff hf).mp happ
  obtain ⟨hg, hn⟩ := and_e (Cond.before_iff.mp (show (Jvm.Cond.and given_1 narrow_1).before args s = true from hpre))
  obtain ⟨hcount, hg0⟩ := and_e hg
  have ga0 := hg0
  obtain ⟨w0, rfl⟩ : ∃ w0 : Value, args = #[w0] := by
    have hs : args.size = 1 := by simpa [Cond.value, given_1] using hcount
    obtain ⟨L⟩ := args
    match L, hs with
    | [w0], _ => exact ⟨w0, rfl⟩
  have hw := fun d (hd : d ∈ tables_1) => atoms_spec (ws := Jvm.Cond.code x code maxLocals ret :: tables_1) hat d (List.mem_cons_of_mem _ hd)
  have hfit : Fit s := fun {y c} hc i hi => by
    obtain ⟨ha, rfl⟩ := Array.getElem?_eq_some_iff.mp hc
    have q := List.all_eq_true.mp ((Array.all_eq_true_iff_forall_mem.mp hF) _ (Array.getElem_mem ha)) i (List.mem_range.mpr hi)
    simpa [Array.getElem?_eq_getElem hi] using q
  obtain ⟨i0, ei0⟩ := is_v ga0
  obtain rfl : w0 = (.int i0) := Option.some.inj ei0
  obtain ⟨n1, hn⟩ := and_e hn
  obtain ⟨n2, hn⟩ := and_e hn
  obtain ⟨n3, hn⟩ := and_e hn
  obtain ⟨n4, n5⟩ := and_e hn
  obtain ⟨aF, eF⟩ := exa_v n1
  obtain ⟨aT, eT⟩ := exa_v n3
  have hne : aF ≠ aT := fun q => gotF (eq_R eF eT rfl rfl) (not_v n4) (congrArg Value.ref q)
  have SF := Sta.start eF (Or.inr ⟨(hw _ (List.mem_of_getElem? (i := 2) rfl)), (hw _ (List.mem_of_getElem? (i := 5) rfl))⟩)
  have ST := Sta.start eT (Or.inr ⟨(hw _ (List.mem_of_getElem? (i := 2) rfl)), (hw _ (List.mem_of_getElem? (i := 14) rfl))⟩)
  obtain ⟨n, o, h1, h2, h3, _, L, rfl, ⟨rfl, N⟩, hq⟩ := rm_law l s _ hw tables_1 i0 aT aF s.heap s.heap.size (Nat.le_refl _) ST SF (Exa.start eF n1) (Exa.start eT n3) (own_fld_int eF n2) (own_fld_int eT n5) hne p e ha hc hk s m _ below hf ((Spec.applies_iff_loose hf).mp happ).1 ⟨rfl, State.Warmed39.refl s, rfl⟩ trivial
  refine ⟨n, _, h1, h2, h3, hpost _ _ _ _ _ _ ⟨Cond.after_iff.mpr rfl, Cond.after_iff.mpr (eq_i res_at (Term.int_eval (1)) rfl), trivial⟩ ⟨hq.1, hq.2.1, (hq.2.2.sift fun y hy => Or.inr (N y hy)).mono (by decide) (by decide)⟩⟩
theorem main_1_1 : Claimed_1_1 := comes_1 fun _ _ _ _ _ _ h hF => ⟨h.1, hF⟩
theorem main_1_2 : Claimed_1_2 := comes_1 fun _ _ _ _ _ _ h hF => ⟨h.2.1, hF⟩
end Jvm.Pilot.@@N@@
namespace Jvm.Pilot.@@N@@
open Jvm Jvm.ClassFile Sem Op Lib Jvm.Free Jvm.Stand Jvm.Pilot.@@N@@.Jvm.D
/-! MADE BY PROGRAM (witnessworld.py) out of the Statement's table words and the real class files: 11 classes; the members and pool entries that the words name. The judged class is class 1, her method 1. -/
namespace start1
open Jvm.ClassFile
def u (s : String) : CpInfo := .utf8 (stringToUtf16 s)
/-- a pool by its gaps: so many unusable entries, then the entry; so many at the end -/
def gap : Nat → List CpInfo → List CpInfo
  | 0, r => r
  | n + 1, r => .unusable :: gap n r
def poolList (es : List (Nat × CpInfo)) (last : Nat) : List CpInfo := es.foldr (fun e r => gap e.1 (e.2 :: r)) (gap last [])
def pool (es : List (Nat × CpInfo)) (last : Nat) : Array CpInfo := ⟨poolList es last⟩
def fileOf (pool : Array CpInfo) (this : Nat) (attrs : Array Attribute := #[]) (ms : Array MethodInfo := #[]) (fl : Nat := 33) (sup : Nat := 0) (ifs : Array Nat := #[]) (fds : Array FieldInfo := #[]) : ClassFile where
  minorVersion := 0
  majorVersion := 65
  constantPool := pool
  accessFlags := fl
  thisClass := this
  superClass := sup
  interfaces := ifs
  fields := fds
  methods := ms
  attributes := attrs
def plain (name : String) (sup : Option ClassId) : Class where
  name := name
  kind := .ordinary
  loader := none
  accessFlags := 33
  super := sup
  interfaces := #[]
  cf := none
  fields := #[]
  methods := #[]
  instanceTypes := #[]
  staticTypes := #[]
  resolved := #[]
  callSites := []
  init := .initialized
  statics := none
  mirror := none

def pool0 : Array CpInfo := pool [(5, u "<init>"), (0, u "()V"), (1, .class_ 10), (1, u "java/lang/Object")] 113

def k0m0 : Method := { name := "<init>", desc := "()V", sig := { parameters := [], returnType := none }, accessFlags := 1, code := none }
/-- java/lang/Object -/
def k0 : Class := { plain "java/lang/Object" none with
  accessFlags := 33
  interfaces := #[]
  cf := some (fileOf pool0 8 #[] #[{ accessFlags := 1, nameIndex := 5, descriptorIndex := 6, attributes := #[] }] 33 0 #[] #[])
  fields := #[]
  methods := #[k0m0]
  instanceTypes := #[]
  staticTypes := #[]
  resolved := Array.replicate 124 none
  statics := none }

def pool1 : Array CpInfo := pool [(2, .class_ 4), (1, u "java/lang/Object"), (0, u "<init>"), (0, u "()V"), (0, .methodref 8 9), (0, .class_ 10), (0, .nameAndType 11 12), (0, u "com/example/frigg/frigg/engine/BoolValue"), (0, u "of"), (0, u "(Z)Lcom/example/frigg/frigg/engine/BoolValue;"), (0, .methodref 8 14), (0, .nameAndType 15 16), (0, u "value"), (0, u "()Z"), (0, .fieldref 8 18), (0, .nameAndType 19 20), (0, u "TRUE"), (0, u "Lcom/example/frigg/frigg/engine/BoolValue;"), (0, .fieldref 8 22), (0, .nameAndType 23 20), (0, u "FALSE"), (0, .class_ 25), (0, u "com/example/frigg/frigg/engine/BoolValueOfPinLaw"), (2, u "law"), (0, u "(I)Z")] 3

def k1m0 : Method := { name := "<init>", desc := "()V", sig := { parameters := [], returnType := none }, accessFlags := 2, code := none }
def k1c1 : Code := { maxStack := 2, maxLocals := 8, code := code, exceptionTable := #[], attributes := #[] }
def k1m1 : Method := { name := "law", desc := "(I)Z", sig := { parameters := [.int], returnType := some .boolean }, accessFlags := 9, code := some k1c1 }
/-- com/example/frigg/frigg/engine/BoolValueOfPinLaw -/
def k1 : Class := { plain "com/example/frigg/frigg/engine/BoolValueOfPinLaw" (some 0) with
  accessFlags := 49
  interfaces := #[]
  cf := some (fileOf pool1 24 #[] #[{ accessFlags := 2, nameIndex := 5, descriptorIndex := 6, attributes := #[] }, { accessFlags := 9, nameIndex := 28, descriptorIndex := 29, attributes := #[] }] 49 2 #[] #[])
  fields := #[]
  methods := #[k1m0, k1m1]
  instanceTypes := #[]
  staticTypes := #[]
  resolved := Array.replicate 33 none
  statics := none }

def pool2 : Array CpInfo := pool [(1, .class_ 2), (0, u "java/lang/Comparable"), (0, .class_ 4), (0, u "java/lang/Object")] 7

/-- java/lang/Comparable -/
def k2 : Class := { plain "java/lang/Comparable" (some 0) with
  accessFlags := 1537
  interfaces := #[]
  cf := some (fileOf pool2 1 #[] #[] 1537 3 #[] #[])
  fields := #[]
  methods := #[]
  instanceTypes := #[]
  staticTypes := #[]
  resolved := Array.replicate 12 none
  statics := none }

def pool3 : Array CpInfo := pool [(2, .class_ 4), (1, u "java/lang/Object"), (0, u "<init>"), (0, u "()V"), (1, .class_ 10), (1, u "com/example/frigg/frigg/engine/Value"), (3, .class_ 16), (1, u "com/example/frigg/frigg/engine/Value$Kind"), (26, .class_ 44), (0, u "java/lang/Comparable")] 32

def k3m0 : Method := { name := "<init>", desc := "()V", sig := { parameters := [], returnType := none }, accessFlags := 0, code := none }
/-- com/example/frigg/frigg/engine/Value -/
def k3 : Class := { plain "com/example/frigg/frigg/engine/Value" (some 0) with
  accessFlags := 1057
  interfaces := #[2]
  cf := some (fileOf pool3 8 #[.nestMembers #[14]] #[{ accessFlags := 0, nameIndex := 5, descriptorIndex := 6, attributes := #[] }] 1057 2 #[43] #[])
  fields := #[]
  methods := #[k3m0]
  instanceTypes := #[]
  staticTypes := #[]
  resolved := Array.replicate 77 none
  statics := none }

def pool4 : Array CpInfo := pool [(2, .class_ 4), (1, u "com/example/frigg/frigg/engine/Value"), (2, .fieldref 8 9), (0, .class_ 10), (0, .nameAndType 11 12), (0, u "com/example/frigg/frigg/engine/BoolValue"), (0, u "value"), (0, u "Z"), (0, .fieldref 8 14), (0, .nameAndType 15 16), (0, u "TRUE"), (0, u "Lcom/example/frigg/frigg/engine/BoolValue;"), (0, .fieldref 8 18), (0, .nameAndType 19 16), (0, u "FALSE"), (23, u "of"), (0, u "(Z)Lcom/example/frigg/frigg/engine/BoolValue;"), (1, u "()Z")] 16

def k4c0 : Code := { maxStack := 1, maxLocals := 1, code := prog_8_method_2_code, exceptionTable := #[], attributes := #[] }
def k4m0 : Method := { name := "of", desc := "(Z)Lcom/example/frigg/frigg/engine/BoolValue;", sig := { parameters := [.boolean], returnType := some (.object "com/example/frigg/frigg/engine/BoolValue") }, accessFlags := 9, code := some k4c0 }
def k4c1 : Code := { maxStack := 1, maxLocals := 1, code := prog_8_method_3_code, exceptionTable := #[], attributes := #[] }
def k4m1 : Method := { name := "value", desc := "()Z", sig := { parameters := [], returnType := some .boolean }, accessFlags := 1, code := some k4c1 }
/-- com/example/frigg/frigg/engine/BoolValue -/
def k4 : Class := { plain "com/example/frigg/frigg/engine/BoolValue" (some 3) with
  accessFlags := 49
  interfaces := #[]
  cf := some (fileOf pool4 8 #[] #[{ accessFlags := 9, nameIndex := 43, descriptorIndex := 44, attributes := #[] }, { accessFlags := 1, nameIndex := 11, descriptorIndex := 46, attributes := #[] }] 49 2 #[] #[{ accessFlags := 25, nameIndex := 15, descriptorIndex := 16, attributes := #[] }, { accessFlags := 25, nameIndex := 19, descriptorIndex := 16, attributes := #[] }, { accessFlags := 18, nameIndex := 11, descriptorIndex := 12, attributes := #[] }])
  fields := #[{ name := "TRUE", type := (.object "com/example/frigg/frigg/engine/BoolValue"), accessFlags := 25, slot := 0, constantValue := 0 }, { name := "FALSE", type := (.object "com/example/frigg/frigg/engine/BoolValue"), accessFlags := 25, slot := 1, constantValue := 0 }, { name := "value", type := .boolean, accessFlags := 18, slot := 0, constantValue := 0 }]
  methods := #[k4m0, k4m1]
  instanceTypes := #[.boolean]
  staticTypes := #[(.object "com/example/frigg/frigg/engine/BoolValue"), (.object "com/example/frigg/frigg/engine/BoolValue")]
  resolved := Array.replicate 63 none
  statics := some 0 }

def pool5 : Array CpInfo := pool [(1, u "java/lang/Cloneable"), (0, .class_ 1), (0, u "java/lang/Object"), (0, .class_ 3)] 3

/-- java/lang/Cloneable -/
def k5 : Class := { plain "java/lang/Cloneable" (some 0) with
  accessFlags := 1537
  interfaces := #[]
  cf := some (fileOf pool5 2 #[] #[] 1537 4 #[] #[])
  fields := #[]
  methods := #[]
  instanceTypes := #[]
  staticTypes := #[]
  resolved := Array.replicate 8 none
  statics := none }

def pool6 : Array CpInfo := pool [(1, u "java/io/Serializable"), (0, .class_ 1), (0, u "java/lang/Object"), (0, .class_ 3)] 3

/-- java/io/Serializable -/
def k6 : Class := { plain "java/io/Serializable" (some 0) with
  accessFlags := 1537
  interfaces := #[]
  cf := some (fileOf pool6 2 #[] #[] 1537 4 #[] #[])
  fields := #[]
  methods := #[]
  instanceTypes := #[]
  staticTypes := #[]
  resolved := Array.replicate 8 none
  statics := none }

/-- the primitive byte -/
def k7 : Class := { plain "byte" none with kind := .primitive 'B', accessFlags := 0x411 }
/-- [B -/
def k8 : Class := { plain "[B" (some 0) with kind := .array 7 .byte, interfaces := #[5, 6], accessFlags := 1041 }

/-- the primitive int -/
def k9 : Class := { plain "int" none with kind := .primitive 'I', accessFlags := 0x411 }
/-- [I -/
def k10 : Class := { plain "[I" (some 0) with kind := .array 9 .int, interfaces := #[5, 6], accessFlags := 1041 }

def heap : Heap := #[{ cls := 4, slots := #[.ref 2, .ref 1], vm := .statics 4 },
  { cls := 4, slots := #[.int 0], vm := .none },
  { cls := 4, slots := #[.int 1], vm := .none }]
def classes : Array Class := #[k0, k1, k2, k3, k4, k5, k6, k7, k8, k9, k10]
def interned : List (Array UInt16 × Addr) := []
def slotsUsed : Nat := 4
def theMethod : MethodId := ⟨1, 1⟩
def args0 : Array Value := #[.int 1]
def aboutOver (below : List Frame) : State where
  vm := { classes := classes, interned := interned.toArray }
  heap := heap
  slotsUsed := slotsUsed
  threads := #[{ frames := .invoking theMethod args0 :: below }]
def below0 : List Frame := [.native { method := ⟨0, 0⟩, args := #[] }]
def about1 : State := aboutOver below0
def p0 : Program := .bare "" "" ""
def e0 : Env := launch0.env 0 0 0
theorem w_frames : about1.frames = Frame.invoking theMethod args0 :: below0 := rfl
set_option maxRecDepth 65536 in
theorem w_args : argsFit about1.vm theMethod args0 = true := by decide +kernel
set_option maxRecDepth 65536 in
theorem w_heap : heapFits about1 = true := by decide +kernel
set_option maxRecDepth 65536 in
theorem w_runnable : about1.curStatus? = some .runnable := by decide +kernel
set_option maxRecDepth 65536 in
theorem w_alone : about1.alone = true := by decide +kernel
set_option maxRecDepth 65536 in
theorem w_named : about1.methodNamed? x = some theMethod := by decide +kernel
set_option maxRecDepth 65536 in
theorem w_hears : about1.hears theMethod below0 = true := by decide +kernel
set_option maxRecDepth 65536 in
theorem w_ripe : about1.ripe theMethod args0 below0 = true := by decide +kernel
theorem w_running : about1.status = .running := rfl
set_option maxRecDepth 65536 in
theorem w_room : about1.hasRoom e0.platform room_1 = true :=
  launch0.hasRoom_least _ room_1 (by decide +kernel) (by decide +kernel) (by decide +kernel) (by decide +kernel) (by decide +kernel) (by decide +kernel)
theorem allAtoms_all (ts : List Jvm.Cond) (a : Array Jvm.Value) (st : Jvm.State) : (allAtoms ts).before a st = ts.all (fun c => c.before a st) := by
  induction ts with
  | nil => rfl
  | cons c t ih =>
    show (Jvm.Cond.and c (allAtoms t)).before a st = _
    rw [Jvm.Cond.before_and, ih, List.all_cons]
def words1 : List Jvm.Cond := Jvm.Cond.code x code maxLocals ret :: tables_1
/-- a 'code' word, met by the world's own term for the bytes: nothing is compared byte by byte -/
theorem code_word {y : MethodName} {bytes : ByteArray} {mx : Nat} {rt : Option FieldType} {a : Array Value} {s : State} {m : MethodId} {meth : Method} {c : Code} (h1 : s.methodNamed? y = some m) (h2 : s.vm.method? m = some meth) (h3 : meth.code = some c) (h4 : c.code = bytes)
    (h5 : (c.maxLocals == mx && c.exceptionTable.isEmpty && decide (c.maxStack ≤ mostOperands) && decide (meth.sig.returnType = rt) && !meth.locks && decide (parseMethodDescriptor y.desc = some meth.sig)) = true) : (Jvm.Cond.code y bytes mx rt).before a s = true := by
  simp only [Bool.and_eq_true, beq_iff_eq, Bool.not_eq_true', decide_eq_true_eq] at h5
  obtain ⟨⟨⟨⟨⟨g1, g2⟩, g3⟩, g4⟩, g5⟩, g6⟩ := h5
  simp [Cond.before, Cond.holds, Cond.value, h1, h2, h3, h4, g1, g2, g3, g4, g5, g6]
def isCode : Jvm.Cond → Bool
  | .code _ _ _ _ => true
  | _ => false
theorem all_split {L : List Jvm.Cond} {P : Jvm.Cond → Bool} (h1 : L.all (fun c => isCode c || P c) = true) (h2 : ∀ c ∈ L.filter isCode, P c = true) : L.all P = true := by
  refine List.all_eq_true.mpr fun c hc => ?_
  have h := List.all_eq_true.mp h1 c hc
  rcases Bool.eq_false_or_eq_true (isCode c) with hi | hi
  · exact h2 c (List.mem_filter.mpr ⟨hc, hi⟩)
  · simpa [hi] using h
set_option maxRecDepth 65536 in
theorem w_c0 : (Jvm.Cond.code x code maxLocals ret).before args0 about1 = true := code_word (m := ⟨1, 1⟩) (meth := k1m1) (c := k1c1) (by decide +kernel) rfl rfl rfl (by decide +kernel)
set_option maxRecDepth 65536 in
theorem w_c1 : (Jvm.Cond.code ({ cls := "com/example/frigg/frigg/engine/BoolValue", name := "of", desc := "(Z)Lcom/example/frigg/frigg/engine/BoolValue;" } : Jvm.MethodName) prog_8_method_2_code (1 : Nat) (Option.some (Jvm.ClassFile.FieldType.object "com/example/frigg/frigg/engine/BoolValue"))).before args0 about1 = true := code_word (m := ⟨4, 0⟩) (meth := k4m0) (c := k4c0) (by decide +kernel) rfl rfl rfl (by decide +kernel)
set_option maxRecDepth 65536 in
theorem w_c2 : (Jvm.Cond.code ({ cls := "com/example/frigg/frigg/engine/BoolValue", name := "value", desc := "()Z" } : Jvm.MethodName) prog_8_method_3_code (1 : Nat) (Option.some Jvm.ClassFile.FieldType.boolean)).before args0 about1 = true := code_word (m := ⟨4, 1⟩) (meth := k4m1) (c := k4c1) (by decide +kernel) rfl rfl rfl (by decide +kernel)
def codes1 : List Jvm.Cond := [Jvm.Cond.code x code maxLocals ret, Jvm.Cond.code ({ cls := "com/example/frigg/frigg/engine/BoolValue", name := "of", desc := "(Z)Lcom/example/frigg/frigg/engine/BoolValue;" } : Jvm.MethodName) prog_8_method_2_code (1 : Nat) (Option.some (Jvm.ClassFile.FieldType.object "com/example/frigg/frigg/engine/BoolValue")), Jvm.Cond.code ({ cls := "com/example/frigg/frigg/engine/BoolValue", name := "value", desc := "()Z" } : Jvm.MethodName) prog_8_method_3_code (1 : Nat) (Option.some Jvm.ClassFile.FieldType.boolean)]
set_option maxRecDepth 65536 in
theorem codes_eq : words1.filter isCode = codes1 := rfl
theorem w_codes : ∀ c ∈ words1.filter isCode, c.before args0 about1 = true := by
  rw [codes_eq]
  intro c hc
  simp only [codes1, List.mem_cons, List.not_mem_nil, or_false] at hc
  rcases hc with rfl | rfl | rfl
  · exact w_c0
  · exact w_c1
  · exact w_c2
set_option maxRecDepth 65536 in
theorem w_t1 : words1.all (fun c => isCode c || c.before args0 about1) = true := by decide +kernel
theorem w_tables : (allAtoms (Jvm.Cond.code x code maxLocals ret :: tables_1)).before args0 about1 = true := by
  rw [allAtoms_all]
  show words1.all (fun c => c.before args0 about1) = true
  refine all_split ?_ w_codes
  rw [w_t1]
set_option maxRecDepth 65536 in
theorem w_case : (Jvm.Cond.and given_1 narrow_1).before args0 about1 = true := by decide +kernel
theorem w_applies : (headSpec (Jvm.Cond.code x code maxLocals ret :: tables_1) room_1).applies x e0.platform about1 = true :=
  (Spec.applies_iff w_frames).mpr ⟨w_running, w_runnable, w_alone, w_named, w_hears, w_ripe, w_room, w_tables⟩
theorem atStart : AtStart classFile x code maxLocals ret World_1 tables_1 room_1 Calls_1 rest_1 Pre_1 launch0 p0 e0 about1 theMethod args0 below0 :=
  ⟨lists_1, trivial, launch0.admits_env _ _ _, launch0.least_env, fairChoices_fair.cas, fairChoices_fair.clock, w_frames, w_args, w_heap, w_applies, trivial, trivial, w_case⟩
end start1
theorem witness_1 : WitnessClaimed_1 := ⟨start1.p0, start1.e0, start1.about1, start1.theMethod, start1.args0, start1.below0, start1.atStart⟩
end Jvm.Pilot.@@N@@
