import JvmDerived
import JvmDerived.Pilot.@@N@@Statement
import JvmDerived.Pilot.@@N@@Code
set_option linter.unusedVariables false
set_option linter.unusedSimpArgs false
namespace Jvm.RoadKit
open Sem ClassFile Op Lib Jvm.Stand Jvm.Free Jvm.LawKit
section OwnKit
variable {p : Program} {l : Launch} {e : Env} {R : Room} {s : State} {m : MethodId} {args : Array Value} {below : List Frame} {meth : Method} {c : Code} {T : State} {locs : List Loc} {cells slots : Nat}
/-- the run from U ends the invocation, and P holds there -/
def OGo (p : Program) (e : Env) (below : List Frame) (P : Outcome → State → Prop) (U : State) : Prop :=
  ∃ s₂ o, Steps p.tables e below U s₂ ∧ s₂.status = .running ∧ Ended s₂ below o ∧ P o s₂
theorem OGo.by_ {P : Outcome → State → Prop} {U U' : State} (h : ∀ t, Steps p.tables e below U' t → Steps p.tables e below U t) (g : OGo p e below P U') : OGo p e below P U := by
  obtain ⟨t, o, a, b⟩ := g
  exact ⟨t, o, h t a, b⟩
abbrev OEnd (s : State) (Q : Option Value → Heap → List Loc → Prop) (k n : Nat) (o : Outcome) (U' : State) : Prop :=
  ∃ v L, o = .returned v ∧ Q v U'.heap L ∧ FrameEnd s o U' L k n
theorem own_lt {a : Addr} {n : Nat} (h : a < n) : @LT.lt Nat instLTNat a n := h
theorem own_ne {a b : Addr} (h : @LT.lt Nat instLTNat a b) : a ≠ b := Nat.ne_of_lt h
theorem own_ne' {a b : Addr} (h : @LT.lt Nat instLTNat b a) : a ≠ b := Nat.ne_of_gt h
variable {Q : Option Value → Heap → List Loc → Prop} {k n : Nat} {pc : Nat} {Ls : Array Slot} {rest : List Value}
theorem own_retW (X : Stand p l e R s m args below meth c T locs cells slots) (hx : p.tables.exec = Jvm.exec) (hlk : meth.locks = false) {w : Value} {t : FieldType} {i : Instr} (hret : meth.sig.returnType = some t) (hn : narrow t w = w)
    (hi : (i = .ireturn ∧ (t = .int ∨ t = .boolean ∨ t = .byte ∨ t = .char ∨ t = .short) ∧ ∃ z, w = .int z) ∨ (i = .lreturn ∧ t = .long ∧ ∃ z, w = .long z) ∨ (i = .dreturn ∧ t = .double ∧ ∃ z, w = .double z) ∨ (i = .freturn ∧ t = .float ∧ ∃ z, w = .float z) ∨ (i = .areturn ∧ t.isReference = true ∧ w.isRef = true))
    (hd : decode c.code pc = .ok (i, 1)) (hk : cells ≤ k) (hs : slots ≤ n) (hQ : Q (some w) T.heap locs) : OGo p e below (OEnd s Q k n) (T.setTop (mkF m pc Ls (w :: rest))) := by
  obtain ⟨fs, hr, hrun, hended, hW, hsame⟩ := X.leave (v := some w) (fun h => by rw [hret] at h; cases h) hlk
  exact ⟨_, _, retOut X hx hret hn hi hd hr, hrun, hended, _, _, rfl, hQ, ⟨_, rfl⟩, hW, hsame.mono hk hs⟩
theorem own_retI (X : Stand p l e R s m args below meth c T locs cells slots) (hx : p.tables.exec = Jvm.exec) (hlk : meth.locks = false) {z : Int32} (hret : meth.sig.returnType = some .int)
    (hd : decode c.code pc = .ok (.ireturn, 1)) (hk : cells ≤ k) (hs : slots ≤ n) (hQ : Q (some (.int z)) T.heap locs) : OGo p e below (OEnd s Q k n) (T.setTop (mkF m pc Ls (.int z :: rest))) :=
  own_retW X hx hlk hret rfl (Or.inl ⟨rfl, Or.inl rfl, z, rfl⟩) hd hk hs hQ
theorem own_retJ (X : Stand p l e R s m args below meth c T locs cells slots) (hx : p.tables.exec = Jvm.exec) (hlk : meth.locks = false) {z : Int64} (hret : meth.sig.returnType = some .long)
    (hd : decode c.code pc = .ok (.lreturn, 1)) (hk : cells ≤ k) (hs : slots ≤ n) (hQ : Q (some (.long z)) T.heap locs) : OGo p e below (OEnd s Q k n) (T.setTop (mkF m pc Ls (.long z :: rest))) :=
  own_retW X hx hlk hret rfl (Or.inr (Or.inl ⟨rfl, rfl, z, rfl⟩)) hd hk hs hQ
theorem own_retA (X : Stand p l e R s m args below meth c T locs cells slots) (hx : p.tables.exec = Jvm.exec) (hlk : meth.locks = false) {w : Value} {t : FieldType} (hret : meth.sig.returnType = some t) (ht : t.isReference = true) (hw : w.isRef = true)
    (hd : decode c.code pc = .ok (.areturn, 1)) (hk : cells ≤ k) (hs : slots ≤ n) (hQ : Q (some w) T.heap locs) : OGo p e below (OEnd s Q k n) (T.setTop (mkF m pc Ls (w :: rest))) :=
  own_retW X hx hlk hret (by cases t <;> cases w <;> simp [FieldType.isReference, Value.isRef] at ht hw <;> rfl) (Or.inr (Or.inr (Or.inr (Or.inr ⟨rfl, ht, hw⟩)))) hd hk hs hQ
theorem own_retN (X : Stand p l e R s m args below meth c T locs cells slots) (hx : p.tables.exec = Jvm.exec) (hlk : meth.locks = false) {z : Int32} {t : FieldType} (hret : meth.sig.returnType = some t) (ht : t = .boolean ∨ t = .byte ∨ t = .char ∨ t = .short)
    (hd : decode c.code pc = .ok (.ireturn, 1)) (hk : cells ≤ k) (hs : slots ≤ n) (hQ : Q (some (.int (nar t z))) T.heap locs) : OGo p e below (OEnd s Q k n) (T.setTop (mkF m pc Ls (.int z :: rest))) := by
  obtain ⟨fs, hr, hrun, hended, hW, hsame⟩ := X.leave (v := some (.int (nar t z))) (fun h => by rw [hret] at h; cases h) hlk
  exact ⟨_, _, retN X hx hret ht hd hr, hrun, hended, _, _, rfl, hQ, ⟨_, rfl⟩, hW, hsame.mono hk hs⟩
theorem own_ret (X : Stand p l e R s m args below meth c T locs cells slots) (hx : p.tables.exec = Jvm.exec) (hlk : meth.locks = false) (hret : meth.sig.returnType = none)
    (hd : decode c.code pc = .ok (.return_, 1)) (hk : cells ≤ k) (hs : slots ≤ n) (hQ : Q none T.heap locs) : OGo p e below (OEnd s Q k n) (T.setTop (mkF m pc Ls [])) := by
  obtain ⟨fs, hr, hrun, hended, hW, hsame⟩ := X.leave (v := none) (fun _ => rfl) hlk
  exact ⟨_, _, X.returnOut hx hret hd hr, hrun, hended, _, _, rfl, hQ, ⟨_, rfl⟩, hW, hsame.mono hk hs⟩
abbrev OEndW (s : State) (Q : Option Value → Heap → List Loc → Prop) (k n : Nat) (o : Outcome) (U' : State) : Prop :=
  ∃ v L, o = .returned v ∧ Q v U'.heap L ∧ ReturnedEndW s o U' L k n
variable {vm₁ : Vm} {j : Nat}
theorem own_wretW (X : Stand p l e R (s.setVm vm₁) m args below meth c T locs cells slots) (hS : s.Since vm₁ j) (hj : j ≤ T.heap.size) (hx : p.tables.exec = Jvm.exec) (hlk : meth.locks = false) {w : Value} {t : FieldType} {i : Instr} (hret : meth.sig.returnType = some t) (hn : narrow t w = w)
    (hi : (i = .ireturn ∧ (t = .int ∨ t = .boolean ∨ t = .byte ∨ t = .char ∨ t = .short) ∧ ∃ z, w = .int z) ∨ (i = .lreturn ∧ t = .long ∧ ∃ z, w = .long z) ∨ (i = .dreturn ∧ t = .double ∧ ∃ z, w = .double z) ∨ (i = .freturn ∧ t = .float ∧ ∃ z, w = .float z) ∨ (i = .areturn ∧ t.isReference = true ∧ w.isRef = true))
    (hd : decode c.code pc = .ok (i, 1)) (hk : cells ≤ k) (hs : slots ≤ n) (hQ : Q (some w) T.heap locs) : OGo p e below (OEndW s Q k n) (T.setTop (mkF m pc Ls (w :: rest))) := by
  obtain ⟨fs, hr, hrun, hended, h1, h2, h3, h4⟩ := X.leaveW hS hj (v := some w) (fun h => by rw [hret] at h; cases h) hlk
  exact ⟨_, _, retOut X hx hret hn hi hd hr, hrun, hended, _, _, rfl, hQ, h1, h2, h3, h4.mono hk hs⟩
theorem own_wretI (X : Stand p l e R (s.setVm vm₁) m args below meth c T locs cells slots) (hS : s.Since vm₁ j) (hj : j ≤ T.heap.size) (hx : p.tables.exec = Jvm.exec) (hlk : meth.locks = false) {z : Int32} (hret : meth.sig.returnType = some .int)
    (hd : decode c.code pc = .ok (.ireturn, 1)) (hk : cells ≤ k) (hs : slots ≤ n) (hQ : Q (some (.int z)) T.heap locs) : OGo p e below (OEndW s Q k n) (T.setTop (mkF m pc Ls (.int z :: rest))) :=
  own_wretW X hS hj hx hlk hret rfl (Or.inl ⟨rfl, Or.inl rfl, z, rfl⟩) hd hk hs hQ
theorem own_wretA (X : Stand p l e R (s.setVm vm₁) m args below meth c T locs cells slots) (hS : s.Since vm₁ j) (hj : j ≤ T.heap.size) (hx : p.tables.exec = Jvm.exec) (hlk : meth.locks = false) {w : Value} {t : FieldType} (hret : meth.sig.returnType = some t) (ht : t.isReference = true) (hw : w.isRef = true)
    (hd : decode c.code pc = .ok (.areturn, 1)) (hk : cells ≤ k) (hs : slots ≤ n) (hQ : Q (some w) T.heap locs) : OGo p e below (OEndW s Q k n) (T.setTop (mkF m pc Ls (w :: rest))) :=
  own_wretW X hS hj hx hlk hret (by cases t <;> cases w <;> simp [FieldType.isReference, Value.isRef] at ht hw <;> rfl) (Or.inr (Or.inr (Or.inr (Or.inr ⟨rfl, ht, hw⟩)))) hd hk hs hQ
theorem own_wretN (X : Stand p l e R (s.setVm vm₁) m args below meth c T locs cells slots) (hS : s.Since vm₁ j) (hj : j ≤ T.heap.size) (hx : p.tables.exec = Jvm.exec) (hlk : meth.locks = false) {z : Int32} {t : FieldType} (hret : meth.sig.returnType = some t) (ht : t = .boolean ∨ t = .byte ∨ t = .char ∨ t = .short)
    (hd : decode c.code pc = .ok (.ireturn, 1)) (hk : cells ≤ k) (hs : slots ≤ n) (hQ : Q (some (.int (nar t z))) T.heap locs) : OGo p e below (OEndW s Q k n) (T.setTop (mkF m pc Ls (.int z :: rest))) := by
  obtain ⟨fs, hr, hrun, hended, h1, h2, h3, h4⟩ := X.leaveW hS hj (v := some (.int (nar t z))) (fun h => by rw [hret] at h; cases h) hlk
  exact ⟨_, _, retN X hx hret ht hd hr, hrun, hended, _, _, rfl, hQ, h1, h2, h3, h4.mono hk hs⟩
theorem own_wret (X : Stand p l e R (s.setVm vm₁) m args below meth c T locs cells slots) (hS : s.Since vm₁ j) (hj : j ≤ T.heap.size) (hx : p.tables.exec = Jvm.exec) (hlk : meth.locks = false) (hret : meth.sig.returnType = none)
    (hd : decode c.code pc = .ok (.return_, 1)) (hk : cells ≤ k) (hs : slots ≤ n) (hQ : Q none T.heap locs) : OGo p e below (OEndW s Q k n) (T.setTop (mkF m pc Ls [])) := by
  obtain ⟨fs, hr, hrun, hended, h1, h2, h3, h4⟩ := X.leaveW hS hj (v := none) (fun _ => rfl) hlk
  exact ⟨_, _, X.returnOut hx hret hd hr, hrun, hended, _, _, rfl, hQ, h1, h2, h3, h4.mono hk hs⟩
end OwnKit
end Jvm.RoadKit
namespace Jvm.Pilot.@@N@@
open Jvm Jvm.ClassFile Sem Op Lib Jvm.Free Jvm.Stand Jvm.LawKit Jvm.RoadKit Bundle Jvm.Pilot.@@N@@.Jvm.D
theorem own_nin1 {x y : Addr} (h : x ≠ y) : x ∉ [y] := ninS h nin0
theorem own_strA {a0 : Array Value} {Z : State} (hw : ∀ d ∈ tables_1, d.before a0 Z = true) : ∀ a ∈ Bundle.stringAtoms, a.before a0 Z = true := by
  intro a ha
  simp only [Bundle.stringAtoms, Bundle.sN, List.mem_cons, List.not_mem_nil, or_false] at ha
  rcases ha with rfl | rfl | rfl | rfl | rfl | rfl | rfl
  · exact (hw _ (List.mem_of_getElem? (i := 114) rfl))
  · exact (hw _ (List.mem_of_getElem? (i := 115) rfl))
  · exact (hw _ (List.mem_of_getElem? (i := 116) rfl))
  · exact (hw _ (List.mem_of_getElem? (i := 117) rfl))
  · exact (hw _ (List.mem_of_getElem? (i := 118) rfl))
  · exact (hw _ (List.mem_of_getElem? (i := 119) rfl))
  · exact (hw _ (List.mem_of_getElem? (i := 120) rfl))
theorem d_abm_0 : decode jdk_71_method_1_code 0 = .ok (.aload_n 0, 1) := by decide +kernel
theorem d_abm_1 : decode jdk_71_method_1_code 1 = .ok (.invokespecial 1, 3) := by decide +kernel
theorem d_abm_4 : decode jdk_71_method_1_code 4 = .ok (.return_, 1) := by decide +kernel
theorem pn_java_util_AbstractMap : plainName "java/util/AbstractMap" = true := by first | (simp [plainName, overriddenIn]; done) | decide +kernel
theorem ef_abm (m : MethodId) (x0 : Addr) : entryFrame m #[(.ref x0)] 1 = mkF m 0 #[.val (.ref x0)] [] := by first | (simp [entryFrame, mkF, argsToLocals, Value.category]; done) | rfl
def Q_abm (Z : State) (a : Addr) (h0 : Heap) (n0 : Nat) (v : Option Value) (h : Heap) (L : List Loc) : Prop := v = none ∧ Fr n0 L ∧ h = h0
set_option maxRecDepth 65536 in
set_option maxHeartbeats 40000000 in
theorem rm_abm (l : Launch) (Z : State) (a0 : Array Value) (hw : ∀ d ∈ tables_1, d.before a0 Z = true) (ws : List Jvm.Cond) (a : Addr) (h0 : Heap) (n0 : Nat) (Z0 : n0 ≤ h0.size)  :
    MetFree l (⟨"java/util/AbstractMap", "<init>", "()V"⟩ : MethodName) (head1 (Jvm.Cond.code (⟨"java/util/AbstractMap", "<init>", "()V"⟩ : MethodName) jdk_71_method_1_code 1 none :: ws) ({ frames := 1, cells := 0, slots := 0, locals := 12 } : Room)) (fun a_ U => a_ = #[(.ref a)] ∧ Z.Warmed39 U.vm ∧ U.heap = h0) (fun _ _ _ _ _ => True) (fun _ U o U' => ∃ v L, o = .returned v ∧ Q_abm Z a h0 n0 v U'.heap L ∧ FrameEnd U o U' L ({ frames := 1, cells := 0, slots := 0, locals := 12 } : Room).cells ({ frames := 1, cells := 0, slots := 0, locals := 12 } : Room).slots) := by
  refine MetFree.of_bodySF (plainFor_of_name pn_java_util_AbstractMap) hisR ?_
  intro p e s m args below meth c s₁ Bd hml0 hP hK
  obtain ⟨rfl, hZ, hh⟩ := hP
  have hx := Bd.exec
  have hby := Bd.bytes
  have hml : c.maxLocals = 1 := hml0
  have hown : s.vm.findClass "java/util/AbstractMap" = some m.cls := findClass_of_methodNamed Bd.named
  have hnm := (name_of_methodNamed Bd.named Bd.method).1
  have X0 : Stand p l e ({ frames := 1, cells := 0, slots := 0, locals := 12 } : Room) s m #[(.ref a)] below meth c s₁ [] 0 0 := Stand.of_body Bd
  have e0 : s₁.heap = h0 := by rw [← hh, Bd.state]; rfl
  have N0 := Fr.nil n0
  have hlk := Bd.notSynchronized
  have hret := Bd.returns
  show OGo p e below (OEnd s (Q_abm Z a h0 n0) ({ frames := 1, cells := 0, slots := 0, locals := 12 } : Room).cells ({ frames := 1, cells := 0, slots := 0, locals := 12 } : Room).slots) (s₁.setTop (entryFrame m #[(.ref a)] 1))
  rw [ef_abm]
  show OGo p e below _ (s₁.setTop (mkF m 0 #[.val (.ref a)] []))
  refine OGo.by_ (fun t k => XS.aloadN X0.here hx rfl (hb hby d_abm_0) rfl rfl k) ?_
  show OGo p e below _ (s₁.setTop (mkF m 1 #[.val (.ref a)] [(.ref a)]))
  obtain ⟨T1, X1, e1, st1⟩ := initO X0 hx hZ hown (hw _ (List.mem_of_getElem? (i := 29) rfl)) (hw _ (List.mem_of_getElem? (i := 15) rfl)) (hw _ (List.mem_of_getElem? (i := 16) rfl)) e0 (g := (mkF m 1 #[.val (.ref a)] [(.ref a)])) rfl (by rw [hml]; rfl) rfl (hb hby d_abm_1) (by decide) (W := 0) (by show 2 * 0 + _ ≤ _; exact Nat.le_of_eq rfl) (by decide)
  refine OGo.by_ st1 ?_
  show OGo p e below _ (T1.setTop (mkF m 4 #[.val (.ref a)] []))
  exact own_ret X1 hx hlk hret (hb hby d_abm_4) (by decide) (by decide) (⟨rfl, N0, e1⟩)
theorem d_lk_0 : decode prog_33_method_1_code 0 = .ok (.aload_n 0, 1) := by decide +kernel
theorem d_lk_1 : decode prog_33_method_1_code 1 = .ok (.invokespecial 1, 3) := by decide +kernel
theorem d_lk_4 : decode prog_33_method_1_code 4 = .ok (.return_, 1) := by decide +kernel
theorem pn_com_example_intercept_rows_interceptrows_engine_DatabaseLock : plainName "com/example/intercept_rows/interceptrows/engine/DatabaseLock" = true := by first | (simp [plainName, overriddenIn]; done) | decide +kernel
theorem ef_lk (m : MethodId) (x0 : Addr) : entryFrame m #[(.ref x0)] 1 = mkF m 0 #[.val (.ref x0)] [] := by first | (simp [entryFrame, mkF, argsToLocals, Value.category]; done) | rfl
def Q_lk (Z : State) (a : Addr) (h0 : Heap) (n0 : Nat) (v : Option Value) (h : Heap) (L : List Loc) : Prop := v = none ∧ Fr n0 L ∧ h = h0
set_option maxRecDepth 65536 in
set_option maxHeartbeats 40000000 in
theorem rm_lk (l : Launch) (Z : State) (a0 : Array Value) (hw : ∀ d ∈ tables_1, d.before a0 Z = true) (ws : List Jvm.Cond) (a : Addr) (h0 : Heap) (n0 : Nat) (Z0 : n0 ≤ h0.size)  :
    MetFree l (⟨"com/example/intercept_rows/interceptrows/engine/DatabaseLock", "<init>", "()V"⟩ : MethodName) (head1 (Jvm.Cond.code (⟨"com/example/intercept_rows/interceptrows/engine/DatabaseLock", "<init>", "()V"⟩ : MethodName) prog_33_method_1_code 1 none :: ws) ({ frames := 1, cells := 0, slots := 0, locals := 12 } : Room)) (fun a_ U => a_ = #[(.ref a)] ∧ Z.Warmed39 U.vm ∧ U.heap = h0) (fun _ _ _ _ _ => True) (fun _ U o U' => ∃ v L, o = .returned v ∧ Q_lk Z a h0 n0 v U'.heap L ∧ FrameEnd U o U' L ({ frames := 1, cells := 0, slots := 0, locals := 12 } : Room).cells ({ frames := 1, cells := 0, slots := 0, locals := 12 } : Room).slots) := by
  refine MetFree.of_bodySF (plainFor_of_name pn_com_example_intercept_rows_interceptrows_engine_DatabaseLock) hisR ?_
  intro p e s m args below meth c s₁ Bd hml0 hP hK
  obtain ⟨rfl, hZ, hh⟩ := hP
  have hx := Bd.exec
  have hby := Bd.bytes
  have hml : c.maxLocals = 1 := hml0
  have hown : s.vm.findClass "com/example/intercept_rows/interceptrows/engine/DatabaseLock" = some m.cls := findClass_of_methodNamed Bd.named
  have hnm := (name_of_methodNamed Bd.named Bd.method).1
  have X0 : Stand p l e ({ frames := 1, cells := 0, slots := 0, locals := 12 } : Room) s m #[(.ref a)] below meth c s₁ [] 0 0 := Stand.of_body Bd
  have e0 : s₁.heap = h0 := by rw [← hh, Bd.state]; rfl
  have N0 := Fr.nil n0
  have hlk := Bd.notSynchronized
  have hret := Bd.returns
  show OGo p e below (OEnd s (Q_lk Z a h0 n0) ({ frames := 1, cells := 0, slots := 0, locals := 12 } : Room).cells ({ frames := 1, cells := 0, slots := 0, locals := 12 } : Room).slots) (s₁.setTop (entryFrame m #[(.ref a)] 1))
  rw [ef_lk]
  show OGo p e below _ (s₁.setTop (mkF m 0 #[.val (.ref a)] []))
  refine OGo.by_ (fun t k => XS.aloadN X0.here hx rfl (hb hby d_lk_0) rfl rfl k) ?_
  show OGo p e below _ (s₁.setTop (mkF m 1 #[.val (.ref a)] [(.ref a)]))
  obtain ⟨T1, X1, e1, st1⟩ := initO X0 hx hZ hown (hw _ (List.mem_of_getElem? (i := 43) rfl)) (hw _ (List.mem_of_getElem? (i := 15) rfl)) (hw _ (List.mem_of_getElem? (i := 16) rfl)) e0 (g := (mkF m 1 #[.val (.ref a)] [(.ref a)])) rfl (by rw [hml]; rfl) rfl (hb hby d_lk_1) (by decide) (W := 0) (by show 2 * 0 + _ ≤ _; exact Nat.le_of_eq rfl) (by decide)
  refine OGo.by_ st1 ?_
  show OGo p e below _ (T1.setTop (mkF m 4 #[.val (.ref a)] []))
  exact own_ret X1 hx hlk hret (hb hby d_lk_4) (by decide) (by decide) (⟨rfl, N0, e1⟩)
theorem d_tn_0 : decode prog_114_method_1_code 0 = .ok (.aload_n 0, 1) := by decide +kernel
theorem d_tn_1 : decode prog_114_method_1_code 1 = .ok (.invokespecial 1, 3) := by decide +kernel
theorem d_tn_4 : decode prog_114_method_1_code 4 = .ok (.return_, 1) := by decide +kernel
theorem pn_com_example_intercept_rows_interceptrows_engine_TriggerNesting : plainName "com/example/intercept_rows/interceptrows/engine/TriggerNesting" = true := by first | (simp [plainName, overriddenIn]; done) | decide +kernel
theorem ef_tn (m : MethodId) (x0 : Addr) : entryFrame m #[(.ref x0)] 1 = mkF m 0 #[.val (.ref x0)] [] := by first | (simp [entryFrame, mkF, argsToLocals, Value.category]; done) | rfl
def Q_tn (Z : State) (a : Addr) (h0 : Heap) (n0 : Nat) (v : Option Value) (h : Heap) (L : List Loc) : Prop := v = none ∧ Fr n0 L ∧ h = h0
set_option maxRecDepth 65536 in
set_option maxHeartbeats 40000000 in
theorem rm_tn (l : Launch) (Z : State) (a0 : Array Value) (hw : ∀ d ∈ tables_1, d.before a0 Z = true) (ws : List Jvm.Cond) (a : Addr) (h0 : Heap) (n0 : Nat) (Z0 : n0 ≤ h0.size)  :
    MetFree l (⟨"com/example/intercept_rows/interceptrows/engine/TriggerNesting", "<init>", "()V"⟩ : MethodName) (head1 (Jvm.Cond.code (⟨"com/example/intercept_rows/interceptrows/engine/TriggerNesting", "<init>", "()V"⟩ : MethodName) prog_114_method_1_code 1 none :: ws) ({ frames := 1, cells := 0, slots := 0, locals := 12 } : Room)) (fun a_ U => a_ = #[(.ref a)] ∧ Z.Warmed39 U.vm ∧ U.heap = h0) (fun _ _ _ _ _ => True) (fun _ U o U' => ∃ v L, o = .returned v ∧ Q_tn Z a h0 n0 v U'.heap L ∧ FrameEnd U o U' L ({ frames := 1, cells := 0, slots := 0, locals := 12 } : Room).cells ({ frames := 1, cells := 0, slots := 0, locals := 12 } : Room).slots) := by
  refine MetFree.of_bodySF (plainFor_of_name pn_com_example_intercept_rows_interceptrows_engine_TriggerNesting) hisR ?_
  intro p e s m args below meth c s₁ Bd hml0 hP hK
  obtain ⟨rfl, hZ, hh⟩ := hP
  have hx := Bd.exec
  have hby := Bd.bytes
  have hml : c.maxLocals = 1 := hml0
  have hown : s.vm.findClass "com/example/intercept_rows/interceptrows/engine/TriggerNesting" = some m.cls := findClass_of_methodNamed Bd.named
  have hnm := (name_of_methodNamed Bd.named Bd.method).1
  have X0 : Stand p l e ({ frames := 1, cells := 0, slots := 0, locals := 12 } : Room) s m #[(.ref a)] below meth c s₁ [] 0 0 := Stand.of_body Bd
  have e0 : s₁.heap = h0 := by rw [← hh, Bd.state]; rfl
  have N0 := Fr.nil n0
  have hlk := Bd.notSynchronized
  have hret := Bd.returns
  show OGo p e below (OEnd s (Q_tn Z a h0 n0) ({ frames := 1, cells := 0, slots := 0, locals := 12 } : Room).cells ({ frames := 1, cells := 0, slots := 0, locals := 12 } : Room).slots) (s₁.setTop (entryFrame m #[(.ref a)] 1))
  rw [ef_tn]
  show OGo p e below _ (s₁.setTop (mkF m 0 #[.val (.ref a)] []))
  refine OGo.by_ (fun t k => XS.aloadN X0.here hx rfl (hb hby d_tn_0) rfl rfl k) ?_
  show OGo p e below _ (s₁.setTop (mkF m 1 #[.val (.ref a)] [(.ref a)]))
  obtain ⟨T1, X1, e1, st1⟩ := initO X0 hx hZ hown (hw _ (List.mem_of_getElem? (i := 52) rfl)) (hw _ (List.mem_of_getElem? (i := 15) rfl)) (hw _ (List.mem_of_getElem? (i := 16) rfl)) e0 (g := (mkF m 1 #[.val (.ref a)] [(.ref a)])) rfl (by rw [hml]; rfl) rfl (hb hby d_tn_1) (by decide) (W := 0) (by show 2 * 0 + _ ≤ _; exact Nat.le_of_eq rfl) (by decide)
  refine OGo.by_ st1 ?_
  show OGo p e below _ (T1.setTop (mkF m 4 #[.val (.ref a)] []))
  exact own_ret X1 hx hlk hret (hb hby d_tn_4) (by decide) (by decide) (⟨rfl, N0, e1⟩)
theorem d_hm_0 : decode jdk_69_method_7_code 0 = .ok (.aload_n 0, 1) := by decide +kernel
theorem d_hm_1 : decode jdk_69_method_7_code 1 = .ok (.invokespecial 43, 3) := by decide +kernel
theorem pd_ocV : parseMethodDescriptor "()V" = some ⟨[], none⟩ := by decide +kernel
theorem d_hm_4 : decode jdk_69_method_7_code 4 = .ok (.aload_n 0, 1) := by decide +kernel
theorem d_hm_5 : decode jdk_69_method_7_code 5 = .ok (.ldc 92, 2) := by decide +kernel
theorem d_hm_7 : decode jdk_69_method_7_code 7 = .ok (.putfield 81, 3) := by decide +kernel
theorem d_hm_10 : decode jdk_69_method_7_code 10 = .ok (.return_, 1) := by decide +kernel
theorem pn_java_util_HashMap : plainName "java/util/HashMap" = true := by first | (simp [plainName, overriddenIn]; done) | decide +kernel
theorem ef_hm (m : MethodId) (x0 : Addr) : entryFrame m #[(.ref x0)] 1 = mkF m 0 #[.val (.ref x0)] [] := by first | (simp [entryFrame, mkF, argsToLocals, Value.category]; done) | rfl
def Q_hm (Z : State) (a : Addr) (h0 : Heap) (n0 : Nat) (v : Option Value) (h : Heap) (L : List Loc) : Prop := v = none ∧ Fr n0 L ∧ Keep h0 h [a]
set_option maxRecDepth 65536 in
set_option maxHeartbeats 40000000 in
theorem rm_hm (l : Launch) (Z : State) (a0 : Array Value) (hw : ∀ d ∈ tables_1, d.before a0 Z = true) (ws : List Jvm.Cond) (a : Addr) (h0 : Heap) (n0 : Nat) (Z0 : n0 ≤ h0.size) (E0 : Exa Z h0 a "java/util/HashMap") (F0 : Fld Z h0 a "java/util/HashMap" "loadFactor" "F" (.float (0 : UInt32))) (g : n0 ≤ a) :
    MetFree l (⟨"java/util/HashMap", "<init>", "()V"⟩ : MethodName) (head1 (Jvm.Cond.code (⟨"java/util/HashMap", "<init>", "()V"⟩ : MethodName) jdk_69_method_7_code 1 none :: ws) ({ frames := 2, cells := 0, slots := 0, locals := 24 } : Room)) (fun a_ U => a_ = #[(.ref a)] ∧ Z.Warmed39 U.vm ∧ U.heap = h0) (fun _ _ _ _ _ => True) (fun _ U o U' => ∃ v L, o = .returned v ∧ Q_hm Z a h0 n0 v U'.heap L ∧ FrameEnd U o U' L ({ frames := 2, cells := 0, slots := 0, locals := 24 } : Room).cells ({ frames := 2, cells := 0, slots := 0, locals := 24 } : Room).slots) := by
  refine MetFree.of_bodySF (plainFor_of_name pn_java_util_HashMap) hisR ?_
  intro p e s m args below meth c s₁ Bd hml0 hP hK
  obtain ⟨rfl, hZ, hh⟩ := hP
  have hx := Bd.exec
  have hby := Bd.bytes
  have hml : c.maxLocals = 1 := hml0
  have hown : s.vm.findClass "java/util/HashMap" = some m.cls := findClass_of_methodNamed Bd.named
  have hnm := (name_of_methodNamed Bd.named Bd.method).1
  have X0 : Stand p l e ({ frames := 2, cells := 0, slots := 0, locals := 24 } : Room) s m #[(.ref a)] below meth c s₁ [] 0 0 := Stand.of_body Bd
  have e0 : s₁.heap = h0 := by rw [← hh, Bd.state]; rfl
  have N0 := Fr.nil n0
  have hlk := Bd.notSynchronized
  have hret := Bd.returns
  show OGo p e below (OEnd s (Q_hm Z a h0 n0) ({ frames := 2, cells := 0, slots := 0, locals := 24 } : Room).cells ({ frames := 2, cells := 0, slots := 0, locals := 24 } : Room).slots) (s₁.setTop (entryFrame m #[(.ref a)] 1))
  rw [ef_hm]
  show OGo p e below _ (s₁.setTop (mkF m 0 #[.val (.ref a)] []))
  refine OGo.by_ (fun t k => XS.aloadN X0.here hx rfl (hb hby d_hm_0) rfl rfl k) ?_
  show OGo p e below _ (s₁.setTop (mkF m 1 #[.val (.ref a)] [(.ref a)]))
  obtain ⟨_, _, ⟨T1, L1, k1, n1⟩, -, X1, ⟨Lc1, hQ1, l1, y1, z1⟩, st1⟩ := X0.specialBack hx (y := (⟨"java/util/AbstractMap", "<init>", "()V"⟩ : MethodName)) rfl hown (mvT hZ (hw _ (List.mem_of_getElem? (i := 23) rfl))) (mvT hZ (hw _ (List.mem_of_getElem? (i := 24) rfl))) (mvT hZ (hw _ (List.mem_of_getElem? (i := 28) rfl))) (by decide) (backOf (W := 0) (rm_abm l Z a0 hw [] a h0 n0 Z0) hZ (hw _ (List.mem_of_getElem? (i := 28) rfl)) (hw _ (List.mem_of_getElem? (i := 27) rfl)) (by decide) (by decide)) (g := (mkF m 1 #[.val (.ref a)] [(.ref a)])) rfl (by rw [hml]; rfl) (Steps.refl _) (a := a) (argsL := []) (rest := []) (lenOf pd_ocV rfl) rfl (by show 2 * 0 + _ ≤ _; exact Nat.le_of_eq rfl) (hb hby d_hm_1) (fun _ _ => ⟨rfl, e0, (by decide : 0 + 0 ≤ _), (by decide : 0 + 0 ≤ _)⟩)
  dsimp only [Pt.U, Pt.locs, Pt.cells, Pt.slots] at X1 l1 y1 z1 st1 hQ1
  subst l1 y1 z1
  obtain ⟨rfl, Nq1, eq1⟩ := hQ1
  have N1 := Fr.app N0 Nq1
  refine OGo.by_ (fun t k => st1.trans k) ?_
  show OGo p e below _ (T1.setTop (mkF m 4 #[.val (.ref a)] []))
  refine OGo.by_ (fun t k => XS.aloadN X1.here hx rfl (hb hby d_hm_4) rfl rfl k) ?_
  show OGo p e below _ (T1.setTop (mkF m 5 #[.val (.ref a)] [(.ref a)]))
  refine OGo.by_ (fun t k => X1.ldcFloatC hx hown (mvT hZ (hw _ (List.mem_of_getElem? (i := 30) rfl))) (g := (mkF m 5 #[.val (.ref a)] [(.ref a)])) rfl (hb hby d_hm_5) _ k) ?_
  show OGo p e below _ (T1.setTop (mkF m 7 #[.val (.ref a)] [(.float (1061158912 : UInt32)), (.ref a)]))
  obtain ⟨T2, h2, X2, e2, W2, st2⟩ := putF X1 hx hZ hown (host := "") (Or.inl (hw _ (List.mem_of_getElem? (i := 31) rfl))) Via.refl eq1 F0 E0 (Or.inr ⟨(hw _ (List.mem_of_getElem? (i := 32) rfl)), rfl, hnm⟩) (hw _ (List.mem_of_getElem? (i := 18) rfl)) (ty := .float) (by decide) rfl rfl (g := (mkF m 7 #[.val (.ref a)] [(.float (1061158912 : UInt32)), (.ref a)])) rfl rfl (hb hby d_hm_7)
  refine OGo.by_ st2 ?_
  show OGo p e below _ (T2.setTop (mkF m 10 #[.val (.ref a)] []))
  have N2 := Fr.snoc X2 N1 g
  exact own_ret X2 hx hlk hret (hb hby d_hm_10) (by decide) (by decide) (by rw [e2]; exact ⟨rfl, N2, Keep.of_wr W2⟩)
theorem d_neg_0 : decode jdk_2316_method_22_code 0 = .ok (.aload_n 0, 1) := by decide +kernel
theorem d_neg_1 : decode jdk_2316_method_22_code 1 = .ok (.getfield 221, 3) := by decide +kernel
theorem d_neg_4 : decode jdk_2316_method_22_code 4 = .ok (.lconst 0, 1) := by decide +kernel
theorem d_neg_5 : decode jdk_2316_method_22_code 5 = .ok (.lcmp, 1) := by decide +kernel
theorem d_neg_6 : decode jdk_2316_method_22_code 6 = .ok (.ifCond .ge 7, 3) := by decide +kernel
theorem d_neg_13 : decode jdk_2316_method_22_code 13 = .ok (.iconst 0, 1) := by decide +kernel
theorem d_neg_14 : decode jdk_2316_method_22_code 14 = .ok (.ireturn, 1) := by decide +kernel
theorem pn_java_time_Duration : plainName "java/time/Duration" = true := by first | (simp [plainName, overriddenIn]; done) | decide +kernel
theorem ef_neg (m : MethodId) (x0 : Addr) : entryFrame m #[(.ref x0)] 1 = mkF m 0 #[.val (.ref x0)] [] := by first | (simp [entryFrame, mkF, argsToLocals, Value.category]; done) | rfl
def Q_neg (Z : State) (a : Addr) (h0 : Heap) (n0 : Nat) (v : Option Value) (h : Heap) (L : List Loc) : Prop := v = some (.int (0 : Int32)) ∧ Fr n0 L ∧ h = h0
set_option maxRecDepth 65536 in
set_option maxHeartbeats 40000000 in
theorem rm_neg (l : Launch) (Z : State) (a0 : Array Value) (hw : ∀ d ∈ tables_1, d.before a0 Z = true) (ws : List Jvm.Cond) (a : Addr) (h0 : Heap) (n0 : Nat) (Z0 : n0 ≤ h0.size) (F0 : Fld Z h0 a "java/time/Duration" "seconds" "J" (.long (10 : Int64))) :
    MetFree l (⟨"java/time/Duration", "isNegative", "()Z"⟩ : MethodName) (head1 (Jvm.Cond.code (⟨"java/time/Duration", "isNegative", "()Z"⟩ : MethodName) jdk_2316_method_22_code 1 (some .boolean) :: ws) ({ frames := 0, cells := 0, slots := 0, locals := 0 } : Room)) (fun a_ U => a_ = #[(.ref a)] ∧ Z.Warmed39 U.vm ∧ U.heap = h0) (fun _ _ _ _ _ => True) (fun _ U o U' => ∃ v L, o = .returned v ∧ Q_neg Z a h0 n0 v U'.heap L ∧ FrameEnd U o U' L ({ frames := 0, cells := 0, slots := 0, locals := 0 } : Room).cells ({ frames := 0, cells := 0, slots := 0, locals := 0 } : Room).slots) := by
  refine MetFree.of_bodySF (plainFor_of_name pn_java_time_Duration) hisR ?_
  intro p e s m args below meth c s₁ Bd hml0 hP hK
  obtain ⟨rfl, hZ, hh⟩ := hP
  have hx := Bd.exec
  have hby := Bd.bytes
  have hml : c.maxLocals = 1 := hml0
  have hown : s.vm.findClass "java/time/Duration" = some m.cls := findClass_of_methodNamed Bd.named
  have hnm := (name_of_methodNamed Bd.named Bd.method).1
  have X0 : Stand p l e ({ frames := 0, cells := 0, slots := 0, locals := 0 } : Room) s m #[(.ref a)] below meth c s₁ [] 0 0 := Stand.of_body Bd
  have e0 : s₁.heap = h0 := by rw [← hh, Bd.state]; rfl
  have N0 := Fr.nil n0
  have hlk := Bd.notSynchronized
  have hret := Bd.returns
  show OGo p e below (OEnd s (Q_neg Z a h0 n0) ({ frames := 0, cells := 0, slots := 0, locals := 0 } : Room).cells ({ frames := 0, cells := 0, slots := 0, locals := 0 } : Room).slots) (s₁.setTop (entryFrame m #[(.ref a)] 1))
  rw [ef_neg]
  show OGo p e below _ (s₁.setTop (mkF m 0 #[.val (.ref a)] []))
  refine OGo.by_ (fun t k => XS.aloadN X0.here hx rfl (hb hby d_neg_0) rfl rfl k) ?_
  show OGo p e below _ (s₁.setTop (mkF m 1 #[.val (.ref a)] [(.ref a)]))
  obtain ⟨T1, X1, e1, st1⟩ := getF X0 hx hZ hown (host := "") (Or.inl (hw _ (List.mem_of_getElem? (i := 61) rfl))) Via.refl e0 F0 (g := (mkF m 1 #[.val (.ref a)] [(.ref a)])) rfl rfl (hb hby d_neg_1)
  refine OGo.by_ st1 ?_
  show OGo p e below _ (T1.setTop (mkF m 4 #[.val (.ref a)] [(.long (10 : Int64))]))
  refine OGo.by_ (fun t k => XS.lconst X1.here hx rfl (hb hby d_neg_4) k) ?_
  show OGo p e below _ (T1.setTop (mkF m 5 #[.val (.ref a)] [(.long (0 : Int64)), (.long (10 : Int64))]))
  refine OGo.by_ (fun t k => XS.lcmp X1.here hx rfl (hb hby d_neg_5) rfl k) ?_
  show OGo p e below _ (T1.setTop (mkF m 6 #[.val (.ref a)] [(.int (lcmpW (10 : Int64) (0 : Int64)))]))
  refine OGo.by_ (fun t k => XS.ifYes X1.here hx rfl (pc0 := 6) (pc' := 13) rfl (hb hby d_neg_6) rfl ((if0 _ _).trans (flt (by decide)).2.1) (by decide) (by decide) k) ?_
  show OGo p e below _ (T1.setTop (mkF m 13 #[.val (.ref a)] []))
  refine OGo.by_ (fun t k => XS.iconst X1.here hx rfl (hb hby d_neg_13) k) ?_
  show OGo p e below _ (T1.setTop (mkF m 14 #[.val (.ref a)] [(.int (0 : Int32))]))
  exact own_retN X1 hx hlk (t := .boolean) hret (by simp) (hb hby d_neg_14) (by decide) (by decide) (⟨rfl, N0, e1⟩)
theorem d_lc_0 : decode jdk_35_method_42_code 0 = .ok (.lload_n 0, 1) := by decide +kernel
theorem d_lc_1 : decode jdk_35_method_42_code 1 = .ok (.lload_n 2, 1) := by decide +kernel
theorem d_lc_2 : decode jdk_35_method_42_code 2 = .ok (.lcmp, 1) := by decide +kernel
theorem d_lc_3 : decode jdk_35_method_42_code 3 = .ok (.ifCond .ge 7, 3) := by decide +kernel
theorem d_lc_6 : decode jdk_35_method_42_code 6 = .ok (.iconst (-1), 1) := by decide +kernel
theorem d_lc_7 : decode jdk_35_method_42_code 7 = .ok (.goto 14, 3) := by decide +kernel
theorem d_lc_21 : decode jdk_35_method_42_code 21 = .ok (.ireturn, 1) := by decide +kernel
theorem pn_java_lang_Long : plainName "java/lang/Long" = true := by first | (simp [plainName, overriddenIn]; done) | decide +kernel
theorem ef_lc (m : MethodId) (x0 : Int64) (x1 : Int64) : entryFrame m #[(.long x0), (.long x1)] 4 = mkF m 0 #[.val (.long x0), .second, .val (.long x1), .second] [] := by first | (simp [entryFrame, mkF, argsToLocals, Value.category]; done) | rfl
def Q_lc (Z : State)  (h0 : Heap) (n0 : Nat) (v : Option Value) (h : Heap) (L : List Loc) : Prop := v = some (.int (-1 : Int32)) ∧ Fr n0 L ∧ h = h0
set_option maxRecDepth 65536 in
set_option maxHeartbeats 40000000 in
theorem rm_lc (l : Launch) (Z : State) (a0 : Array Value) (hw : ∀ d ∈ tables_1, d.before a0 Z = true) (ws : List Jvm.Cond)  (h0 : Heap) (n0 : Nat) (Z0 : n0 ≤ h0.size)  :
    MetFree l (⟨"java/lang/Long", "compare", "(JJ)I"⟩ : MethodName) (head1 (Jvm.Cond.code (⟨"java/lang/Long", "compare", "(JJ)I"⟩ : MethodName) jdk_35_method_42_code 4 (some .int) :: ws) ({ frames := 0, cells := 0, slots := 0, locals := 0 } : Room)) (fun a_ U => a_ = #[(.long (10 : Int64)), (.long (9223372036 : Int64))] ∧ Z.Warmed39 U.vm ∧ U.heap = h0) (fun _ _ _ _ _ => True) (fun _ U o U' => ∃ v L, o = .returned v ∧ Q_lc Z  h0 n0 v U'.heap L ∧ FrameEnd U o U' L ({ frames := 0, cells := 0, slots := 0, locals := 0 } : Room).cells ({ frames := 0, cells := 0, slots := 0, locals := 0 } : Room).slots) := by
  refine MetFree.of_bodySF (plainFor_of_name pn_java_lang_Long) hisR ?_
  intro p e s m args below meth c s₁ Bd hml0 hP hK
  obtain ⟨rfl, hZ, hh⟩ := hP
  have hx := Bd.exec
  have hby := Bd.bytes
  have hml : c.maxLocals = 4 := hml0
  have hown : s.vm.findClass "java/lang/Long" = some m.cls := findClass_of_methodNamed Bd.named
  have hnm := (name_of_methodNamed Bd.named Bd.method).1
  have X0 : Stand p l e ({ frames := 0, cells := 0, slots := 0, locals := 0 } : Room) s m #[(.long (10 : Int64)), (.long (9223372036 : Int64))] below meth c s₁ [] 0 0 := Stand.of_body Bd
  have e0 : s₁.heap = h0 := by rw [← hh, Bd.state]; rfl
  have N0 := Fr.nil n0
  have hlk := Bd.notSynchronized
  have hret := Bd.returns
  show OGo p e below (OEnd s (Q_lc Z  h0 n0) ({ frames := 0, cells := 0, slots := 0, locals := 0 } : Room).cells ({ frames := 0, cells := 0, slots := 0, locals := 0 } : Room).slots) (s₁.setTop (entryFrame m #[(.long (10 : Int64)), (.long (9223372036 : Int64))] 4))
  rw [ef_lc]
  show OGo p e below _ (s₁.setTop (mkF m 0 #[.val (.long (10 : Int64)), .second, .val (.long (9223372036 : Int64)), .second] []))
  refine OGo.by_ (fun t k => XS.lloadN X0.here hx rfl (hb hby d_lc_0) rfl k) ?_
  show OGo p e below _ (s₁.setTop (mkF m 1 #[.val (.long (10 : Int64)), .second, .val (.long (9223372036 : Int64)), .second] [(.long (10 : Int64))]))
  refine OGo.by_ (fun t k => XS.lloadN X0.here hx rfl (hb hby d_lc_1) rfl k) ?_
  show OGo p e below _ (s₁.setTop (mkF m 2 #[.val (.long (10 : Int64)), .second, .val (.long (9223372036 : Int64)), .second] [(.long (9223372036 : Int64)), (.long (10 : Int64))]))
  refine OGo.by_ (fun t k => XS.lcmp X0.here hx rfl (hb hby d_lc_2) rfl k) ?_
  show OGo p e below _ (s₁.setTop (mkF m 3 #[.val (.long (10 : Int64)), .second, .val (.long (9223372036 : Int64)), .second] [(.int (lcmpW (10 : Int64) (9223372036 : Int64)))]))
  refine OGo.by_ (fun t k => XS.ifNo X0.here hx rfl (hb hby d_lc_3) rfl ((if0 _ _).trans (tlt (by decide)).2.1) k) ?_
  show OGo p e below _ (s₁.setTop (mkF m 6 #[.val (.long (10 : Int64)), .second, .val (.long (9223372036 : Int64)), .second] []))
  refine OGo.by_ (fun t k => XS.iconst X0.here hx rfl (hb hby d_lc_6) k) ?_
  show OGo p e below _ (s₁.setTop (mkF m 7 #[.val (.long (10 : Int64)), .second, .val (.long (9223372036 : Int64)), .second] [(.int (-1 : Int32))]))
  refine OGo.by_ (fun t k => XS.goto X0.here hx rfl (pc0 := 7) (pc' := 21) rfl (hb hby d_lc_7) (by decide) (by decide) k) ?_
  show OGo p e below _ (s₁.setTop (mkF m 21 #[.val (.long (10 : Int64)), .second, .val (.long (9223372036 : Int64)), .second] [(.int (-1 : Int32))]))
  exact own_retI X0 hx hlk hret (hb hby d_lc_21) (by decide) (by decide) (⟨rfl, N0, e0⟩)
theorem d_cmp_0 : decode jdk_2316_method_66_code 0 = .ok (.aload_n 0, 1) := by decide +kernel
theorem d_cmp_1 : decode jdk_2316_method_66_code 1 = .ok (.getfield 221, 3) := by decide +kernel
theorem d_cmp_4 : decode jdk_2316_method_66_code 4 = .ok (.aload_n 1, 1) := by decide +kernel
theorem d_cmp_5 : decode jdk_2316_method_66_code 5 = .ok (.getfield 221, 3) := by decide +kernel
theorem d_cmp_8 : decode jdk_2316_method_66_code 8 = .ok (.invokestatic 416, 3) := by decide +kernel
theorem pd_oJJcI : parseMethodDescriptor "(JJ)I" = some ⟨[.long, .long], some .int⟩ := by decide +kernel
theorem d_cmp_11 : decode jdk_2316_method_66_code 11 = .ok (.istore_n 2, 1) := by decide +kernel
theorem d_cmp_12 : decode jdk_2316_method_66_code 12 = .ok (.iload_n 2, 1) := by decide +kernel
theorem d_cmp_13 : decode jdk_2316_method_66_code 13 = .ok (.ifCond .eq 5, 3) := by decide +kernel
theorem d_cmp_16 : decode jdk_2316_method_66_code 16 = .ok (.iload_n 2, 1) := by decide +kernel
theorem d_cmp_17 : decode jdk_2316_method_66_code 17 = .ok (.ireturn, 1) := by decide +kernel
theorem ef_cmp (m : MethodId) (x0 : Addr) (x1 : Addr) : entryFrame m #[(.ref x0), (.ref x1)] 3 = mkF m 0 #[.val (.ref x0), .val (.ref x1), .unset] [] := by first | (simp [entryFrame, mkF, argsToLocals, Value.category]; done) | rfl
def Q_cmp (Z : State) (a b : Addr) (h0 : Heap) (n0 : Nat) (v : Option Value) (h : Heap) (L : List Loc) : Prop := v = some (.int (-1 : Int32)) ∧ Fr n0 L ∧ h = h0
set_option maxRecDepth 65536 in
set_option maxHeartbeats 40000000 in
theorem rm_cmp (l : Launch) (Z : State) (a0 : Array Value) (hw : ∀ d ∈ tables_1, d.before a0 Z = true) (ws : List Jvm.Cond) (a b : Addr) (h0 : Heap) (n0 : Nat) (Z0 : n0 ≤ h0.size) (F0 : Fld Z h0 a "java/time/Duration" "seconds" "J" (.long (10 : Int64))) (F1 : Fld Z h0 b "java/time/Duration" "seconds" "J" (.long (9223372036 : Int64))) :
    MetFree l (⟨"java/time/Duration", "compareTo", "(Ljava/time/Duration;)I"⟩ : MethodName) (head1 (Jvm.Cond.code (⟨"java/time/Duration", "compareTo", "(Ljava/time/Duration;)I"⟩ : MethodName) jdk_2316_method_66_code 3 (some .int) :: ws) ({ frames := 1, cells := 0, slots := 0, locals := 15 } : Room)) (fun a_ U => a_ = #[(.ref a), (.ref b)] ∧ Z.Warmed39 U.vm ∧ U.heap = h0) (fun _ _ _ _ _ => True) (fun _ U o U' => ∃ v L, o = .returned v ∧ Q_cmp Z a b h0 n0 v U'.heap L ∧ FrameEnd U o U' L ({ frames := 1, cells := 0, slots := 0, locals := 15 } : Room).cells ({ frames := 1, cells := 0, slots := 0, locals := 15 } : Room).slots) := by
  refine MetFree.of_bodySF (plainFor_of_name pn_java_time_Duration) hisR ?_
  intro p e s m args below meth c s₁ Bd hml0 hP hK
  obtain ⟨rfl, hZ, hh⟩ := hP
  have hx := Bd.exec
  have hby := Bd.bytes
  have hml : c.maxLocals = 3 := hml0
  have hown : s.vm.findClass "java/time/Duration" = some m.cls := findClass_of_methodNamed Bd.named
  have hnm := (name_of_methodNamed Bd.named Bd.method).1
  have X0 : Stand p l e ({ frames := 1, cells := 0, slots := 0, locals := 15 } : Room) s m #[(.ref a), (.ref b)] below meth c s₁ [] 0 0 := Stand.of_body Bd
  have e0 : s₁.heap = h0 := by rw [← hh, Bd.state]; rfl
  have N0 := Fr.nil n0
  have hlk := Bd.notSynchronized
  have hret := Bd.returns
  show OGo p e below (OEnd s (Q_cmp Z a b h0 n0) ({ frames := 1, cells := 0, slots := 0, locals := 15 } : Room).cells ({ frames := 1, cells := 0, slots := 0, locals := 15 } : Room).slots) (s₁.setTop (entryFrame m #[(.ref a), (.ref b)] 3))
  rw [ef_cmp]
  show OGo p e below _ (s₁.setTop (mkF m 0 #[.val (.ref a), .val (.ref b), .unset] []))
  refine OGo.by_ (fun t k => XS.aloadN X0.here hx rfl (hb hby d_cmp_0) rfl rfl k) ?_
  show OGo p e below _ (s₁.setTop (mkF m 1 #[.val (.ref a), .val (.ref b), .unset] [(.ref a)]))
  obtain ⟨T1, X1, e1, st1⟩ := getF X0 hx hZ hown (host := "") (Or.inl (hw _ (List.mem_of_getElem? (i := 61) rfl))) Via.refl e0 F0 (g := (mkF m 1 #[.val (.ref a), .val (.ref b), .unset] [(.ref a)])) rfl rfl (hb hby d_cmp_1)
  refine OGo.by_ st1 ?_
  show OGo p e below _ (T1.setTop (mkF m 4 #[.val (.ref a), .val (.ref b), .unset] [(.long (10 : Int64))]))
  refine OGo.by_ (fun t k => XS.aloadN X1.here hx rfl (hb hby d_cmp_4) rfl rfl k) ?_
  show OGo p e below _ (T1.setTop (mkF m 5 #[.val (.ref a), .val (.ref b), .unset] [(.ref b), (.long (10 : Int64))]))
  obtain ⟨T2, X2, e2, st2⟩ := getF X1 hx hZ hown (host := "") (Or.inl (hw _ (List.mem_of_getElem? (i := 61) rfl))) Via.refl e1 F1 (g := (mkF m 5 #[.val (.ref a), .val (.ref b), .unset] [(.ref b), (.long (10 : Int64))])) rfl rfl (hb hby d_cmp_5)
  refine OGo.by_ st2 ?_
  show OGo p e below _ (T2.setTop (mkF m 8 #[.val (.ref a), .val (.ref b), .unset] [(.long (9223372036 : Int64)), (.long (10 : Int64))]))
  obtain ⟨_, _, ⟨T3, L3, k3, n3⟩, -, X3, ⟨Lc3, hQ3, l3, y3, z3⟩, st3⟩ := Jvm.LawKit.callS X2 hx (y := (⟨"java/lang/Long", "compare", "(JJ)I"⟩ : MethodName)) hown (mvT hZ (hw _ (List.mem_of_getElem? (i := 70) rfl))) (mvT hZ (hw _ (List.mem_of_getElem? (i := 71) rfl))) (mvT hZ (hw _ (List.mem_of_getElem? (i := 72) rfl))) (mvT hZ (hw _ (List.mem_of_getElem? (i := 73) rfl))) (by decide) (backOf (W := 0) (rm_lc l Z a0 hw [] h0 n0 Z0) hZ (hw _ (List.mem_of_getElem? (i := 73) rfl)) (hw _ (List.mem_of_getElem? (i := 72) rfl)) (by decide) (by decide)) (g := (mkF m 8 #[.val (.ref a), .val (.ref b), .unset] [(.long (9223372036 : Int64)), (.long (10 : Int64))])) rfl (by rw [hml]; rfl) (argsL := [(.long (10 : Int64)), (.long (9223372036 : Int64))]) (rest := []) (lenOf pd_oJJcI rfl) rfl (by show 2 * 0 + _ ≤ _; exact Nat.le_of_eq rfl) (hb hby d_cmp_8) (fun _ _ => ⟨rfl, e2, (by decide : 0 + 0 ≤ _), (by decide : 0 + 0 ≤ _)⟩)
  dsimp only [Pt.U, Pt.locs, Pt.cells, Pt.slots] at X3 l3 y3 z3 st3 hQ3
  subst l3 y3 z3
  obtain ⟨rfl, Nq3, eq3⟩ := hQ3
  have N3 := Fr.app N0 Nq3
  refine OGo.by_ st3 ?_
  show OGo p e below _ (T3.setTop (mkF m 11 #[.val (.ref a), .val (.ref b), .unset] [(.int (-1 : Int32))]))
  refine OGo.by_ (fun t k => XS.istoreN X3.here hx rfl (hb hby d_cmp_11) rfl (l' := #[.val (.ref a), .val (.ref b), .val (.int (-1 : Int32))]) rfl k) ?_
  show OGo p e below _ (T3.setTop (mkF m 12 #[.val (.ref a), .val (.ref b), .val (.int (-1 : Int32))] []))
  refine OGo.by_ (fun t k => XS.iloadN X3.here hx rfl (hb hby d_cmp_12) rfl k) ?_
  show OGo p e below _ (T3.setTop (mkF m 13 #[.val (.ref a), .val (.ref b), .val (.int (-1 : Int32))] [(.int (-1 : Int32))]))
  refine OGo.by_ (fun t k => XS.ifNo X3.here hx rfl (hb hby d_cmp_13) rfl ((if0 _ _).trans (feq (by decide)).1) k) ?_
  show OGo p e below _ (T3.setTop (mkF m 16 #[.val (.ref a), .val (.ref b), .val (.int (-1 : Int32))] []))
  refine OGo.by_ (fun t k => XS.iloadN X3.here hx rfl (hb hby d_cmp_16) rfl k) ?_
  show OGo p e below _ (T3.setTop (mkF m 17 #[.val (.ref a), .val (.ref b), .val (.int (-1 : Int32))] [(.int (-1 : Int32))]))
  exact own_retI X3 hx hlk hret (hb hby d_cmp_17) (by decide) (by decide) (⟨rfl, N3, eq3⟩)
theorem d_abs_0 : decode jdk_29_method_61_code 0 = .ok (.lload_n 0, 1) := by decide +kernel
theorem d_abs_1 : decode jdk_29_method_61_code 1 = .ok (.lconst 0, 1) := by decide +kernel
theorem d_abs_2 : decode jdk_29_method_61_code 2 = .ok (.lcmp, 1) := by decide +kernel
theorem d_abs_3 : decode jdk_29_method_61_code 3 = .ok (.ifCond .ge 8, 3) := by decide +kernel
theorem d_abs_11 : decode jdk_29_method_61_code 11 = .ok (.lload_n 0, 1) := by decide +kernel
theorem d_abs_12 : decode jdk_29_method_61_code 12 = .ok (.lreturn, 1) := by decide +kernel
theorem ef_abs (m : MethodId) (x0 : Int64) : entryFrame m #[(.long x0)] 2 = mkF m 0 #[.val (.long x0), .second] [] := by first | (simp [entryFrame, mkF, argsToLocals, Value.category]; done) | rfl
def Q_abs (Z : State) (q : Int64) (h0 : Heap) (n0 : Nat) (v : Option Value) (h : Heap) (L : List Loc) : Prop := v = some (.long q) ∧ Fr n0 L ∧ h = h0
set_option maxRecDepth 65536 in
set_option maxHeartbeats 40000000 in
theorem rm_abs (l : Launch) (Z : State) (a0 : Array Value) (hw : ∀ d ∈ tables_1, d.before a0 Z = true) (ws : List Jvm.Cond) (q : Int64) (h0 : Heap) (n0 : Nat) (Z0 : n0 ≤ h0.size) (hq : ¬ q < (0 : Int64)) :
    MetFree l (⟨"java/lang/Math", "abs", "(J)J"⟩ : MethodName) (head1 (Jvm.Cond.code (⟨"java/lang/Math", "abs", "(J)J"⟩ : MethodName) jdk_29_method_61_code 2 (some .long) :: ws) ({ frames := 0, cells := 0, slots := 0, locals := 0 } : Room)) (fun a_ U => a_ = #[(.long q)] ∧ Z.Warmed39 U.vm ∧ U.heap = h0) (fun _ _ _ _ _ => True) (fun _ U o U' => ∃ v L, o = .returned v ∧ Q_abs Z q h0 n0 v U'.heap L ∧ FrameEnd U o U' L ({ frames := 0, cells := 0, slots := 0, locals := 0 } : Room).cells ({ frames := 0, cells := 0, slots := 0, locals := 0 } : Room).slots) := by
  refine MetFree.of_bodySF (Jvm.Free.JP.mathPlain rfl (by decide +kernel)) hisR ?_
  intro p e s m args below meth c s₁ Bd hml0 hP hK
  obtain ⟨rfl, hZ, hh⟩ := hP
  have hx := Bd.exec
  have hby := Bd.bytes
  have hml : c.maxLocals = 2 := hml0
  have hown : s.vm.findClass "java/lang/Math" = some m.cls := findClass_of_methodNamed Bd.named
  have hnm := (name_of_methodNamed Bd.named Bd.method).1
  have X0 : Stand p l e ({ frames := 0, cells := 0, slots := 0, locals := 0 } : Room) s m #[(.long q)] below meth c s₁ [] 0 0 := Stand.of_body Bd
  have e0 : s₁.heap = h0 := by rw [← hh, Bd.state]; rfl
  have N0 := Fr.nil n0
  have hlk := Bd.notSynchronized
  have hret := Bd.returns
  show OGo p e below (OEnd s (Q_abs Z q h0 n0) ({ frames := 0, cells := 0, slots := 0, locals := 0 } : Room).cells ({ frames := 0, cells := 0, slots := 0, locals := 0 } : Room).slots) (s₁.setTop (entryFrame m #[(.long q)] 2))
  rw [ef_abs]
  show OGo p e below _ (s₁.setTop (mkF m 0 #[.val (.long q), .second] []))
  refine OGo.by_ (fun t k => XS.lloadN X0.here hx rfl (hb hby d_abs_0) rfl k) ?_
  show OGo p e below _ (s₁.setTop (mkF m 1 #[.val (.long q), .second] [(.long q)]))
  refine OGo.by_ (fun t k => XS.lconst X0.here hx rfl (hb hby d_abs_1) k) ?_
  show OGo p e below _ (s₁.setTop (mkF m 2 #[.val (.long q), .second] [(.long (0 : Int64)), (.long q)]))
  refine OGo.by_ (fun t k => XS.lcmp X0.here hx rfl (hb hby d_abs_2) rfl k) ?_
  show OGo p e below _ (s₁.setTop (mkF m 3 #[.val (.long q), .second] [(.int (lcmpW q (0 : Int64)))]))
  refine OGo.by_ (fun t k => XS.ifYes X0.here hx rfl (pc0 := 3) (pc' := 11) rfl (hb hby d_abs_3) rfl ((if0 _ _).trans (flt (fun h => hq ((lw_lt _ _).mp h))).2.1) (by decide) (by decide) k) ?_
  show OGo p e below _ (s₁.setTop (mkF m 11 #[.val (.long q), .second] []))
  refine OGo.by_ (fun t k => XS.lloadN X0.here hx rfl (hb hby d_abs_11) rfl k) ?_
  show OGo p e below _ (s₁.setTop (mkF m 12 #[.val (.long q), .second] [(.long q)]))
  exact own_retJ X0 hx hlk hret (hb hby d_abs_12) (by decide) (by decide) (⟨rfl, N0, e0⟩)
theorem d_mul_0 : decode jdk_29_method_30_code 0 = .ok (.lload_n 0, 1) := by decide +kernel
theorem d_mul_1 : decode jdk_29_method_30_code 1 = .ok (.lload_n 2, 1) := by decide +kernel
theorem d_mul_2 : decode jdk_29_method_30_code 2 = .ok (.lmul, 1) := by decide +kernel
theorem d_mul_3 : decode jdk_29_method_30_code 3 = .ok (.lstore 4, 2) := by decide +kernel
theorem d_mul_5 : decode jdk_29_method_30_code 5 = .ok (.lload_n 0, 1) := by decide +kernel
theorem d_mul_6 : decode jdk_29_method_30_code 6 = .ok (.invokestatic 122, 3) := by decide +kernel
theorem pd_oJcJ : parseMethodDescriptor "(J)J" = some ⟨[.long], some .long⟩ := by decide +kernel
theorem d_mul_9 : decode jdk_29_method_30_code 9 = .ok (.lstore 6, 2) := by decide +kernel
theorem d_mul_11 : decode jdk_29_method_30_code 11 = .ok (.lload_n 2, 1) := by decide +kernel
theorem d_mul_12 : decode jdk_29_method_30_code 12 = .ok (.invokestatic 122, 3) := by decide +kernel
theorem d_mul_15 : decode jdk_29_method_30_code 15 = .ok (.lstore 8, 2) := by decide +kernel
theorem d_mul_17 : decode jdk_29_method_30_code 17 = .ok (.lload 6, 2) := by decide +kernel
theorem d_mul_19 : decode jdk_29_method_30_code 19 = .ok (.lload 8, 2) := by decide +kernel
theorem d_mul_21 : decode jdk_29_method_30_code 21 = .ok (.lor, 1) := by decide +kernel
theorem d_mul_22 : decode jdk_29_method_30_code 22 = .ok (.bipush 31, 2) := by decide +kernel
theorem d_mul_24 : decode jdk_29_method_30_code 24 = .ok (.lushr, 1) := by decide +kernel
theorem d_mul_25 : decode jdk_29_method_30_code 25 = .ok (.lconst 0, 1) := by decide +kernel
theorem d_mul_26 : decode jdk_29_method_30_code 26 = .ok (.lcmp, 1) := by decide +kernel
theorem d_mul_27 : decode jdk_29_method_30_code 27 = .ok (.ifCond .eq 44, 3) := by decide +kernel
theorem d_mul_71 : decode jdk_29_method_30_code 71 = .ok (.lload 4, 2) := by decide +kernel
theorem d_mul_73 : decode jdk_29_method_30_code 73 = .ok (.lreturn, 1) := by decide +kernel
theorem ef_mul (m : MethodId) (x0 : Int64) (x1 : Int64) : entryFrame m #[(.long x0), (.long x1)] 10 = mkF m 0 #[.val (.long x0), .second, .val (.long x1), .second, .unset, .unset, .unset, .unset, .unset, .unset] [] := by first | (simp [entryFrame, mkF, argsToLocals, Value.category]; done) | rfl
def Q_mul (Z : State)  (h0 : Heap) (n0 : Nat) (v : Option Value) (h : Heap) (L : List Loc) : Prop := v = some (.long ((10 : Int64) * (1000000000 : Int64))) ∧ Fr n0 L ∧ h = h0
set_option maxRecDepth 65536 in
set_option maxHeartbeats 40000000 in
theorem rm_mul (l : Launch) (Z : State) (a0 : Array Value) (hw : ∀ d ∈ tables_1, d.before a0 Z = true) (ws : List Jvm.Cond)  (h0 : Heap) (n0 : Nat) (Z0 : n0 ≤ h0.size)  :
    MetFree l (⟨"java/lang/Math", "multiplyExact", "(JJ)J"⟩ : MethodName) (head1 (Jvm.Cond.code (⟨"java/lang/Math", "multiplyExact", "(JJ)J"⟩ : MethodName) jdk_29_method_30_code 10 (some .long) :: ws) ({ frames := 1, cells := 0, slots := 0, locals := 13 } : Room)) (fun a_ U => a_ = #[(.long (10 : Int64)), (.long (1000000000 : Int64))] ∧ Z.Warmed39 U.vm ∧ U.heap = h0) (fun _ _ _ _ _ => True) (fun _ U o U' => ∃ v L, o = .returned v ∧ Q_mul Z  h0 n0 v U'.heap L ∧ FrameEnd U o U' L ({ frames := 1, cells := 0, slots := 0, locals := 13 } : Room).cells ({ frames := 1, cells := 0, slots := 0, locals := 13 } : Room).slots) := by
  refine MetFree.of_bodySF (Jvm.Free.JP.mathPlain rfl (by decide +kernel)) hisR ?_
  intro p e s m args below meth c s₁ Bd hml0 hP hK
  obtain ⟨rfl, hZ, hh⟩ := hP
  have hx := Bd.exec
  have hby := Bd.bytes
  have hml : c.maxLocals = 10 := hml0
  have hown : s.vm.findClass "java/lang/Math" = some m.cls := findClass_of_methodNamed Bd.named
  have hnm := (name_of_methodNamed Bd.named Bd.method).1
  have X0 : Stand p l e ({ frames := 1, cells := 0, slots := 0, locals := 13 } : Room) s m #[(.long (10 : Int64)), (.long (1000000000 : Int64))] below meth c s₁ [] 0 0 := Stand.of_body Bd
  have e0 : s₁.heap = h0 := by rw [← hh, Bd.state]; rfl
  have N0 := Fr.nil n0
  have hlk := Bd.notSynchronized
  have hret := Bd.returns
  show OGo p e below (OEnd s (Q_mul Z  h0 n0) ({ frames := 1, cells := 0, slots := 0, locals := 13 } : Room).cells ({ frames := 1, cells := 0, slots := 0, locals := 13 } : Room).slots) (s₁.setTop (entryFrame m #[(.long (10 : Int64)), (.long (1000000000 : Int64))] 10))
  rw [ef_mul]
  show OGo p e below _ (s₁.setTop (mkF m 0 #[.val (.long (10 : Int64)), .second, .val (.long (1000000000 : Int64)), .second, .unset, .unset, .unset, .unset, .unset, .unset] []))
  refine OGo.by_ (fun t k => XS.lloadN X0.here hx rfl (hb hby d_mul_0) rfl k) ?_
  show OGo p e below _ (s₁.setTop (mkF m 1 #[.val (.long (10 : Int64)), .second, .val (.long (1000000000 : Int64)), .second, .unset, .unset, .unset, .unset, .unset, .unset] [(.long (10 : Int64))]))
  refine OGo.by_ (fun t k => XS.lloadN X0.here hx rfl (hb hby d_mul_1) rfl k) ?_
  show OGo p e below _ (s₁.setTop (mkF m 2 #[.val (.long (10 : Int64)), .second, .val (.long (1000000000 : Int64)), .second, .unset, .unset, .unset, .unset, .unset, .unset] [(.long (1000000000 : Int64)), (.long (10 : Int64))]))
  refine OGo.by_ (fun t k => XS.lmul X0.here hx rfl (hb hby d_mul_2) rfl k) ?_
  show OGo p e below _ (s₁.setTop (mkF m 3 #[.val (.long (10 : Int64)), .second, .val (.long (1000000000 : Int64)), .second, .unset, .unset, .unset, .unset, .unset, .unset] [(.long ((10 : Int64) * (1000000000 : Int64)))]))
  refine OGo.by_ (fun t k => XS.lstore X0.here hx rfl (hb hby d_mul_3) rfl (l' := #[.val (.long (10 : Int64)), .second, .val (.long (1000000000 : Int64)), .second, .val (.long ((10 : Int64) * (1000000000 : Int64))), .second, .unset, .unset, .unset, .unset]) rfl k) ?_
  show OGo p e below _ (s₁.setTop (mkF m 5 #[.val (.long (10 : Int64)), .second, .val (.long (1000000000 : Int64)), .second, .val (.long ((10 : Int64) * (1000000000 : Int64))), .second, .unset, .unset, .unset, .unset] []))
  refine OGo.by_ (fun t k => XS.lloadN X0.here hx rfl (hb hby d_mul_5) rfl k) ?_
  show OGo p e below _ (s₁.setTop (mkF m 6 #[.val (.long (10 : Int64)), .second, .val (.long (1000000000 : Int64)), .second, .val (.long ((10 : Int64) * (1000000000 : Int64))), .second, .unset, .unset, .unset, .unset] [(.long (10 : Int64))]))
  obtain ⟨_, _, ⟨T1, L1, k1, n1⟩, -, X1, ⟨Lc1, hQ1, l1, y1, z1⟩, st1⟩ := Jvm.LawKit.callS X0 hx (y := (⟨"java/lang/Math", "abs", "(J)J"⟩ : MethodName)) hown (mvT hZ (hw _ (List.mem_of_getElem? (i := 86) rfl))) (mvT hZ (hw _ (List.mem_of_getElem? (i := 87) rfl))) (mvT hZ (hw _ (List.mem_of_getElem? (i := 84) rfl))) (mvT hZ (hw _ (List.mem_of_getElem? (i := 88) rfl))) (by decide) (backOf (W := 0) (rm_abs l Z a0 hw [] (10 : Int64) h0 n0 Z0 (by decide)) hZ (hw _ (List.mem_of_getElem? (i := 88) rfl)) (hw _ (List.mem_of_getElem? (i := 84) rfl)) (by decide) (by decide)) (g := (mkF m 6 #[.val (.long (10 : Int64)), .second, .val (.long (1000000000 : Int64)), .second, .val (.long ((10 : Int64) * (1000000000 : Int64))), .second, .unset, .unset, .unset, .unset] [(.long (10 : Int64))])) rfl (by rw [hml]; rfl) (argsL := [(.long (10 : Int64))]) (rest := []) (lenOf pd_oJcJ rfl) rfl (by show 2 * 0 + _ ≤ _; exact Nat.le_of_eq rfl) (hb hby d_mul_6) (fun _ _ => ⟨rfl, e0, (by decide : 0 + 0 ≤ _), (by decide : 0 + 0 ≤ _)⟩)
  dsimp only [Pt.U, Pt.locs, Pt.cells, Pt.slots] at X1 l1 y1 z1 st1 hQ1
  subst l1 y1 z1
  obtain ⟨rfl, Nq1, eq1⟩ := hQ1
  have N1 := Fr.app N0 Nq1
  refine OGo.by_ st1 ?_
  show OGo p e below _ (T1.setTop (mkF m 9 #[.val (.long (10 : Int64)), .second, .val (.long (1000000000 : Int64)), .second, .val (.long ((10 : Int64) * (1000000000 : Int64))), .second, .unset, .unset, .unset, .unset] [(.long (10 : Int64))]))
  refine OGo.by_ (fun t k => XS.lstore X1.here hx rfl (hb hby d_mul_9) rfl (l' := #[.val (.long (10 : Int64)), .second, .val (.long (1000000000 : Int64)), .second, .val (.long ((10 : Int64) * (1000000000 : Int64))), .second, .val (.long (10 : Int64)), .second, .unset, .unset]) rfl k) ?_
  show OGo p e below _ (T1.setTop (mkF m 11 #[.val (.long (10 : Int64)), .second, .val (.long (1000000000 : Int64)), .second, .val (.long ((10 : Int64) * (1000000000 : Int64))), .second, .val (.long (10 : Int64)), .second, .unset, .unset] []))
  refine OGo.by_ (fun t k => XS.lloadN X1.here hx rfl (hb hby d_mul_11) rfl k) ?_
  show OGo p e below _ (T1.setTop (mkF m 12 #[.val (.long (10 : Int64)), .second, .val (.long (1000000000 : Int64)), .second, .val (.long ((10 : Int64) * (1000000000 : Int64))), .second, .val (.long (10 : Int64)), .second, .unset, .unset] [(.long (1000000000 : Int64))]))
  obtain ⟨_, _, ⟨T2, L2, k2, n2⟩, -, X2, ⟨Lc2, hQ2, l2, y2, z2⟩, st2⟩ := Jvm.LawKit.callS X1 hx (y := (⟨"java/lang/Math", "abs", "(J)J"⟩ : MethodName)) hown (mvT hZ (hw _ (List.mem_of_getElem? (i := 86) rfl))) (mvT hZ (hw _ (List.mem_of_getElem? (i := 87) rfl))) (mvT hZ (hw _ (List.mem_of_getElem? (i := 84) rfl))) (mvT hZ (hw _ (List.mem_of_getElem? (i := 88) rfl))) (by decide) (backOf (W := 0) (rm_abs l Z a0 hw [] (1000000000 : Int64) h0 n0 Z0 (by decide)) hZ (hw _ (List.mem_of_getElem? (i := 88) rfl)) (hw _ (List.mem_of_getElem? (i := 84) rfl)) (by decide) (by decide)) (g := (mkF m 12 #[.val (.long (10 : Int64)), .second, .val (.long (1000000000 : Int64)), .second, .val (.long ((10 : Int64) * (1000000000 : Int64))), .second, .val (.long (10 : Int64)), .second, .unset, .unset] [(.long (1000000000 : Int64))])) rfl (by rw [hml]; rfl) (argsL := [(.long (1000000000 : Int64))]) (rest := []) (lenOf pd_oJcJ rfl) rfl (by show 2 * 0 + _ ≤ _; exact Nat.le_of_eq rfl) (hb hby d_mul_12) (fun _ _ => ⟨rfl, eq1, (by decide : 0 + 0 ≤ _), (by decide : 0 + 0 ≤ _)⟩)
  dsimp only [Pt.U, Pt.locs, Pt.cells, Pt.slots] at X2 l2 y2 z2 st2 hQ2
  subst l2 y2 z2
  obtain ⟨rfl, Nq2, eq2⟩ := hQ2
  have N2 := Fr.app N1 Nq2
  refine OGo.by_ st2 ?_
  show OGo p e below _ (T2.setTop (mkF m 15 #[.val (.long (10 : Int64)), .second, .val (.long (1000000000 : Int64)), .second, .val (.long ((10 : Int64) * (1000000000 : Int64))), .second, .val (.long (10 : Int64)), .second, .unset, .unset] [(.long (1000000000 : Int64))]))
  refine OGo.by_ (fun t k => XS.lstore X2.here hx rfl (hb hby d_mul_15) rfl (l' := #[.val (.long (10 : Int64)), .second, .val (.long (1000000000 : Int64)), .second, .val (.long ((10 : Int64) * (1000000000 : Int64))), .second, .val (.long (10 : Int64)), .second, .val (.long (1000000000 : Int64)), .second]) rfl k) ?_
  show OGo p e below _ (T2.setTop (mkF m 17 #[.val (.long (10 : Int64)), .second, .val (.long (1000000000 : Int64)), .second, .val (.long ((10 : Int64) * (1000000000 : Int64))), .second, .val (.long (10 : Int64)), .second, .val (.long (1000000000 : Int64)), .second] []))
  refine OGo.by_ (fun t k => XS.lload X2.here hx rfl (hb hby d_mul_17) rfl k) ?_
  show OGo p e below _ (T2.setTop (mkF m 19 #[.val (.long (10 : Int64)), .second, .val (.long (1000000000 : Int64)), .second, .val (.long ((10 : Int64) * (1000000000 : Int64))), .second, .val (.long (10 : Int64)), .second, .val (.long (1000000000 : Int64)), .second] [(.long (10 : Int64))]))
  refine OGo.by_ (fun t k => XS.lload X2.here hx rfl (hb hby d_mul_19) rfl k) ?_
  show OGo p e below _ (T2.setTop (mkF m 21 #[.val (.long (10 : Int64)), .second, .val (.long (1000000000 : Int64)), .second, .val (.long ((10 : Int64) * (1000000000 : Int64))), .second, .val (.long (10 : Int64)), .second, .val (.long (1000000000 : Int64)), .second] [(.long (1000000000 : Int64)), (.long (10 : Int64))]))
  refine OGo.by_ (fun t k => XS.lor X2.here hx rfl (hb hby d_mul_21) rfl k) ?_
  show OGo p e below _ (T2.setTop (mkF m 22 #[.val (.long (10 : Int64)), .second, .val (.long (1000000000 : Int64)), .second, .val (.long ((10 : Int64) * (1000000000 : Int64))), .second, .val (.long (10 : Int64)), .second, .val (.long (1000000000 : Int64)), .second] [(.long ((10 : Int64) ||| (1000000000 : Int64)))]))
  refine OGo.by_ (fun t k => XS.bipush X2.here hx rfl (hb hby d_mul_22) k) ?_
  show OGo p e below _ (T2.setTop (mkF m 24 #[.val (.long (10 : Int64)), .second, .val (.long (1000000000 : Int64)), .second, .val (.long ((10 : Int64) * (1000000000 : Int64))), .second, .val (.long (10 : Int64)), .second, .val (.long (1000000000 : Int64)), .second] [(.int (31 : Int32)), (.long ((10 : Int64) ||| (1000000000 : Int64)))]))
  refine OGo.by_ (fun t k => XS.lushr X2.here hx rfl (hb hby d_mul_24) rfl k) ?_
  show OGo p e below _ (T2.setTop (mkF m 25 #[.val (.long (10 : Int64)), .second, .val (.long (1000000000 : Int64)), .second, .val (.long ((10 : Int64) * (1000000000 : Int64))), .second, .val (.long (10 : Int64)), .second, .val (.long (1000000000 : Int64)), .second] [(.long ((((10 : Int64) ||| (1000000000 : Int64)).toUInt64 >>> ((31 : Int32) &&& 0x3f).toInt64.toUInt64).toInt64))]))
  refine OGo.by_ (fun t k => XS.lconst X2.here hx rfl (hb hby d_mul_25) k) ?_
  show OGo p e below _ (T2.setTop (mkF m 26 #[.val (.long (10 : Int64)), .second, .val (.long (1000000000 : Int64)), .second, .val (.long ((10 : Int64) * (1000000000 : Int64))), .second, .val (.long (10 : Int64)), .second, .val (.long (1000000000 : Int64)), .second] [(.long (0 : Int64)), (.long ((((10 : Int64) ||| (1000000000 : Int64)).toUInt64 >>> ((31 : Int32) &&& 0x3f).toInt64.toUInt64).toInt64))]))
  refine OGo.by_ (fun t k => XS.lcmp X2.here hx rfl (hb hby d_mul_26) rfl k) ?_
  show OGo p e below _ (T2.setTop (mkF m 27 #[.val (.long (10 : Int64)), .second, .val (.long (1000000000 : Int64)), .second, .val (.long ((10 : Int64) * (1000000000 : Int64))), .second, .val (.long (10 : Int64)), .second, .val (.long (1000000000 : Int64)), .second] [(.int (lcmpW ((((10 : Int64) ||| (1000000000 : Int64)).toUInt64 >>> ((31 : Int32) &&& 0x3f).toInt64.toUInt64).toInt64) (0 : Int64)))]))
  refine OGo.by_ (fun t k => XS.ifYes X2.here hx rfl (pc0 := 27) (pc' := 71) rfl (hb hby d_mul_27) rfl ((if0 _ _).trans (teq (by decide)).1) (by decide) (by decide) k) ?_
  show OGo p e below _ (T2.setTop (mkF m 71 #[.val (.long (10 : Int64)), .second, .val (.long (1000000000 : Int64)), .second, .val (.long ((10 : Int64) * (1000000000 : Int64))), .second, .val (.long (10 : Int64)), .second, .val (.long (1000000000 : Int64)), .second] []))
  refine OGo.by_ (fun t k => XS.lload X2.here hx rfl (hb hby d_mul_71) rfl k) ?_
  show OGo p e below _ (T2.setTop (mkF m 73 #[.val (.long (10 : Int64)), .second, .val (.long (1000000000 : Int64)), .second, .val (.long ((10 : Int64) * (1000000000 : Int64))), .second, .val (.long (10 : Int64)), .second, .val (.long (1000000000 : Int64)), .second] [(.long ((10 : Int64) * (1000000000 : Int64)))]))
  exact own_retJ X2 hx hlk hret (hb hby d_mul_73) (by decide) (by decide) (⟨rfl, N2, eq2⟩)
theorem d_add_0 : decode jdk_29_method_25_code 0 = .ok (.lload_n 0, 1) := by decide +kernel
theorem d_add_1 : decode jdk_29_method_25_code 1 = .ok (.lload_n 2, 1) := by decide +kernel
theorem d_add_2 : decode jdk_29_method_25_code 2 = .ok (.ladd, 1) := by decide +kernel
theorem d_add_3 : decode jdk_29_method_25_code 3 = .ok (.lstore 4, 2) := by decide +kernel
theorem d_add_5 : decode jdk_29_method_25_code 5 = .ok (.lload_n 0, 1) := by decide +kernel
theorem d_add_6 : decode jdk_29_method_25_code 6 = .ok (.lload 4, 2) := by decide +kernel
theorem d_add_8 : decode jdk_29_method_25_code 8 = .ok (.lxor, 1) := by decide +kernel
theorem d_add_9 : decode jdk_29_method_25_code 9 = .ok (.lload_n 2, 1) := by decide +kernel
theorem d_add_10 : decode jdk_29_method_25_code 10 = .ok (.lload 4, 2) := by decide +kernel
theorem d_add_12 : decode jdk_29_method_25_code 12 = .ok (.lxor, 1) := by decide +kernel
theorem d_add_13 : decode jdk_29_method_25_code 13 = .ok (.land, 1) := by decide +kernel
theorem d_add_14 : decode jdk_29_method_25_code 14 = .ok (.lconst 0, 1) := by decide +kernel
theorem d_add_15 : decode jdk_29_method_25_code 15 = .ok (.lcmp, 1) := by decide +kernel
theorem d_add_16 : decode jdk_29_method_25_code 16 = .ok (.ifCond .ge 13, 3) := by decide +kernel
theorem d_add_29 : decode jdk_29_method_25_code 29 = .ok (.lload 4, 2) := by decide +kernel
theorem d_add_31 : decode jdk_29_method_25_code 31 = .ok (.lreturn, 1) := by decide +kernel
theorem ef_add (m : MethodId) (x0 : Int64) (x1 : Int64) : entryFrame m #[(.long x0), (.long x1)] 6 = mkF m 0 #[.val (.long x0), .second, .val (.long x1), .second, .unset, .unset] [] := by first | (simp [entryFrame, mkF, argsToLocals, Value.category]; done) | rfl
def Q_add (Z : State) (q r : Int64) (h0 : Heap) (n0 : Nat) (v : Option Value) (h : Heap) (L : List Loc) : Prop := v = some (.long (q + r)) ∧ Fr n0 L ∧ h = h0
set_option maxRecDepth 65536 in
set_option maxHeartbeats 40000000 in
theorem rm_add (l : Launch) (Z : State) (a0 : Array Value) (hw : ∀ d ∈ tables_1, d.before a0 Z = true) (ws : List Jvm.Cond) (q r : Int64) (h0 : Heap) (n0 : Nat) (Z0 : n0 ≤ h0.size) (hov : ¬ (lcmpW ((q ^^^ (q + r)) &&& (r ^^^ (q + r))) (0 : Int64)) < (0 : Int32)) :
    MetFree l (⟨"java/lang/Math", "addExact", "(JJ)J"⟩ : MethodName) (head1 (Jvm.Cond.code (⟨"java/lang/Math", "addExact", "(JJ)J"⟩ : MethodName) jdk_29_method_25_code 6 (some .long) :: ws) ({ frames := 0, cells := 0, slots := 0, locals := 0 } : Room)) (fun a_ U => a_ = #[(.long q), (.long r)] ∧ Z.Warmed39 U.vm ∧ U.heap = h0) (fun _ _ _ _ _ => True) (fun _ U o U' => ∃ v L, o = .returned v ∧ Q_add Z q r h0 n0 v U'.heap L ∧ FrameEnd U o U' L ({ frames := 0, cells := 0, slots := 0, locals := 0 } : Room).cells ({ frames := 0, cells := 0, slots := 0, locals := 0 } : Room).slots) := by
  refine MetFree.of_bodySF (Jvm.Free.JP.mathPlain rfl (by decide +kernel)) hisR ?_
  intro p e s m args below meth c s₁ Bd hml0 hP hK
  obtain ⟨rfl, hZ, hh⟩ := hP
  have hx := Bd.exec
  have hby := Bd.bytes
  have hml : c.maxLocals = 6 := hml0
  have hown : s.vm.findClass "java/lang/Math" = some m.cls := findClass_of_methodNamed Bd.named
  have hnm := (name_of_methodNamed Bd.named Bd.method).1
  have X0 : Stand p l e ({ frames := 0, cells := 0, slots := 0, locals := 0 } : Room) s m #[(.long q), (.long r)] below meth c s₁ [] 0 0 := Stand.of_body Bd
  have e0 : s₁.heap = h0 := by rw [← hh, Bd.state]; rfl
  have N0 := Fr.nil n0
  have hlk := Bd.notSynchronized
  have hret := Bd.returns
  show OGo p e below (OEnd s (Q_add Z q r h0 n0) ({ frames := 0, cells := 0, slots := 0, locals := 0 } : Room).cells ({ frames := 0, cells := 0, slots := 0, locals := 0 } : Room).slots) (s₁.setTop (entryFrame m #[(.long q), (.long r)] 6))
  rw [ef_add]
  show OGo p e below _ (s₁.setTop (mkF m 0 #[.val (.long q), .second, .val (.long r), .second, .unset, .unset] []))
  refine OGo.by_ (fun t k => XS.lloadN X0.here hx rfl (hb hby d_add_0) rfl k) ?_
  show OGo p e below _ (s₁.setTop (mkF m 1 #[.val (.long q), .second, .val (.long r), .second, .unset, .unset] [(.long q)]))
  refine OGo.by_ (fun t k => XS.lloadN X0.here hx rfl (hb hby d_add_1) rfl k) ?_
  show OGo p e below _ (s₁.setTop (mkF m 2 #[.val (.long q), .second, .val (.long r), .second, .unset, .unset] [(.long r), (.long q)]))
  refine OGo.by_ (fun t k => XS.ladd X0.here hx rfl (hb hby d_add_2) rfl k) ?_
  show OGo p e below _ (s₁.setTop (mkF m 3 #[.val (.long q), .second, .val (.long r), .second, .unset, .unset] [(.long (q + r))]))
  refine OGo.by_ (fun t k => XS.lstore X0.here hx rfl (hb hby d_add_3) rfl (l' := #[.val (.long q), .second, .val (.long r), .second, .val (.long (q + r)), .second]) rfl k) ?_
  show OGo p e below _ (s₁.setTop (mkF m 5 #[.val (.long q), .second, .val (.long r), .second, .val (.long (q + r)), .second] []))
  refine OGo.by_ (fun t k => XS.lloadN X0.here hx rfl (hb hby d_add_5) rfl k) ?_
  show OGo p e below _ (s₁.setTop (mkF m 6 #[.val (.long q), .second, .val (.long r), .second, .val (.long (q + r)), .second] [(.long q)]))
  refine OGo.by_ (fun t k => XS.lload X0.here hx rfl (hb hby d_add_6) rfl k) ?_
  show OGo p e below _ (s₁.setTop (mkF m 8 #[.val (.long q), .second, .val (.long r), .second, .val (.long (q + r)), .second] [(.long (q + r)), (.long q)]))
  refine OGo.by_ (fun t k => XS.lxor X0.here hx rfl (hb hby d_add_8) rfl k) ?_
  show OGo p e below _ (s₁.setTop (mkF m 9 #[.val (.long q), .second, .val (.long r), .second, .val (.long (q + r)), .second] [(.long (q ^^^ (q + r)))]))
  refine OGo.by_ (fun t k => XS.lloadN X0.here hx rfl (hb hby d_add_9) rfl k) ?_
  show OGo p e below _ (s₁.setTop (mkF m 10 #[.val (.long q), .second, .val (.long r), .second, .val (.long (q + r)), .second] [(.long r), (.long (q ^^^ (q + r)))]))
  refine OGo.by_ (fun t k => XS.lload X0.here hx rfl (hb hby d_add_10) rfl k) ?_
  show OGo p e below _ (s₁.setTop (mkF m 12 #[.val (.long q), .second, .val (.long r), .second, .val (.long (q + r)), .second] [(.long (q + r)), (.long r), (.long (q ^^^ (q + r)))]))
  refine OGo.by_ (fun t k => XS.lxor X0.here hx rfl (hb hby d_add_12) rfl k) ?_
  show OGo p e below _ (s₁.setTop (mkF m 13 #[.val (.long q), .second, .val (.long r), .second, .val (.long (q + r)), .second] [(.long (r ^^^ (q + r))), (.long (q ^^^ (q + r)))]))
  refine OGo.by_ (fun t k => XS.land X0.here hx rfl (hb hby d_add_13) rfl k) ?_
  show OGo p e below _ (s₁.setTop (mkF m 14 #[.val (.long q), .second, .val (.long r), .second, .val (.long (q + r)), .second] [(.long ((q ^^^ (q + r)) &&& (r ^^^ (q + r))))]))
  refine OGo.by_ (fun t k => XS.lconst X0.here hx rfl (hb hby d_add_14) k) ?_
  show OGo p e below _ (s₁.setTop (mkF m 15 #[.val (.long q), .second, .val (.long r), .second, .val (.long (q + r)), .second] [(.long (0 : Int64)), (.long ((q ^^^ (q + r)) &&& (r ^^^ (q + r))))]))
  refine OGo.by_ (fun t k => XS.lcmp X0.here hx rfl (hb hby d_add_15) rfl k) ?_
  show OGo p e below _ (s₁.setTop (mkF m 16 #[.val (.long q), .second, .val (.long r), .second, .val (.long (q + r)), .second] [(.int (lcmpW ((q ^^^ (q + r)) &&& (r ^^^ (q + r))) (0 : Int64)))]))
  refine OGo.by_ (fun t k => XS.ifYes X0.here hx rfl (pc0 := 16) (pc' := 29) rfl (hb hby d_add_16) rfl ((if0 _ _).trans (flt hov).2.1) (by decide) (by decide) k) ?_
  show OGo p e below _ (s₁.setTop (mkF m 29 #[.val (.long q), .second, .val (.long r), .second, .val (.long (q + r)), .second] []))
  refine OGo.by_ (fun t k => XS.lload X0.here hx rfl (hb hby d_add_29) rfl k) ?_
  show OGo p e below _ (s₁.setTop (mkF m 31 #[.val (.long q), .second, .val (.long r), .second, .val (.long (q + r)), .second] [(.long (q + r))]))
  exact own_retJ X0 hx hlk hret (hb hby d_add_31) (by decide) (by decide) (⟨rfl, N0, e0⟩)
theorem d_nan_0 : decode jdk_2316_method_58_code 0 = .ok (.aload_n 0, 1) := by decide +kernel
theorem d_nan_1 : decode jdk_2316_method_58_code 1 = .ok (.getfield 221, 3) := by decide +kernel
theorem d_nan_4 : decode jdk_2316_method_58_code 4 = .ok (.lstore_n 1, 1) := by decide +kernel
theorem d_nan_5 : decode jdk_2316_method_58_code 5 = .ok (.aload_n 0, 1) := by decide +kernel
theorem d_nan_6 : decode jdk_2316_method_58_code 6 = .ok (.getfield 224, 3) := by decide +kernel
theorem d_nan_9 : decode jdk_2316_method_58_code 9 = .ok (.i2l, 1) := by decide +kernel
theorem d_nan_10 : decode jdk_2316_method_58_code 10 = .ok (.lstore_n 3, 1) := by decide +kernel
theorem d_nan_11 : decode jdk_2316_method_58_code 11 = .ok (.lload_n 1, 1) := by decide +kernel
theorem d_nan_12 : decode jdk_2316_method_58_code 12 = .ok (.lconst 0, 1) := by decide +kernel
theorem d_nan_13 : decode jdk_2316_method_58_code 13 = .ok (.lcmp, 1) := by decide +kernel
theorem d_nan_14 : decode jdk_2316_method_58_code 14 = .ok (.ifCond .ge 13, 3) := by decide +kernel
theorem d_nan_27 : decode jdk_2316_method_58_code 27 = .ok (.lload_n 1, 1) := by decide +kernel
theorem d_nan_28 : decode jdk_2316_method_58_code 28 = .ok (.ldc2_w 16, 3) := by decide +kernel
theorem d_nan_31 : decode jdk_2316_method_58_code 31 = .ok (.invokestatic 289, 3) := by decide +kernel
theorem pd_oJJcJ : parseMethodDescriptor "(JJ)J" = some ⟨[.long, .long], some .long⟩ := by decide +kernel
theorem d_nan_34 : decode jdk_2316_method_58_code 34 = .ok (.lstore 5, 2) := by decide +kernel
theorem d_nan_36 : decode jdk_2316_method_58_code 36 = .ok (.lload 5, 2) := by decide +kernel
theorem d_nan_38 : decode jdk_2316_method_58_code 38 = .ok (.lload_n 3, 1) := by decide +kernel
theorem d_nan_39 : decode jdk_2316_method_58_code 39 = .ok (.invokestatic 22, 3) := by decide +kernel
theorem d_nan_42 : decode jdk_2316_method_58_code 42 = .ok (.lstore 5, 2) := by decide +kernel
theorem d_nan_44 : decode jdk_2316_method_58_code 44 = .ok (.lload 5, 2) := by decide +kernel
theorem d_nan_46 : decode jdk_2316_method_58_code 46 = .ok (.lreturn, 1) := by decide +kernel
theorem ef_nan (m : MethodId) (x0 : Addr) : entryFrame m #[(.ref x0)] 7 = mkF m 0 #[.val (.ref x0), .unset, .unset, .unset, .unset, .unset, .unset] [] := by first | (simp [entryFrame, mkF, argsToLocals, Value.category]; done) | rfl
def Q_nan (Z : State) (a : Addr) (h0 : Heap) (n0 : Nat) (v : Option Value) (h : Heap) (L : List Loc) : Prop := v = some (.long (((10 : Int64) * (1000000000 : Int64)) + ((0 : Int32).toInt64))) ∧ Fr n0 L ∧ h = h0
set_option maxRecDepth 65536 in
set_option maxHeartbeats 40000000 in
theorem rm_nan (l : Launch) (Z : State) (a0 : Array Value) (hw : ∀ d ∈ tables_1, d.before a0 Z = true) (ws : List Jvm.Cond) (a : Addr) (h0 : Heap) (n0 : Nat) (Z0 : n0 ≤ h0.size) (F0 : Fld Z h0 a "java/time/Duration" "seconds" "J" (.long (10 : Int64))) (F1 : Fld Z h0 a "java/time/Duration" "nanos" "I" (.int (0 : Int32))) :
    MetFree l (⟨"java/time/Duration", "toNanos", "()J"⟩ : MethodName) (head1 (Jvm.Cond.code (⟨"java/time/Duration", "toNanos", "()J"⟩ : MethodName) jdk_2316_method_58_code 7 (some .long) :: ws) ({ frames := 2, cells := 0, slots := 0, locals := 34 } : Room)) (fun a_ U => a_ = #[(.ref a)] ∧ Z.Warmed39 U.vm ∧ U.heap = h0) (fun _ _ _ _ _ => True) (fun _ U o U' => ∃ v L, o = .returned v ∧ Q_nan Z a h0 n0 v U'.heap L ∧ FrameEnd U o U' L ({ frames := 2, cells := 0, slots := 0, locals := 34 } : Room).cells ({ frames := 2, cells := 0, slots := 0, locals := 34 } : Room).slots) := by
  refine MetFree.of_bodySF (plainFor_of_name pn_java_time_Duration) hisR ?_
  intro p e s m args below meth c s₁ Bd hml0 hP hK
  obtain ⟨rfl, hZ, hh⟩ := hP
  have hx := Bd.exec
  have hby := Bd.bytes
  have hml : c.maxLocals = 7 := hml0
  have hown : s.vm.findClass "java/time/Duration" = some m.cls := findClass_of_methodNamed Bd.named
  have hnm := (name_of_methodNamed Bd.named Bd.method).1
  have X0 : Stand p l e ({ frames := 2, cells := 0, slots := 0, locals := 34 } : Room) s m #[(.ref a)] below meth c s₁ [] 0 0 := Stand.of_body Bd
  have e0 : s₁.heap = h0 := by rw [← hh, Bd.state]; rfl
  have N0 := Fr.nil n0
  have hlk := Bd.notSynchronized
  have hret := Bd.returns
  show OGo p e below (OEnd s (Q_nan Z a h0 n0) ({ frames := 2, cells := 0, slots := 0, locals := 34 } : Room).cells ({ frames := 2, cells := 0, slots := 0, locals := 34 } : Room).slots) (s₁.setTop (entryFrame m #[(.ref a)] 7))
  rw [ef_nan]
  show OGo p e below _ (s₁.setTop (mkF m 0 #[.val (.ref a), .unset, .unset, .unset, .unset, .unset, .unset] []))
  refine OGo.by_ (fun t k => XS.aloadN X0.here hx rfl (hb hby d_nan_0) rfl rfl k) ?_
  show OGo p e below _ (s₁.setTop (mkF m 1 #[.val (.ref a), .unset, .unset, .unset, .unset, .unset, .unset] [(.ref a)]))
  obtain ⟨T1, X1, e1, st1⟩ := getF X0 hx hZ hown (host := "") (Or.inl (hw _ (List.mem_of_getElem? (i := 61) rfl))) Via.refl e0 F0 (g := (mkF m 1 #[.val (.ref a), .unset, .unset, .unset, .unset, .unset, .unset] [(.ref a)])) rfl rfl (hb hby d_nan_1)
  refine OGo.by_ st1 ?_
  show OGo p e below _ (T1.setTop (mkF m 4 #[.val (.ref a), .unset, .unset, .unset, .unset, .unset, .unset] [(.long (10 : Int64))]))
  refine OGo.by_ (fun t k => XS.lstoreN X1.here hx rfl (hb hby d_nan_4) rfl (l' := #[.val (.ref a), .val (.long (10 : Int64)), .second, .unset, .unset, .unset, .unset]) rfl k) ?_
  show OGo p e below _ (T1.setTop (mkF m 5 #[.val (.ref a), .val (.long (10 : Int64)), .second, .unset, .unset, .unset, .unset] []))
  refine OGo.by_ (fun t k => XS.aloadN X1.here hx rfl (hb hby d_nan_5) rfl rfl k) ?_
  show OGo p e below _ (T1.setTop (mkF m 6 #[.val (.ref a), .val (.long (10 : Int64)), .second, .unset, .unset, .unset, .unset] [(.ref a)]))
  obtain ⟨T2, X2, e2, st2⟩ := getF X1 hx hZ hown (host := "") (Or.inl (hw _ (List.mem_of_getElem? (i := 79) rfl))) Via.refl e1 F1 (g := (mkF m 6 #[.val (.ref a), .val (.long (10 : Int64)), .second, .unset, .unset, .unset, .unset] [(.ref a)])) rfl rfl (hb hby d_nan_6)
  refine OGo.by_ st2 ?_
  show OGo p e below _ (T2.setTop (mkF m 9 #[.val (.ref a), .val (.long (10 : Int64)), .second, .unset, .unset, .unset, .unset] [(.int (0 : Int32))]))
  refine OGo.by_ (fun t k => XS.i2l X2.here hx rfl (hb hby d_nan_9) rfl k) ?_
  show OGo p e below _ (T2.setTop (mkF m 10 #[.val (.ref a), .val (.long (10 : Int64)), .second, .unset, .unset, .unset, .unset] [(.long ((0 : Int32).toInt64))]))
  refine OGo.by_ (fun t k => XS.lstoreN X2.here hx rfl (hb hby d_nan_10) rfl (l' := #[.val (.ref a), .val (.long (10 : Int64)), .second, .val (.long ((0 : Int32).toInt64)), .second, .unset, .unset]) rfl k) ?_
  show OGo p e below _ (T2.setTop (mkF m 11 #[.val (.ref a), .val (.long (10 : Int64)), .second, .val (.long ((0 : Int32).toInt64)), .second, .unset, .unset] []))
  refine OGo.by_ (fun t k => XS.lloadN X2.here hx rfl (hb hby d_nan_11) rfl k) ?_
  show OGo p e below _ (T2.setTop (mkF m 12 #[.val (.ref a), .val (.long (10 : Int64)), .second, .val (.long ((0 : Int32).toInt64)), .second, .unset, .unset] [(.long (10 : Int64))]))
  refine OGo.by_ (fun t k => XS.lconst X2.here hx rfl (hb hby d_nan_12) k) ?_
  show OGo p e below _ (T2.setTop (mkF m 13 #[.val (.ref a), .val (.long (10 : Int64)), .second, .val (.long ((0 : Int32).toInt64)), .second, .unset, .unset] [(.long (0 : Int64)), (.long (10 : Int64))]))
  refine OGo.by_ (fun t k => XS.lcmp X2.here hx rfl (hb hby d_nan_13) rfl k) ?_
  show OGo p e below _ (T2.setTop (mkF m 14 #[.val (.ref a), .val (.long (10 : Int64)), .second, .val (.long ((0 : Int32).toInt64)), .second, .unset, .unset] [(.int (lcmpW (10 : Int64) (0 : Int64)))]))
  refine OGo.by_ (fun t k => XS.ifYes X2.here hx rfl (pc0 := 14) (pc' := 27) rfl (hb hby d_nan_14) rfl ((if0 _ _).trans (flt (by decide)).2.1) (by decide) (by decide) k) ?_
  show OGo p e below _ (T2.setTop (mkF m 27 #[.val (.ref a), .val (.long (10 : Int64)), .second, .val (.long ((0 : Int32).toInt64)), .second, .unset, .unset] []))
  refine OGo.by_ (fun t k => XS.lloadN X2.here hx rfl (hb hby d_nan_27) rfl k) ?_
  show OGo p e below _ (T2.setTop (mkF m 28 #[.val (.ref a), .val (.long (10 : Int64)), .second, .val (.long ((0 : Int32).toInt64)), .second, .unset, .unset] [(.long (10 : Int64))]))
  refine OGo.by_ (fun t k => X2.ldc2Long hx hown (mvT hZ (hw _ (List.mem_of_getElem? (i := 81) rfl))) (g := (mkF m 28 #[.val (.ref a), .val (.long (10 : Int64)), .second, .val (.long ((0 : Int32).toInt64)), .second, .unset, .unset] [(.long (10 : Int64))])) rfl (hb hby d_nan_28) _ k) ?_
  show OGo p e below _ (T2.setTop (mkF m 31 #[.val (.ref a), .val (.long (10 : Int64)), .second, .val (.long ((0 : Int32).toInt64)), .second, .unset, .unset] [(.long (1000000000 : Int64)), (.long (10 : Int64))]))
  obtain ⟨_, _, ⟨T3, L3, k3, n3⟩, -, X3, ⟨Lc3, hQ3, l3, y3, z3⟩, st3⟩ := Jvm.LawKit.callS X2 hx (y := (⟨"java/lang/Math", "multiplyExact", "(JJ)J"⟩ : MethodName)) hown (mvT hZ (hw _ (List.mem_of_getElem? (i := 82) rfl))) (mvT hZ (hw _ (List.mem_of_getElem? (i := 83) rfl))) (mvT hZ (hw _ (List.mem_of_getElem? (i := 84) rfl))) (mvT hZ (hw _ (List.mem_of_getElem? (i := 85) rfl))) (by decide) (backOf (W := 0) (rm_mul l Z a0 hw [] h0 n0 Z0) hZ (hw _ (List.mem_of_getElem? (i := 85) rfl)) (hw _ (List.mem_of_getElem? (i := 84) rfl)) (by decide) (by decide)) (g := (mkF m 31 #[.val (.ref a), .val (.long (10 : Int64)), .second, .val (.long ((0 : Int32).toInt64)), .second, .unset, .unset] [(.long (1000000000 : Int64)), (.long (10 : Int64))])) rfl (by rw [hml]; rfl) (argsL := [(.long (10 : Int64)), (.long (1000000000 : Int64))]) (rest := []) (lenOf pd_oJJcJ rfl) rfl (by show 2 * 0 + _ ≤ _; exact Nat.le_of_eq rfl) (hb hby d_nan_31) (fun _ _ => ⟨rfl, e2, (by decide : 0 + 0 ≤ _), (by decide : 0 + 0 ≤ _)⟩)
  dsimp only [Pt.U, Pt.locs, Pt.cells, Pt.slots] at X3 l3 y3 z3 st3 hQ3
  subst l3 y3 z3
  obtain ⟨rfl, Nq3, eq3⟩ := hQ3
  have N3 := Fr.app N0 Nq3
  refine OGo.by_ st3 ?_
  show OGo p e below _ (T3.setTop (mkF m 34 #[.val (.ref a), .val (.long (10 : Int64)), .second, .val (.long ((0 : Int32).toInt64)), .second, .unset, .unset] [(.long ((10 : Int64) * (1000000000 : Int64)))]))
  refine OGo.by_ (fun t k => XS.lstore X3.here hx rfl (hb hby d_nan_34) rfl (l' := #[.val (.ref a), .val (.long (10 : Int64)), .second, .val (.long ((0 : Int32).toInt64)), .second, .val (.long ((10 : Int64) * (1000000000 : Int64))), .second]) rfl k) ?_
  show OGo p e below _ (T3.setTop (mkF m 36 #[.val (.ref a), .val (.long (10 : Int64)), .second, .val (.long ((0 : Int32).toInt64)), .second, .val (.long ((10 : Int64) * (1000000000 : Int64))), .second] []))
  refine OGo.by_ (fun t k => XS.lload X3.here hx rfl (hb hby d_nan_36) rfl k) ?_
  show OGo p e below _ (T3.setTop (mkF m 38 #[.val (.ref a), .val (.long (10 : Int64)), .second, .val (.long ((0 : Int32).toInt64)), .second, .val (.long ((10 : Int64) * (1000000000 : Int64))), .second] [(.long ((10 : Int64) * (1000000000 : Int64)))]))
  refine OGo.by_ (fun t k => XS.lloadN X3.here hx rfl (hb hby d_nan_38) rfl k) ?_
  show OGo p e below _ (T3.setTop (mkF m 39 #[.val (.ref a), .val (.long (10 : Int64)), .second, .val (.long ((0 : Int32).toInt64)), .second, .val (.long ((10 : Int64) * (1000000000 : Int64))), .second] [(.long ((0 : Int32).toInt64)), (.long ((10 : Int64) * (1000000000 : Int64)))]))
  obtain ⟨_, _, ⟨T4, L4, k4, n4⟩, -, X4, ⟨Lc4, hQ4, l4, y4, z4⟩, st4⟩ := Jvm.LawKit.callS X3 hx (y := (⟨"java/lang/Math", "addExact", "(JJ)J"⟩ : MethodName)) hown (mvT hZ (hw _ (List.mem_of_getElem? (i := 89) rfl))) (mvT hZ (hw _ (List.mem_of_getElem? (i := 90) rfl))) (mvT hZ (hw _ (List.mem_of_getElem? (i := 84) rfl))) (mvT hZ (hw _ (List.mem_of_getElem? (i := 91) rfl))) (by decide) (backOf (W := 0) (rm_add l Z a0 hw [] ((10 : Int64) * (1000000000 : Int64)) ((0 : Int32).toInt64) h0 n0 Z0 (by decide)) hZ (hw _ (List.mem_of_getElem? (i := 91) rfl)) (hw _ (List.mem_of_getElem? (i := 84) rfl)) (by decide) (by decide)) (g := (mkF m 39 #[.val (.ref a), .val (.long (10 : Int64)), .second, .val (.long ((0 : Int32).toInt64)), .second, .val (.long ((10 : Int64) * (1000000000 : Int64))), .second] [(.long ((0 : Int32).toInt64)), (.long ((10 : Int64) * (1000000000 : Int64)))])) rfl (by rw [hml]; rfl) (argsL := [(.long ((10 : Int64) * (1000000000 : Int64))), (.long ((0 : Int32).toInt64))]) (rest := []) (lenOf pd_oJJcJ rfl) rfl (by show 2 * 0 + _ ≤ _; exact Nat.le_of_eq rfl) (hb hby d_nan_39) (fun _ _ => ⟨rfl, eq3, (by decide : 0 + 0 ≤ _), (by decide : 0 + 0 ≤ _)⟩)
  dsimp only [Pt.U, Pt.locs, Pt.cells, Pt.slots] at X4 l4 y4 z4 st4 hQ4
  subst l4 y4 z4
  obtain ⟨rfl, Nq4, eq4⟩ := hQ4
  have N4 := Fr.app N3 Nq4
  refine OGo.by_ st4 ?_
  show OGo p e below _ (T4.setTop (mkF m 42 #[.val (.ref a), .val (.long (10 : Int64)), .second, .val (.long ((0 : Int32).toInt64)), .second, .val (.long ((10 : Int64) * (1000000000 : Int64))), .second] [(.long (((10 : Int64) * (1000000000 : Int64)) + ((0 : Int32).toInt64)))]))
  refine OGo.by_ (fun t k => XS.lstore X4.here hx rfl (hb hby d_nan_42) rfl (l' := #[.val (.ref a), .val (.long (10 : Int64)), .second, .val (.long ((0 : Int32).toInt64)), .second, .val (.long (((10 : Int64) * (1000000000 : Int64)) + ((0 : Int32).toInt64))), .second]) rfl k) ?_
  show OGo p e below _ (T4.setTop (mkF m 44 #[.val (.ref a), .val (.long (10 : Int64)), .second, .val (.long ((0 : Int32).toInt64)), .second, .val (.long (((10 : Int64) * (1000000000 : Int64)) + ((0 : Int32).toInt64))), .second] []))
  refine OGo.by_ (fun t k => XS.lload X4.here hx rfl (hb hby d_nan_44) rfl k) ?_
  show OGo p e below _ (T4.setTop (mkF m 46 #[.val (.ref a), .val (.long (10 : Int64)), .second, .val (.long ((0 : Int32).toInt64)), .second, .val (.long (((10 : Int64) * (1000000000 : Int64)) + ((0 : Int32).toInt64))), .second] [(.long (((10 : Int64) * (1000000000 : Int64)) + ((0 : Int32).toInt64)))]))
  exact own_retJ X4 hx hlk hret (hb hby d_nan_46) (by decide) (by decide) (⟨rfl, N4, eq4⟩)
theorem own_sta_keep {Z : State} {h h' : Heap} {C n d : String} {v : Value} {ws : List Addr} (F : Sta Z h C n d v) (K : Keep h h' ws) (hn : ∀ a ∈ ws, ∀ cl, h[a]? = some cl → cl.vm.isStatics = false) : Sta Z h' C n d v := by
  obtain ⟨cf, i, k, f, st, cell, h1, h2, h3, h4, h5, h6, h7⟩ := F
  refine ⟨cf, i, k, f, st, cell, h1, h2, h3, h4, K.2.1 _ _ h5 fun hm => ?_, h6, h7⟩
  rw [hn _ hm _ h5] at h6
  cases h6
theorem own_exa_plain {Z : State} {h : Heap} {a : Addr} {C : String} (E : Exa Z h a C) : ∀ x ∈ [a], ∀ cl, h[x]? = some cl → cl.vm.isStatics = false := fun x hx cl hc => by
  cases List.mem_singleton.mp hx
  obtain ⟨c, k, h1, h2, h3, h4, h5⟩ := E
  cases h1.symm.trans hc
  exact h4
theorem d_dbd_0 : decode prog_30_method_2_code 0 = .ok (.aload_n 0, 1) := by decide +kernel
theorem d_dbd_1 : decode prog_30_method_2_code 1 = .ok (.invokespecial 11, 3) := by decide +kernel
theorem d_dbd_4 : decode prog_30_method_2_code 4 = .ok (.aload_n 0, 1) := by decide +kernel
theorem d_dbd_5 : decode prog_30_method_2_code 5 = .ok (.new 16, 3) := by decide +kernel
theorem d_dbd_8 : decode prog_30_method_2_code 8 = .ok (.dup, 1) := by decide +kernel
theorem d_dbd_9 : decode prog_30_method_2_code 9 = .ok (.invokespecial 18, 3) := by decide +kernel
theorem d_dbd_12 : decode prog_30_method_2_code 12 = .ok (.putfield 19, 3) := by decide +kernel
theorem d_dbd_15 : decode prog_30_method_2_code 15 = .ok (.aload_n 0, 1) := by decide +kernel
theorem d_dbd_16 : decode prog_30_method_2_code 16 = .ok (.new 16, 3) := by decide +kernel
theorem d_dbd_19 : decode prog_30_method_2_code 19 = .ok (.dup, 1) := by decide +kernel
theorem d_dbd_20 : decode prog_30_method_2_code 20 = .ok (.invokespecial 18, 3) := by decide +kernel
theorem d_dbd_23 : decode prog_30_method_2_code 23 = .ok (.putfield 23, 3) := by decide +kernel
theorem d_dbd_26 : decode prog_30_method_2_code 26 = .ok (.aload_n 0, 1) := by decide +kernel
theorem d_dbd_27 : decode prog_30_method_2_code 27 = .ok (.new 26, 3) := by decide +kernel
theorem d_dbd_30 : decode prog_30_method_2_code 30 = .ok (.dup, 1) := by decide +kernel
theorem d_dbd_31 : decode prog_30_method_2_code 31 = .ok (.invokespecial 28, 3) := by decide +kernel
theorem d_dbd_34 : decode prog_30_method_2_code 34 = .ok (.putfield 29, 3) := by decide +kernel
theorem d_dbd_37 : decode prog_30_method_2_code 37 = .ok (.aload_n 0, 1) := by decide +kernel
theorem d_dbd_38 : decode prog_30_method_2_code 38 = .ok (.new 33, 3) := by decide +kernel
theorem d_dbd_41 : decode prog_30_method_2_code 41 = .ok (.dup, 1) := by decide +kernel
theorem d_dbd_42 : decode prog_30_method_2_code 42 = .ok (.invokespecial 35, 3) := by decide +kernel
theorem d_dbd_45 : decode prog_30_method_2_code 45 = .ok (.putfield 36, 3) := by decide +kernel
theorem d_dbd_48 : decode prog_30_method_2_code 48 = .ok (.aload_n 1, 1) := by decide +kernel
theorem d_dbd_49 : decode prog_30_method_2_code 49 = .ok (.invokevirtual 40, 3) := by decide +kernel
theorem pd_ocZ : parseMethodDescriptor "()Z" = some ⟨[], some .boolean⟩ := by decide +kernel
theorem d_dbd_52 : decode prog_30_method_2_code 52 = .ok (.ifCond .eq 20, 3) := by decide +kernel
theorem d_dbd_72 : decode prog_30_method_2_code 72 = .ok (.aload_n 0, 1) := by decide +kernel
theorem d_dbd_73 : decode prog_30_method_2_code 73 = .ok (.aload_n 1, 1) := by decide +kernel
theorem d_dbd_74 : decode prog_30_method_2_code 74 = .ok (.getstatic 61, 3) := by decide +kernel
theorem d_dbd_77 : decode prog_30_method_2_code 77 = .ok (.invokevirtual 64, 3) := by decide +kernel
theorem pd_oLjava_time_Duration_cI : parseMethodDescriptor "(Ljava/time/Duration;)I" = some ⟨[(.object "java/time/Duration")], some .int⟩ := by decide +kernel
theorem d_dbd_80 : decode prog_30_method_2_code 80 = .ok (.ifCond .ge 10, 3) := by decide +kernel
theorem d_dbd_83 : decode prog_30_method_2_code 83 = .ok (.aload_n 1, 1) := by decide +kernel
theorem d_dbd_84 : decode prog_30_method_2_code 84 = .ok (.invokevirtual 68, 3) := by decide +kernel
theorem pd_ocJ : parseMethodDescriptor "()J" = some ⟨[], some .long⟩ := by decide +kernel
theorem d_dbd_87 : decode prog_30_method_2_code 87 = .ok (.goto 6, 3) := by decide +kernel
theorem d_dbd_93 : decode prog_30_method_2_code 93 = .ok (.putfield 76, 3) := by decide +kernel
theorem d_dbd_96 : decode prog_30_method_2_code 96 = .ok (.return_, 1) := by decide +kernel
theorem pn_com_example_intercept_rows_interceptrows_engine_Database : plainName "com/example/intercept_rows/interceptrows/engine/Database" = true := by first | (simp [plainName, overriddenIn]; done) | decide +kernel
theorem ef_dbd (m : MethodId) (x0 : Addr) (x1 : Addr) : entryFrame m #[(.ref x0), (.ref x1)] 2 = mkF m 0 #[.val (.ref x0), .val (.ref x1)] [] := by first | (simp [entryFrame, mkF, argsToLocals, Value.category]; done) | rfl
def Q_dbd (Z : State) (a dd lw : Addr) (h0 : Heap) (n0 : Nat) (v : Option Value) (h : Heap) (L : List Loc) : Prop := v = none ∧ Fr n0 L ∧ Keep h0 h [a]
set_option maxRecDepth 65536 in
set_option maxHeartbeats 40000000 in
theorem rm_dbd (l : Launch) (Z : State) (a0 : Array Value) (hw : ∀ d ∈ tables_1, d.before a0 Z = true) (ws : List Jvm.Cond) (a dd lw : Addr) (h0 : Heap) (n0 : Nat) (Z0 : n0 ≤ h0.size) (E0 : Exa Z h0 a "com/example/intercept_rows/interceptrows/engine/Database") (ga : n0 ≤ a) (F0 : Fld Z h0 a "com/example/intercept_rows/interceptrows/engine/Database" "relations" "Ljava/util/Map;" .null) (F1 : Fld Z h0 a "com/example/intercept_rows/interceptrows/engine/Database" "functions" "Ljava/util/Map;" .null) (F2 : Fld Z h0 a "com/example/intercept_rows/interceptrows/engine/Database" "lock" "Lcom/example/intercept_rows/interceptrows/engine/DatabaseLock;" .null) (F3 : Fld Z h0 a "com/example/intercept_rows/interceptrows/engine/Database" "nesting" "Lcom/example/intercept_rows/interceptrows/engine/TriggerNesting;" .null) (F4 : Fld Z h0 a "com/example/intercept_rows/interceptrows/engine/Database" "lockWaitNanos" "J" (.long (0 : Int64))) (SL : Sta Z h0 "com/example/intercept_rows/interceptrows/engine/Database" "LONGEST_LOCK_WAIT" "Ljava/time/Duration;" (.ref lw)) (Ed : Exa Z h0 dd "java/time/Duration") (El : Exa Z h0 lw "java/time/Duration") (Fds : Fld Z h0 dd "java/time/Duration" "seconds" "J" (.long (10 : Int64))) (Fdn : Fld Z h0 dd "java/time/Duration" "nanos" "I" (.int (0 : Int32))) (Fls : Fld Z h0 lw "java/time/Duration" "seconds" "J" (.long (9223372036 : Int64))) (od : dd ≠ a) (ol : lw ≠ a) :
    MetFree l (⟨"com/example/intercept_rows/interceptrows/engine/Database", "<init>", "(Ljava/time/Duration;)V"⟩ : MethodName) (head1 (Jvm.Cond.code (⟨"com/example/intercept_rows/interceptrows/engine/Database", "<init>", "(Ljava/time/Duration;)V"⟩ : MethodName) prog_30_method_2_code 2 none :: ws) ({ frames := 3, cells := 4, slots := 20, locals := 53 } : Room)) (fun a_ U => a_ = #[(.ref a), (.ref dd)] ∧ Z.Warmed39 U.vm ∧ U.heap = h0) (fun _ _ _ _ _ => True) (fun _ U o U' => ∃ v L, o = .returned v ∧ Q_dbd Z a dd lw h0 n0 v U'.heap L ∧ FrameEnd U o U' L ({ frames := 3, cells := 4, slots := 20, locals := 53 } : Room).cells ({ frames := 3, cells := 4, slots := 20, locals := 53 } : Room).slots) := by
  refine MetFree.of_bodySF (plainFor_of_name pn_com_example_intercept_rows_interceptrows_engine_Database) hisR ?_
  intro p e s m args below meth c s₁ Bd hml0 hP hK
  obtain ⟨rfl, hZ, hh⟩ := hP
  have hx := Bd.exec
  have hby := Bd.bytes
  have hml : c.maxLocals = 2 := hml0
  have hown : s.vm.findClass "com/example/intercept_rows/interceptrows/engine/Database" = some m.cls := findClass_of_methodNamed Bd.named
  have hnm := (name_of_methodNamed Bd.named Bd.method).1
  have X0 : Stand p l e ({ frames := 3, cells := 4, slots := 20, locals := 53 } : Room) s m #[(.ref a), (.ref dd)] below meth c s₁ [] 0 0 := Stand.of_body Bd
  have e0 : s₁.heap = h0 := by rw [← hh, Bd.state]; rfl
  have N0 := Fr.nil n0
  have hlk := Bd.notSynchronized
  have hret := Bd.returns
  show OGo p e below (OEnd s (Q_dbd Z a dd lw h0 n0) ({ frames := 3, cells := 4, slots := 20, locals := 53 } : Room).cells ({ frames := 3, cells := 4, slots := 20, locals := 53 } : Room).slots) (s₁.setTop (entryFrame m #[(.ref a), (.ref dd)] 2))
  rw [ef_dbd]
  show OGo p e below _ (s₁.setTop (mkF m 0 #[.val (.ref a), .val (.ref dd)] []))
  have a_lt : h0.size > a := E0.lt
  have d_lt : h0.size > dd := Ed.lt
  have l_lt : h0.size > lw := El.lt
  refine OGo.by_ (fun t k => XS.aloadN X0.here hx rfl (hb hby d_dbd_0) rfl rfl k) ?_
  show OGo p e below _ (s₁.setTop (mkF m 1 #[.val (.ref a), .val (.ref dd)] [(.ref a)]))
  obtain ⟨T1, X1, e1, st1⟩ := initO X0 hx hZ hown (hw _ (List.mem_of_getElem? (i := 14) rfl)) (hw _ (List.mem_of_getElem? (i := 15) rfl)) (hw _ (List.mem_of_getElem? (i := 16) rfl)) e0 (g := (mkF m 1 #[.val (.ref a), .val (.ref dd)] [(.ref a)])) rfl (by rw [hml]; rfl) rfl (hb hby d_dbd_1) (by decide) (W := 0) (by show 2 * 0 + _ ≤ _; exact Nat.le_of_eq rfl) (by decide)
  refine OGo.by_ st1 ?_
  show OGo p e below _ (T1.setTop (mkF m 4 #[.val (.ref a), .val (.ref dd)] []))
  refine OGo.by_ (fun t k => XS.aloadN X1.here hx rfl (hb hby d_dbd_4) rfl rfl k) ?_
  show OGo p e below _ (T1.setTop (mkF m 5 #[.val (.ref a), .val (.ref dd)] [(.ref a)]))
  obtain ⟨T2, h2, X2, e2, E2, A2, Dv2, -, st2⟩ := newO X1 hx hZ hown (hw _ (List.mem_of_getElem? (i := 17) rfl)) (hw _ (List.mem_of_getElem? (i := 18) rfl)) (hw _ (List.mem_of_getElem? (i := 19) rfl)) e1 (g := (mkF m 5 #[.val (.ref a), .val (.ref dd)] [(.ref a)])) rfl (hb hby d_dbd_5) (by decide) (by decide)
  obtain ⟨b0, g_b0⟩ : ∃ z, z = h0.size := ⟨_, rfl⟩
  rw [← g_b0] at A2 Dv2 st2
  have A_b0 := A2
  have lt_b0 := own_lt A2.lt
  have F_loadFactor_b0 : Fld Z h2 b0 "java/util/HashMap" "loadFactor" "F" (.float (0 : UInt32)) := Dv2 (Or.inr (hw _ (List.mem_of_getElem? (i := 32) rfl))) (ty := .float) (by decide)
  refine OGo.by_ st2 ?_
  show OGo p e below _ (T2.setTop (mkF m 8 #[.val (.ref a), .val (.ref dd)] [(.ref b0), (.ref a)]))
  have Z_1 := Nat.le_trans Z0 E2.1
  have E_1 := E0.ext E2
  have K_1 := Keep.ext (Keep.refl h0 [a]) E2
  have S_1 := Sta.ext E2 SL
  have Frelations_1 := F0.ext E2
  have Ffunctions_1 := F1.ext E2
  have Flock_1 := F2.ext E2
  have Fnesting_1 := F3.ext E2
  have FlockWaitNanos_1 := F4.ext E2
  have Ed_1 := Ed.ext E2
  have El_1 := El.ext E2
  have ds_1 := Fds.ext E2
  have dn_1 := Fdn.ext E2
  have ls_1 := Fls.ext E2
  have hn_b0 : a ≠ b0 := own_ne (by omega)
  have dn_b0 : dd ≠ b0 := own_ne (by omega)
  have ln_b0 : lw ≠ b0 := own_ne (by omega)
  have gn_b0 : n0 ≤ b0 := by omega
  have kn_b0 : h0.size ≤ b0 := by omega
  refine OGo.by_ (fun t k => XS.dup X2.here hx rfl (hb hby d_dbd_8) rfl rfl k) ?_
  show OGo p e below _ (T2.setTop (mkF m 9 #[.val (.ref a), .val (.ref dd)] [(.ref b0), (.ref b0), (.ref a)]))
  obtain ⟨_, _, ⟨T3, L3, k3, n3⟩, -, X3, ⟨Lc3, hQ3, l3, y3, z3⟩, st3⟩ := X2.specialBack hx (y := (⟨"java/util/HashMap", "<init>", "()V"⟩ : MethodName)) rfl hown (mvT hZ (hw _ (List.mem_of_getElem? (i := 20) rfl))) (mvT hZ (hw _ (List.mem_of_getElem? (i := 21) rfl))) (mvT hZ (hw _ (List.mem_of_getElem? (i := 22) rfl))) (by decide) (backOf (W := 2) (rm_hm l Z a0 hw [] b0 h2 n0 Z_1 A_b0 F_loadFactor_b0 gn_b0) hZ (hw _ (List.mem_of_getElem? (i := 22) rfl)) (hw _ (List.mem_of_getElem? (i := 19) rfl)) (by decide) (by decide)) (g := (mkF m 9 #[.val (.ref a), .val (.ref dd)] [(.ref b0), (.ref b0), (.ref a)])) rfl (by rw [hml]; rfl) (Steps.refl _) (a := b0) (argsL := []) (rest := [(.ref b0), (.ref a)]) (lenOf pd_ocV rfl) rfl (by show 2 * 0 + _ ≤ _; exact Nat.le_of_eq rfl) (hb hby d_dbd_9) (fun _ _ => ⟨rfl, e2, (by decide : 1 + 0 ≤ _), (by decide : 8 + 0 ≤ _)⟩)
  dsimp only [Pt.U, Pt.locs, Pt.cells, Pt.slots] at X3 l3 y3 z3 st3 hQ3
  subst l3 y3 z3
  obtain ⟨rfl, Nq3, K3⟩ := hQ3
  have N3 := Fr.app N0 Nq3
  refine OGo.by_ (fun t k => st3.trans k) ?_
  show OGo p e below _ (T3.setTop (mkF m 12 #[.val (.ref a), .val (.ref dd)] [(.ref b0), (.ref a)]))
  have Z_2 := Nat.le_trans Z_1 K3.1
  have E_2 := E_1.keep K3
  have K_2 := Keep.trans K_1 K3 (allS ((Or.inr kn_b0)) all0)
  have S_2 := own_sta_keep S_1 K3 (own_exa_plain A_b0)
  have Frelations_2 := Frelations_1.keep K3 (own_nin1 hn_b0)
  have Ffunctions_2 := Ffunctions_1.keep K3 (own_nin1 hn_b0)
  have Flock_2 := Flock_1.keep K3 (own_nin1 hn_b0)
  have Fnesting_2 := Fnesting_1.keep K3 (own_nin1 hn_b0)
  have FlockWaitNanos_2 := FlockWaitNanos_1.keep K3 (own_nin1 hn_b0)
  have Ed_2 := Ed_1.keep K3
  have El_2 := El_1.keep K3
  have ds_2 := ds_1.keep K3 (own_nin1 dn_b0)
  have dn_2 := dn_1.keep K3 (own_nin1 dn_b0)
  have ls_2 := ls_1.keep K3 (own_nin1 ln_b0)
  have sz0 : h0.size ≤ T3.heap.size := K_2.1
  obtain ⟨T4, h4, X4, e4, W4, st4⟩ := putF X3 hx hZ hown (host := "") (Or.inl (hw _ (List.mem_of_getElem? (i := 33) rfl))) Via.refl rfl Frelations_2 E_2 (Or.inr ⟨(hw _ (List.mem_of_getElem? (i := 34) rfl)), rfl, hnm⟩) (hw _ (List.mem_of_getElem? (i := 4) rfl)) (ty := (.object "java/util/Map")) (by decide) rfl rfl (g := (mkF m 12 #[.val (.ref a), .val (.ref dd)] [(.ref b0), (.ref a)])) rfl rfl (hb hby d_dbd_12)
  refine OGo.by_ st4 ?_
  show OGo p e below _ (T4.setTop (mkF m 15 #[.val (.ref a), .val (.ref dd)] []))
  have N4 := Fr.snoc X4 N3 ga
  have Z_3 := (show _ ≤ h4.size by rw [W4.size]; exact Z_2)
  have E_3 := E_2.wr W4
  have K_3 := Keep.wr K_2 W4 (Or.inl (List.mem_singleton.mpr rfl))
  have S_3 := Sta.wr W4 S_2
  have Frelations_3 := Frelations_2.same W4
  have Ffunctions_3 := Ffunctions_2.other W4 (Or.inr (slot_ne (C := "com/example/intercept_rows/interceptrows/engine/Database") (Or.inr (hw _ (List.mem_of_getElem? (i := 36) rfl))) (Or.inr (hw _ (List.mem_of_getElem? (i := 34) rfl))) (by decide) (t := (.object "java/util/Map")) (t' := (.object "java/util/Map")) (by decide) (by decide)))
  have Flock_3 := Flock_2.other W4 (Or.inr (slot_ne (C := "com/example/intercept_rows/interceptrows/engine/Database") (Or.inr (hw _ (List.mem_of_getElem? (i := 45) rfl))) (Or.inr (hw _ (List.mem_of_getElem? (i := 34) rfl))) (by decide) (t := (.object "com/example/intercept_rows/interceptrows/engine/DatabaseLock")) (t' := (.object "java/util/Map")) (by decide) (by decide)))
  have Fnesting_3 := Fnesting_2.other W4 (Or.inr (slot_ne (C := "com/example/intercept_rows/interceptrows/engine/Database") (Or.inr (hw _ (List.mem_of_getElem? (i := 54) rfl))) (Or.inr (hw _ (List.mem_of_getElem? (i := 34) rfl))) (by decide) (t := (.object "com/example/intercept_rows/interceptrows/engine/TriggerNesting")) (t' := (.object "java/util/Map")) (by decide) (by decide)))
  have FlockWaitNanos_3 := FlockWaitNanos_2.other W4 (Or.inr (slot_ne (C := "com/example/intercept_rows/interceptrows/engine/Database") (Or.inr (hw _ (List.mem_of_getElem? (i := 93) rfl))) (Or.inr (hw _ (List.mem_of_getElem? (i := 34) rfl))) (by decide) (t := .long) (t' := (.object "java/util/Map")) (by decide) (by decide)))
  have Ed_3 := Ed_2.wr W4
  have El_3 := El_2.wr W4
  have ds_3 := ds_2.other W4 (Or.inl od)
  have dn_3 := dn_2.other W4 (Or.inl od)
  have ls_3 := ls_2.other W4 (Or.inl ol)
  have sy0 := K_3.1
  refine OGo.by_ (fun t k => XS.aloadN X4.here hx rfl (hb hby d_dbd_15) rfl rfl k) ?_
  show OGo p e below _ (T4.setTop (mkF m 16 #[.val (.ref a), .val (.ref dd)] [(.ref a)]))
  obtain ⟨T5, h5, X5, e5, E5, A5, Dv5, -, st5⟩ := newO X4 hx hZ hown (hw _ (List.mem_of_getElem? (i := 17) rfl)) (hw _ (List.mem_of_getElem? (i := 18) rfl)) (hw _ (List.mem_of_getElem? (i := 19) rfl)) e4 (g := (mkF m 16 #[.val (.ref a), .val (.ref dd)] [(.ref a)])) rfl (hb hby d_dbd_16) (by decide) (by decide)
  obtain ⟨b1, g_b1⟩ : ∃ z, z = h4.size := ⟨_, rfl⟩
  rw [← g_b1] at A5 Dv5 st5
  have A_b1 := A5
  have lt_b1 := own_lt A5.lt
  have F_loadFactor_b1 : Fld Z h5 b1 "java/util/HashMap" "loadFactor" "F" (.float (0 : UInt32)) := Dv5 (Or.inr (hw _ (List.mem_of_getElem? (i := 32) rfl))) (ty := .float) (by decide)
  refine OGo.by_ st5 ?_
  show OGo p e below _ (T5.setTop (mkF m 19 #[.val (.ref a), .val (.ref dd)] [(.ref b1), (.ref a)]))
  have Z_4 := Nat.le_trans Z_3 E5.1
  have E_4 := E_3.ext E5
  have K_4 := Keep.ext K_3 E5
  have S_4 := Sta.ext E5 S_3
  have Frelations_4 := Frelations_3.ext E5
  have Ffunctions_4 := Ffunctions_3.ext E5
  have Flock_4 := Flock_3.ext E5
  have Fnesting_4 := Fnesting_3.ext E5
  have FlockWaitNanos_4 := FlockWaitNanos_3.ext E5
  have Ed_4 := Ed_3.ext E5
  have El_4 := El_3.ext E5
  have ds_4 := ds_3.ext E5
  have dn_4 := dn_3.ext E5
  have ls_4 := ls_3.ext E5
  have hn_b1 : a ≠ b1 := own_ne (by omega)
  have dn_b1 : dd ≠ b1 := own_ne (by omega)
  have ln_b1 : lw ≠ b1 := own_ne (by omega)
  have gn_b1 : n0 ≤ b1 := by omega
  have kn_b1 : h0.size ≤ b1 := by omega
  refine OGo.by_ (fun t k => XS.dup X5.here hx rfl (hb hby d_dbd_19) rfl rfl k) ?_
  show OGo p e below _ (T5.setTop (mkF m 20 #[.val (.ref a), .val (.ref dd)] [(.ref b1), (.ref b1), (.ref a)]))
  obtain ⟨_, _, ⟨T6, L6, k6, n6⟩, -, X6, ⟨Lc6, hQ6, l6, y6, z6⟩, st6⟩ := X5.specialBack hx (y := (⟨"java/util/HashMap", "<init>", "()V"⟩ : MethodName)) rfl hown (mvT hZ (hw _ (List.mem_of_getElem? (i := 20) rfl))) (mvT hZ (hw _ (List.mem_of_getElem? (i := 21) rfl))) (mvT hZ (hw _ (List.mem_of_getElem? (i := 22) rfl))) (by decide) (backOf (W := 2) (rm_hm l Z a0 hw [] b1 h5 n0 Z_4 A_b1 F_loadFactor_b1 gn_b1) hZ (hw _ (List.mem_of_getElem? (i := 22) rfl)) (hw _ (List.mem_of_getElem? (i := 19) rfl)) (by decide) (by decide)) (g := (mkF m 20 #[.val (.ref a), .val (.ref dd)] [(.ref b1), (.ref b1), (.ref a)])) rfl (by rw [hml]; rfl) (Steps.refl _) (a := b1) (argsL := []) (rest := [(.ref b1), (.ref a)]) (lenOf pd_ocV rfl) rfl (by show 2 * 0 + _ ≤ _; exact Nat.le_of_eq rfl) (hb hby d_dbd_20) (fun _ _ => ⟨rfl, e5, (by decide : 2 + 0 ≤ _), (by decide : 16 + 0 ≤ _)⟩)
  dsimp only [Pt.U, Pt.locs, Pt.cells, Pt.slots] at X6 l6 y6 z6 st6 hQ6
  subst l6 y6 z6
  obtain ⟨rfl, Nq6, K6⟩ := hQ6
  have N6 := Fr.app N4 Nq6
  refine OGo.by_ (fun t k => st6.trans k) ?_
  show OGo p e below _ (T6.setTop (mkF m 23 #[.val (.ref a), .val (.ref dd)] [(.ref b1), (.ref a)]))
  have Z_5 := Nat.le_trans Z_4 K6.1
  have E_5 := E_4.keep K6
  have K_5 := Keep.trans K_4 K6 (allS ((Or.inr kn_b1)) all0)
  have S_5 := own_sta_keep S_4 K6 (own_exa_plain A_b1)
  have Frelations_5 := Frelations_4.keep K6 (own_nin1 hn_b1)
  have Ffunctions_5 := Ffunctions_4.keep K6 (own_nin1 hn_b1)
  have Flock_5 := Flock_4.keep K6 (own_nin1 hn_b1)
  have Fnesting_5 := Fnesting_4.keep K6 (own_nin1 hn_b1)
  have FlockWaitNanos_5 := FlockWaitNanos_4.keep K6 (own_nin1 hn_b1)
  have Ed_5 := Ed_4.keep K6
  have El_5 := El_4.keep K6
  have ds_5 := ds_4.keep K6 (own_nin1 dn_b1)
  have dn_5 := dn_4.keep K6 (own_nin1 dn_b1)
  have ls_5 := ls_4.keep K6 (own_nin1 ln_b1)
  have sz1 : h0.size ≤ T6.heap.size := K_5.1
  obtain ⟨T7, h7, X7, e7, W7, st7⟩ := putF X6 hx hZ hown (host := "") (Or.inl (hw _ (List.mem_of_getElem? (i := 35) rfl))) Via.refl rfl Ffunctions_5 E_5 (Or.inr ⟨(hw _ (List.mem_of_getElem? (i := 36) rfl)), rfl, hnm⟩) (hw _ (List.mem_of_getElem? (i := 4) rfl)) (ty := (.object "java/util/Map")) (by decide) rfl rfl (g := (mkF m 23 #[.val (.ref a), .val (.ref dd)] [(.ref b1), (.ref a)])) rfl rfl (hb hby d_dbd_23)
  refine OGo.by_ st7 ?_
  show OGo p e below _ (T7.setTop (mkF m 26 #[.val (.ref a), .val (.ref dd)] []))
  have N7 := Fr.snoc X7 N6 ga
  have Z_6 := (show _ ≤ h7.size by rw [W7.size]; exact Z_5)
  have E_6 := E_5.wr W7
  have K_6 := Keep.wr K_5 W7 (Or.inl (List.mem_singleton.mpr rfl))
  have S_6 := Sta.wr W7 S_5
  have Frelations_6 := Frelations_5.other W7 (Or.inr (slot_ne (C := "com/example/intercept_rows/interceptrows/engine/Database") (Or.inr (hw _ (List.mem_of_getElem? (i := 34) rfl))) (Or.inr (hw _ (List.mem_of_getElem? (i := 36) rfl))) (by decide) (t := (.object "java/util/Map")) (t' := (.object "java/util/Map")) (by decide) (by decide)))
  have Ffunctions_6 := Ffunctions_5.same W7
  have Flock_6 := Flock_5.other W7 (Or.inr (slot_ne (C := "com/example/intercept_rows/interceptrows/engine/Database") (Or.inr (hw _ (List.mem_of_getElem? (i := 45) rfl))) (Or.inr (hw _ (List.mem_of_getElem? (i := 36) rfl))) (by decide) (t := (.object "com/example/intercept_rows/interceptrows/engine/DatabaseLock")) (t' := (.object "java/util/Map")) (by decide) (by decide)))
  have Fnesting_6 := Fnesting_5.other W7 (Or.inr (slot_ne (C := "com/example/intercept_rows/interceptrows/engine/Database") (Or.inr (hw _ (List.mem_of_getElem? (i := 54) rfl))) (Or.inr (hw _ (List.mem_of_getElem? (i := 36) rfl))) (by decide) (t := (.object "com/example/intercept_rows/interceptrows/engine/TriggerNesting")) (t' := (.object "java/util/Map")) (by decide) (by decide)))
  have FlockWaitNanos_6 := FlockWaitNanos_5.other W7 (Or.inr (slot_ne (C := "com/example/intercept_rows/interceptrows/engine/Database") (Or.inr (hw _ (List.mem_of_getElem? (i := 93) rfl))) (Or.inr (hw _ (List.mem_of_getElem? (i := 36) rfl))) (by decide) (t := .long) (t' := (.object "java/util/Map")) (by decide) (by decide)))
  have Ed_6 := Ed_5.wr W7
  have El_6 := El_5.wr W7
  have ds_6 := ds_5.other W7 (Or.inl od)
  have dn_6 := dn_5.other W7 (Or.inl od)
  have ls_6 := ls_5.other W7 (Or.inl ol)
  have sy1 := K_6.1
  refine OGo.by_ (fun t k => XS.aloadN X7.here hx rfl (hb hby d_dbd_26) rfl rfl k) ?_
  show OGo p e below _ (T7.setTop (mkF m 27 #[.val (.ref a), .val (.ref dd)] [(.ref a)]))
  obtain ⟨T8, h8, X8, e8, E8, A8, Dv8, -, st8⟩ := newO X7 hx hZ hown (hw _ (List.mem_of_getElem? (i := 37) rfl)) (hw _ (List.mem_of_getElem? (i := 38) rfl)) (hw _ (List.mem_of_getElem? (i := 39) rfl)) e7 (g := (mkF m 27 #[.val (.ref a), .val (.ref dd)] [(.ref a)])) rfl (hb hby d_dbd_27) (by decide) (by decide)
  obtain ⟨b2, g_b2⟩ : ∃ z, z = h7.size := ⟨_, rfl⟩
  rw [← g_b2] at A8 Dv8 st8
  have A_b2 := A8
  have lt_b2 := own_lt A8.lt
  refine OGo.by_ st8 ?_
  show OGo p e below _ (T8.setTop (mkF m 30 #[.val (.ref a), .val (.ref dd)] [(.ref b2), (.ref a)]))
  have Z_7 := Nat.le_trans Z_6 E8.1
  have E_7 := E_6.ext E8
  have K_7 := Keep.ext K_6 E8
  have S_7 := Sta.ext E8 S_6
  have Frelations_7 := Frelations_6.ext E8
  have Ffunctions_7 := Ffunctions_6.ext E8
  have Flock_7 := Flock_6.ext E8
  have Fnesting_7 := Fnesting_6.ext E8
  have FlockWaitNanos_7 := FlockWaitNanos_6.ext E8
  have Ed_7 := Ed_6.ext E8
  have El_7 := El_6.ext E8
  have ds_7 := ds_6.ext E8
  have dn_7 := dn_6.ext E8
  have ls_7 := ls_6.ext E8
  have hn_b2 : a ≠ b2 := own_ne (by omega)
  have dn_b2 : dd ≠ b2 := own_ne (by omega)
  have ln_b2 : lw ≠ b2 := own_ne (by omega)
  have gn_b2 : n0 ≤ b2 := by omega
  have kn_b2 : h0.size ≤ b2 := by omega
  refine OGo.by_ (fun t k => XS.dup X8.here hx rfl (hb hby d_dbd_30) rfl rfl k) ?_
  show OGo p e below _ (T8.setTop (mkF m 31 #[.val (.ref a), .val (.ref dd)] [(.ref b2), (.ref b2), (.ref a)]))
  obtain ⟨_, _, ⟨T9, L9, k9, n9⟩, -, X9, ⟨Lc9, hQ9, l9, y9, z9⟩, st9⟩ := X8.specialBack hx (y := (⟨"com/example/intercept_rows/interceptrows/engine/DatabaseLock", "<init>", "()V"⟩ : MethodName)) rfl hown (mvT hZ (hw _ (List.mem_of_getElem? (i := 40) rfl))) (mvT hZ (hw _ (List.mem_of_getElem? (i := 41) rfl))) (mvT hZ (hw _ (List.mem_of_getElem? (i := 42) rfl))) (by decide) (backOf (W := 2) (rm_lk l Z a0 hw [] b2 h8 n0 Z_7) hZ (hw _ (List.mem_of_getElem? (i := 42) rfl)) (hw _ (List.mem_of_getElem? (i := 39) rfl)) (by decide) (by decide)) (g := (mkF m 31 #[.val (.ref a), .val (.ref dd)] [(.ref b2), (.ref b2), (.ref a)])) rfl (by rw [hml]; rfl) (Steps.refl _) (a := b2) (argsL := []) (rest := [(.ref b2), (.ref a)]) (lenOf pd_ocV rfl) rfl (by show 2 * 0 + _ ≤ _; exact Nat.le_of_eq rfl) (hb hby d_dbd_31) (fun _ _ => ⟨rfl, e8, (by decide : 3 + 0 ≤ _), (by decide : 18 + 0 ≤ _)⟩)
  dsimp only [Pt.U, Pt.locs, Pt.cells, Pt.slots] at X9 l9 y9 z9 st9 hQ9
  subst l9 y9 z9
  obtain ⟨rfl, Nq9, eq9⟩ := hQ9
  have N9 := Fr.app N7 Nq9
  refine OGo.by_ (fun t k => st9.trans k) ?_
  show OGo p e below _ (T9.setTop (mkF m 34 #[.val (.ref a), .val (.ref dd)] [(.ref b2), (.ref a)]))
  have sz2 : h0.size ≤ h8.size := K_7.1
  obtain ⟨T10, h10, X10, e10, W10, st10⟩ := putF X9 hx hZ hown (host := "") (Or.inl (hw _ (List.mem_of_getElem? (i := 44) rfl))) Via.refl eq9 Flock_7 E_7 (Or.inr ⟨(hw _ (List.mem_of_getElem? (i := 45) rfl)), rfl, hnm⟩) (hw _ (List.mem_of_getElem? (i := 4) rfl)) (ty := (.object "com/example/intercept_rows/interceptrows/engine/DatabaseLock")) (by decide) rfl rfl (g := (mkF m 34 #[.val (.ref a), .val (.ref dd)] [(.ref b2), (.ref a)])) rfl rfl (hb hby d_dbd_34)
  refine OGo.by_ st10 ?_
  show OGo p e below _ (T10.setTop (mkF m 37 #[.val (.ref a), .val (.ref dd)] []))
  have N10 := Fr.snoc X10 N9 ga
  have Z_8 := (show _ ≤ h10.size by rw [W10.size]; exact Z_7)
  have E_8 := E_7.wr W10
  have K_8 := Keep.wr K_7 W10 (Or.inl (List.mem_singleton.mpr rfl))
  have S_8 := Sta.wr W10 S_7
  have Frelations_8 := Frelations_7.other W10 (Or.inr (slot_ne (C := "com/example/intercept_rows/interceptrows/engine/Database") (Or.inr (hw _ (List.mem_of_getElem? (i := 34) rfl))) (Or.inr (hw _ (List.mem_of_getElem? (i := 45) rfl))) (by decide) (t := (.object "java/util/Map")) (t' := (.object "com/example/intercept_rows/interceptrows/engine/DatabaseLock")) (by decide) (by decide)))
  have Ffunctions_8 := Ffunctions_7.other W10 (Or.inr (slot_ne (C := "com/example/intercept_rows/interceptrows/engine/Database") (Or.inr (hw _ (List.mem_of_getElem? (i := 36) rfl))) (Or.inr (hw _ (List.mem_of_getElem? (i := 45) rfl))) (by decide) (t := (.object "java/util/Map")) (t' := (.object "com/example/intercept_rows/interceptrows/engine/DatabaseLock")) (by decide) (by decide)))
  have Flock_8 := Flock_7.same W10
  have Fnesting_8 := Fnesting_7.other W10 (Or.inr (slot_ne (C := "com/example/intercept_rows/interceptrows/engine/Database") (Or.inr (hw _ (List.mem_of_getElem? (i := 54) rfl))) (Or.inr (hw _ (List.mem_of_getElem? (i := 45) rfl))) (by decide) (t := (.object "com/example/intercept_rows/interceptrows/engine/TriggerNesting")) (t' := (.object "com/example/intercept_rows/interceptrows/engine/DatabaseLock")) (by decide) (by decide)))
  have FlockWaitNanos_8 := FlockWaitNanos_7.other W10 (Or.inr (slot_ne (C := "com/example/intercept_rows/interceptrows/engine/Database") (Or.inr (hw _ (List.mem_of_getElem? (i := 93) rfl))) (Or.inr (hw _ (List.mem_of_getElem? (i := 45) rfl))) (by decide) (t := .long) (t' := (.object "com/example/intercept_rows/interceptrows/engine/DatabaseLock")) (by decide) (by decide)))
  have Ed_8 := Ed_7.wr W10
  have El_8 := El_7.wr W10
  have ds_8 := ds_7.other W10 (Or.inl od)
  have dn_8 := dn_7.other W10 (Or.inl od)
  have ls_8 := ls_7.other W10 (Or.inl ol)
  have sy2 := K_8.1
  refine OGo.by_ (fun t k => XS.aloadN X10.here hx rfl (hb hby d_dbd_37) rfl rfl k) ?_
  show OGo p e below _ (T10.setTop (mkF m 38 #[.val (.ref a), .val (.ref dd)] [(.ref a)]))
  obtain ⟨T11, h11, X11, e11, E11, A11, Dv11, -, st11⟩ := newO X10 hx hZ hown (hw _ (List.mem_of_getElem? (i := 46) rfl)) (hw _ (List.mem_of_getElem? (i := 47) rfl)) (hw _ (List.mem_of_getElem? (i := 48) rfl)) e10 (g := (mkF m 38 #[.val (.ref a), .val (.ref dd)] [(.ref a)])) rfl (hb hby d_dbd_38) (by decide) (by decide)
  obtain ⟨b3, g_b3⟩ : ∃ z, z = h10.size := ⟨_, rfl⟩
  rw [← g_b3] at A11 Dv11 st11
  have A_b3 := A11
  have lt_b3 := own_lt A11.lt
  refine OGo.by_ st11 ?_
  show OGo p e below _ (T11.setTop (mkF m 41 #[.val (.ref a), .val (.ref dd)] [(.ref b3), (.ref a)]))
  have Z_9 := Nat.le_trans Z_8 E11.1
  have E_9 := E_8.ext E11
  have K_9 := Keep.ext K_8 E11
  have S_9 := Sta.ext E11 S_8
  have Frelations_9 := Frelations_8.ext E11
  have Ffunctions_9 := Ffunctions_8.ext E11
  have Flock_9 := Flock_8.ext E11
  have Fnesting_9 := Fnesting_8.ext E11
  have FlockWaitNanos_9 := FlockWaitNanos_8.ext E11
  have Ed_9 := Ed_8.ext E11
  have El_9 := El_8.ext E11
  have ds_9 := ds_8.ext E11
  have dn_9 := dn_8.ext E11
  have ls_9 := ls_8.ext E11
  have hn_b3 : a ≠ b3 := own_ne (by omega)
  have dn_b3 : dd ≠ b3 := own_ne (by omega)
  have ln_b3 : lw ≠ b3 := own_ne (by omega)
  have gn_b3 : n0 ≤ b3 := by omega
  have kn_b3 : h0.size ≤ b3 := by omega
  refine OGo.by_ (fun t k => XS.dup X11.here hx rfl (hb hby d_dbd_41) rfl rfl k) ?_
  show OGo p e below _ (T11.setTop (mkF m 42 #[.val (.ref a), .val (.ref dd)] [(.ref b3), (.ref b3), (.ref a)]))
  obtain ⟨_, _, ⟨T12, L12, k12, n12⟩, -, X12, ⟨Lc12, hQ12, l12, y12, z12⟩, st12⟩ := X11.specialBack hx (y := (⟨"com/example/intercept_rows/interceptrows/engine/TriggerNesting", "<init>", "()V"⟩ : MethodName)) rfl hown (mvT hZ (hw _ (List.mem_of_getElem? (i := 49) rfl))) (mvT hZ (hw _ (List.mem_of_getElem? (i := 50) rfl))) (mvT hZ (hw _ (List.mem_of_getElem? (i := 51) rfl))) (by decide) (backOf (W := 2) (rm_tn l Z a0 hw [] b3 h11 n0 Z_9) hZ (hw _ (List.mem_of_getElem? (i := 51) rfl)) (hw _ (List.mem_of_getElem? (i := 48) rfl)) (by decide) (by decide)) (g := (mkF m 42 #[.val (.ref a), .val (.ref dd)] [(.ref b3), (.ref b3), (.ref a)])) rfl (by rw [hml]; rfl) (Steps.refl _) (a := b3) (argsL := []) (rest := [(.ref b3), (.ref a)]) (lenOf pd_ocV rfl) rfl (by show 2 * 0 + _ ≤ _; exact Nat.le_of_eq rfl) (hb hby d_dbd_42) (fun _ _ => ⟨rfl, e11, (by decide : 4 + 0 ≤ _), (by decide : 20 + 0 ≤ _)⟩)
  dsimp only [Pt.U, Pt.locs, Pt.cells, Pt.slots] at X12 l12 y12 z12 st12 hQ12
  subst l12 y12 z12
  obtain ⟨rfl, Nq12, eq12⟩ := hQ12
  have N12 := Fr.app N10 Nq12
  refine OGo.by_ (fun t k => st12.trans k) ?_
  show OGo p e below _ (T12.setTop (mkF m 45 #[.val (.ref a), .val (.ref dd)] [(.ref b3), (.ref a)]))
  have sz3 : h0.size ≤ h11.size := K_9.1
  obtain ⟨T13, h13, X13, e13, W13, st13⟩ := putF X12 hx hZ hown (host := "") (Or.inl (hw _ (List.mem_of_getElem? (i := 53) rfl))) Via.refl eq12 Fnesting_9 E_9 (Or.inr ⟨(hw _ (List.mem_of_getElem? (i := 54) rfl)), rfl, hnm⟩) (hw _ (List.mem_of_getElem? (i := 4) rfl)) (ty := (.object "com/example/intercept_rows/interceptrows/engine/TriggerNesting")) (by decide) rfl rfl (g := (mkF m 45 #[.val (.ref a), .val (.ref dd)] [(.ref b3), (.ref a)])) rfl rfl (hb hby d_dbd_45)
  refine OGo.by_ st13 ?_
  show OGo p e below _ (T13.setTop (mkF m 48 #[.val (.ref a), .val (.ref dd)] []))
  have N13 := Fr.snoc X13 N12 ga
  have Z_10 := (show _ ≤ h13.size by rw [W13.size]; exact Z_9)
  have E_10 := E_9.wr W13
  have K_10 := Keep.wr K_9 W13 (Or.inl (List.mem_singleton.mpr rfl))
  have S_10 := Sta.wr W13 S_9
  have Frelations_10 := Frelations_9.other W13 (Or.inr (slot_ne (C := "com/example/intercept_rows/interceptrows/engine/Database") (Or.inr (hw _ (List.mem_of_getElem? (i := 34) rfl))) (Or.inr (hw _ (List.mem_of_getElem? (i := 54) rfl))) (by decide) (t := (.object "java/util/Map")) (t' := (.object "com/example/intercept_rows/interceptrows/engine/TriggerNesting")) (by decide) (by decide)))
  have Ffunctions_10 := Ffunctions_9.other W13 (Or.inr (slot_ne (C := "com/example/intercept_rows/interceptrows/engine/Database") (Or.inr (hw _ (List.mem_of_getElem? (i := 36) rfl))) (Or.inr (hw _ (List.mem_of_getElem? (i := 54) rfl))) (by decide) (t := (.object "java/util/Map")) (t' := (.object "com/example/intercept_rows/interceptrows/engine/TriggerNesting")) (by decide) (by decide)))
  have Flock_10 := Flock_9.other W13 (Or.inr (slot_ne (C := "com/example/intercept_rows/interceptrows/engine/Database") (Or.inr (hw _ (List.mem_of_getElem? (i := 45) rfl))) (Or.inr (hw _ (List.mem_of_getElem? (i := 54) rfl))) (by decide) (t := (.object "com/example/intercept_rows/interceptrows/engine/DatabaseLock")) (t' := (.object "com/example/intercept_rows/interceptrows/engine/TriggerNesting")) (by decide) (by decide)))
  have Fnesting_10 := Fnesting_9.same W13
  have FlockWaitNanos_10 := FlockWaitNanos_9.other W13 (Or.inr (slot_ne (C := "com/example/intercept_rows/interceptrows/engine/Database") (Or.inr (hw _ (List.mem_of_getElem? (i := 93) rfl))) (Or.inr (hw _ (List.mem_of_getElem? (i := 54) rfl))) (by decide) (t := .long) (t' := (.object "com/example/intercept_rows/interceptrows/engine/TriggerNesting")) (by decide) (by decide)))
  have Ed_10 := Ed_9.wr W13
  have El_10 := El_9.wr W13
  have ds_10 := ds_9.other W13 (Or.inl od)
  have dn_10 := dn_9.other W13 (Or.inl od)
  have ls_10 := ls_9.other W13 (Or.inl ol)
  have sy3 := K_10.1
  refine OGo.by_ (fun t k => XS.aloadN X13.here hx rfl (hb hby d_dbd_48) rfl rfl k) ?_
  show OGo p e below _ (T13.setTop (mkF m 49 #[.val (.ref a), .val (.ref dd)] [(.ref dd)]))
  obtain ⟨cq15, kq15, qa15, qb15, qc15⟩ := isOf hZ e13 Ed_10
  obtain ⟨_, _, ⟨T14, L14, k14, n14⟩, -, X14, ⟨Lc14, hQ14, l14, y14, z14⟩, st14⟩ := X13.virtualBack hx (y := (⟨"java/time/Duration", "isNegative", "()Z"⟩ : MethodName)) (z := (⟨"java/time/Duration", "isNegative", "()Z"⟩ : MethodName)) hown (mvT hZ (hw _ (List.mem_of_getElem? (i := 55) rfl))) (mvT hZ (hw _ (List.mem_of_getElem? (i := 56) rfl))) (notFace_of_selects (args := #[]) (mvT hZ (hw _ (List.mem_of_getElem? (i := 58) rfl)))) (mvT hZ (hw _ (List.mem_of_getElem? (i := 58) rfl))) (mvT hZ (hw _ (List.mem_of_getElem? (i := 57) rfl))) (by decide) (backOf (W := 0) (rm_neg l Z a0 hw [] dd h13 n0 Z_10 ds_10) hZ (hw _ (List.mem_of_getElem? (i := 60) rfl)) (hw _ (List.mem_of_getElem? (i := 59) rfl)) (by decide) (by decide)) qa15 qc15 (g := (mkF m 49 #[.val (.ref a), .val (.ref dd)] [(.ref dd)])) rfl (by rw [hml]; rfl) (Steps.refl _) (argsL := []) (rest := []) (lenOf pd_ocZ rfl) rfl (by show 2 * 0 + _ ≤ _; exact Nat.le_of_eq rfl) (hb hby d_dbd_49) (fun _ _ => ⟨rfl, e13, (by decide : 4 + 0 ≤ _), (by decide : 20 + 0 ≤ _)⟩)
  dsimp only [Pt.U, Pt.locs, Pt.cells, Pt.slots] at X14 l14 y14 z14 st14 hQ14
  subst l14 y14 z14
  obtain ⟨rfl, Nq14, eq14⟩ := hQ14
  have N14 := Fr.app N13 Nq14
  refine OGo.by_ (fun t k => st14.trans k) ?_
  show OGo p e below _ (T14.setTop (mkF m 52 #[.val (.ref a), .val (.ref dd)] [(.int (0 : Int32))]))
  refine OGo.by_ (fun t k => XS.ifYes X14.here hx rfl (pc0 := 52) (pc' := 72) rfl (hb hby d_dbd_52) rfl ((if0 _ _).trans (teq rfl).1) (by decide) (by decide) k) ?_
  show OGo p e below _ (T14.setTop (mkF m 72 #[.val (.ref a), .val (.ref dd)] []))
  refine OGo.by_ (fun t k => XS.aloadN X14.here hx rfl (hb hby d_dbd_72) rfl rfl k) ?_
  show OGo p e below _ (T14.setTop (mkF m 73 #[.val (.ref a), .val (.ref dd)] [(.ref a)]))
  refine OGo.by_ (fun t k => XS.aloadN X14.here hx rfl (hb hby d_dbd_73) rfl rfl k) ?_
  show OGo p e below _ (T14.setTop (mkF m 74 #[.val (.ref a), .val (.ref dd)] [(.ref dd), (.ref a)]))
  obtain ⟨T16, X16, e16, st16⟩ := getS X14 hx hZ hown (host := "") (hw _ (List.mem_of_getElem? (i := 63) rfl)) Via.refl eq14 S_10 (g := (mkF m 74 #[.val (.ref a), .val (.ref dd)] [(.ref dd), (.ref a)])) rfl (hb hby d_dbd_74)
  refine OGo.by_ st16 ?_
  show OGo p e below _ (T16.setTop (mkF m 77 #[.val (.ref a), .val (.ref dd)] [(.ref lw), (.ref dd), (.ref a)]))
  obtain ⟨cq18, kq18, qa18, qb18, qc18⟩ := isOf hZ e16 Ed_10
  obtain ⟨_, _, ⟨T17, L17, k17, n17⟩, -, X17, ⟨Lc17, hQ17, l17, y17, z17⟩, st17⟩ := X16.virtualBack hx (y := (⟨"java/time/Duration", "compareTo", "(Ljava/time/Duration;)I"⟩ : MethodName)) (z := (⟨"java/time/Duration", "compareTo", "(Ljava/time/Duration;)I"⟩ : MethodName)) hown (mvT hZ (hw _ (List.mem_of_getElem? (i := 65) rfl))) (mvT hZ (hw _ (List.mem_of_getElem? (i := 66) rfl))) (notFace_of_selects (args := #[]) (mvT hZ (hw _ (List.mem_of_getElem? (i := 68) rfl)))) (mvT hZ (hw _ (List.mem_of_getElem? (i := 68) rfl))) (mvT hZ (hw _ (List.mem_of_getElem? (i := 67) rfl))) (by decide) (backOf (W := 1) (rm_cmp l Z a0 hw [] dd lw h13 n0 Z_10 ds_10 ls_10) hZ (hw _ (List.mem_of_getElem? (i := 69) rfl)) (hw _ (List.mem_of_getElem? (i := 59) rfl)) (by decide) (by decide)) qa18 qc18 (g := (mkF m 77 #[.val (.ref a), .val (.ref dd)] [(.ref lw), (.ref dd), (.ref a)])) rfl (by rw [hml]; rfl) (Steps.refl _) (argsL := [(.ref lw)]) (rest := [(.ref a)]) (lenOf pd_oLjava_time_Duration_cI rfl) rfl (by show 2 * 0 + _ ≤ _; exact Nat.le_of_eq rfl) (hb hby d_dbd_77) (fun _ _ => ⟨rfl, e16, (by decide : 4 + 0 ≤ _), (by decide : 20 + 0 ≤ _)⟩)
  dsimp only [Pt.U, Pt.locs, Pt.cells, Pt.slots] at X17 l17 y17 z17 st17 hQ17
  subst l17 y17 z17
  obtain ⟨rfl, Nq17, eq17⟩ := hQ17
  have N17 := Fr.app N14 Nq17
  refine OGo.by_ (fun t k => st17.trans k) ?_
  show OGo p e below _ (T17.setTop (mkF m 80 #[.val (.ref a), .val (.ref dd)] [(.int (-1 : Int32)), (.ref a)]))
  refine OGo.by_ (fun t k => XS.ifNo X17.here hx rfl (hb hby d_dbd_80) rfl ((if0 _ _).trans (tlt (by decide)).2.1) k) ?_
  show OGo p e below _ (T17.setTop (mkF m 83 #[.val (.ref a), .val (.ref dd)] [(.ref a)]))
  refine OGo.by_ (fun t k => XS.aloadN X17.here hx rfl (hb hby d_dbd_83) rfl rfl k) ?_
  show OGo p e below _ (T17.setTop (mkF m 84 #[.val (.ref a), .val (.ref dd)] [(.ref dd), (.ref a)]))
  obtain ⟨cq20, kq20, qa20, qb20, qc20⟩ := isOf hZ eq17 Ed_10
  obtain ⟨_, _, ⟨T19, L19, k19, n19⟩, -, X19, ⟨Lc19, hQ19, l19, y19, z19⟩, st19⟩ := X17.virtualBack hx (y := (⟨"java/time/Duration", "toNanos", "()J"⟩ : MethodName)) (z := (⟨"java/time/Duration", "toNanos", "()J"⟩ : MethodName)) hown (mvT hZ (hw _ (List.mem_of_getElem? (i := 74) rfl))) (mvT hZ (hw _ (List.mem_of_getElem? (i := 75) rfl))) (notFace_of_selects (args := #[]) (mvT hZ (hw _ (List.mem_of_getElem? (i := 77) rfl)))) (mvT hZ (hw _ (List.mem_of_getElem? (i := 77) rfl))) (mvT hZ (hw _ (List.mem_of_getElem? (i := 76) rfl))) (by decide) (backOf (W := 1) (rm_nan l Z a0 hw [] dd h13 n0 Z_10 ds_10 dn_10) hZ (hw _ (List.mem_of_getElem? (i := 78) rfl)) (hw _ (List.mem_of_getElem? (i := 59) rfl)) (by decide) (by decide)) qa20 qc20 (g := (mkF m 84 #[.val (.ref a), .val (.ref dd)] [(.ref dd), (.ref a)])) rfl (by rw [hml]; rfl) (Steps.refl _) (argsL := []) (rest := [(.ref a)]) (lenOf pd_ocJ rfl) rfl (by show 2 * 0 + _ ≤ _; exact Nat.le_of_eq rfl) (hb hby d_dbd_84) (fun _ _ => ⟨rfl, eq17, (by decide : 4 + 0 ≤ _), (by decide : 20 + 0 ≤ _)⟩)
  dsimp only [Pt.U, Pt.locs, Pt.cells, Pt.slots] at X19 l19 y19 z19 st19 hQ19
  subst l19 y19 z19
  obtain ⟨rfl, Nq19, eq19⟩ := hQ19
  have N19 := Fr.app N17 Nq19
  refine OGo.by_ (fun t k => st19.trans k) ?_
  show OGo p e below _ (T19.setTop (mkF m 87 #[.val (.ref a), .val (.ref dd)] [(.long (((10 : Int64) * (1000000000 : Int64)) + ((0 : Int32).toInt64))), (.ref a)]))
  refine OGo.by_ (fun t k => XS.goto X19.here hx rfl (pc0 := 87) (pc' := 93) rfl (hb hby d_dbd_87) (by decide) (by decide) k) ?_
  show OGo p e below _ (T19.setTop (mkF m 93 #[.val (.ref a), .val (.ref dd)] [(.long (((10 : Int64) * (1000000000 : Int64)) + ((0 : Int32).toInt64))), (.ref a)]))
  obtain ⟨T21, h21, X21, e21, W21, st21⟩ := putF X19 hx hZ hown (host := "") (Or.inl (hw _ (List.mem_of_getElem? (i := 92) rfl))) Via.refl eq19 FlockWaitNanos_10 E_10 (Or.inr ⟨(hw _ (List.mem_of_getElem? (i := 93) rfl)), rfl, hnm⟩) (hw _ (List.mem_of_getElem? (i := 4) rfl)) (ty := .long) (by decide) rfl rfl (g := (mkF m 93 #[.val (.ref a), .val (.ref dd)] [(.long (((10 : Int64) * (1000000000 : Int64)) + ((0 : Int32).toInt64))), (.ref a)])) rfl rfl (hb hby d_dbd_93)
  refine OGo.by_ st21 ?_
  show OGo p e below _ (T21.setTop (mkF m 96 #[.val (.ref a), .val (.ref dd)] []))
  have N21 := Fr.snoc X21 N19 ga
  have KK := Keep.wr K_10 W21 (Or.inl (List.mem_singleton.mpr rfl))
  exact own_ret X21 hx hlk hret (hb hby d_dbd_96) (by decide) (by decide) (by rw [e21]; exact ⟨rfl, N21, KK⟩)
theorem d_db_0 : decode prog_30_method_1_code 0 = .ok (.aload_n 0, 1) := by decide +kernel
theorem d_db_1 : decode prog_30_method_1_code 1 = .ok (.getstatic 1, 3) := by decide +kernel
theorem d_db_4 : decode prog_30_method_1_code 4 = .ok (.invokespecial 7, 3) := by decide +kernel
theorem pd_oLjava_time_Duration_cV : parseMethodDescriptor "(Ljava/time/Duration;)V" = some ⟨[(.object "java/time/Duration")], none⟩ := by decide +kernel
theorem d_db_7 : decode prog_30_method_1_code 7 = .ok (.return_, 1) := by decide +kernel
theorem ef_db (m : MethodId) (x0 : Addr) : entryFrame m #[(.ref x0)] 1 = mkF m 0 #[.val (.ref x0)] [] := by first | (simp [entryFrame, mkF, argsToLocals, Value.category]; done) | rfl
def Q_db (Z : State) (a dd lw : Addr) (h0 : Heap) (n0 : Nat) (v : Option Value) (h : Heap) (L : List Loc) : Prop := v = none ∧ Fr n0 L ∧ Keep h0 h [a]
set_option maxRecDepth 65536 in
set_option maxHeartbeats 40000000 in
theorem rm_db (l : Launch) (Z : State) (a0 : Array Value) (hw : ∀ d ∈ tables_1, d.before a0 Z = true) (ws : List Jvm.Cond) (a dd lw : Addr) (h0 : Heap) (n0 : Nat) (Z0 : n0 ≤ h0.size) (E0 : Exa Z h0 a "com/example/intercept_rows/interceptrows/engine/Database") (ga : n0 ≤ a) (F0 : Fld Z h0 a "com/example/intercept_rows/interceptrows/engine/Database" "relations" "Ljava/util/Map;" .null) (F1 : Fld Z h0 a "com/example/intercept_rows/interceptrows/engine/Database" "functions" "Ljava/util/Map;" .null) (F2 : Fld Z h0 a "com/example/intercept_rows/interceptrows/engine/Database" "lock" "Lcom/example/intercept_rows/interceptrows/engine/DatabaseLock;" .null) (F3 : Fld Z h0 a "com/example/intercept_rows/interceptrows/engine/Database" "nesting" "Lcom/example/intercept_rows/interceptrows/engine/TriggerNesting;" .null) (F4 : Fld Z h0 a "com/example/intercept_rows/interceptrows/engine/Database" "lockWaitNanos" "J" (.long (0 : Int64))) (SL : Sta Z h0 "com/example/intercept_rows/interceptrows/engine/Database" "LONGEST_LOCK_WAIT" "Ljava/time/Duration;" (.ref lw)) (Ed : Exa Z h0 dd "java/time/Duration") (El : Exa Z h0 lw "java/time/Duration") (Fds : Fld Z h0 dd "java/time/Duration" "seconds" "J" (.long (10 : Int64))) (Fdn : Fld Z h0 dd "java/time/Duration" "nanos" "I" (.int (0 : Int32))) (Fls : Fld Z h0 lw "java/time/Duration" "seconds" "J" (.long (9223372036 : Int64))) (od : dd ≠ a) (ol : lw ≠ a) (SD : Sta Z h0 "com/example/intercept_rows/interceptrows/engine/Database" "DEFAULT_LOCK_WAIT" "Ljava/time/Duration;" (.ref dd)) :
    MetFree l (⟨"com/example/intercept_rows/interceptrows/engine/Database", "<init>", "()V"⟩ : MethodName) (head1 (Jvm.Cond.code (⟨"com/example/intercept_rows/interceptrows/engine/Database", "<init>", "()V"⟩ : MethodName) prog_30_method_1_code 1 none :: ws) ({ frames := 4, cells := 4, slots := 20, locals := 66 } : Room)) (fun a_ U => a_ = #[(.ref a)] ∧ Z.Warmed39 U.vm ∧ U.heap = h0) (fun _ _ _ _ _ => True) (fun _ U o U' => ∃ v L, o = .returned v ∧ Q_db Z a dd lw h0 n0 v U'.heap L ∧ FrameEnd U o U' L ({ frames := 4, cells := 4, slots := 20, locals := 66 } : Room).cells ({ frames := 4, cells := 4, slots := 20, locals := 66 } : Room).slots) := by
  refine MetFree.of_bodySF (plainFor_of_name pn_com_example_intercept_rows_interceptrows_engine_Database) hisR ?_
  intro p e s m args below meth c s₁ Bd hml0 hP hK
  obtain ⟨rfl, hZ, hh⟩ := hP
  have hx := Bd.exec
  have hby := Bd.bytes
  have hml : c.maxLocals = 1 := hml0
  have hown : s.vm.findClass "com/example/intercept_rows/interceptrows/engine/Database" = some m.cls := findClass_of_methodNamed Bd.named
  have hnm := (name_of_methodNamed Bd.named Bd.method).1
  have X0 : Stand p l e ({ frames := 4, cells := 4, slots := 20, locals := 66 } : Room) s m #[(.ref a)] below meth c s₁ [] 0 0 := Stand.of_body Bd
  have e0 : s₁.heap = h0 := by rw [← hh, Bd.state]; rfl
  have N0 := Fr.nil n0
  have hlk := Bd.notSynchronized
  have hret := Bd.returns
  show OGo p e below (OEnd s (Q_db Z a dd lw h0 n0) ({ frames := 4, cells := 4, slots := 20, locals := 66 } : Room).cells ({ frames := 4, cells := 4, slots := 20, locals := 66 } : Room).slots) (s₁.setTop (entryFrame m #[(.ref a)] 1))
  rw [ef_db]
  show OGo p e below _ (s₁.setTop (mkF m 0 #[.val (.ref a)] []))
  refine OGo.by_ (fun t k => XS.aloadN X0.here hx rfl (hb hby d_db_0) rfl rfl k) ?_
  show OGo p e below _ (s₁.setTop (mkF m 1 #[.val (.ref a)] [(.ref a)]))
  obtain ⟨T1, X1, e1, st1⟩ := getS X0 hx hZ hown (host := "") (hw _ (List.mem_of_getElem? (i := 9) rfl)) Via.refl e0 SD (g := (mkF m 1 #[.val (.ref a)] [(.ref a)])) rfl (hb hby d_db_1)
  refine OGo.by_ st1 ?_
  show OGo p e below _ (T1.setTop (mkF m 4 #[.val (.ref a)] [(.ref dd), (.ref a)]))
  obtain ⟨_, _, ⟨T2, L2, k2, n2⟩, -, X2, ⟨Lc2, hQ2, l2, y2, z2⟩, st2⟩ := X1.specialBack hx (y := (⟨"com/example/intercept_rows/interceptrows/engine/Database", "<init>", "(Ljava/time/Duration;)V"⟩ : MethodName)) rfl hown (mvT hZ (hw _ (List.mem_of_getElem? (i := 11) rfl))) (mvT hZ (hw _ (List.mem_of_getElem? (i := 12) rfl))) (mvT hZ (hw _ (List.mem_of_getElem? (i := 13) rfl))) (by decide) (backOf (W := 0) (rm_dbd l Z a0 hw [] a dd lw h0 n0 Z0 E0 ga F0 F1 F2 F3 F4 SL Ed El Fds Fdn Fls od ol) hZ (hw _ (List.mem_of_getElem? (i := 13) rfl)) (hw _ (List.mem_of_getElem? (i := 5) rfl)) (by decide) (by decide)) (g := (mkF m 4 #[.val (.ref a)] [(.ref dd), (.ref a)])) rfl (by rw [hml]; rfl) (Steps.refl _) (a := a) (argsL := [(.ref dd)]) (rest := []) (lenOf pd_oLjava_time_Duration_cV rfl) rfl (by show 2 * 0 + _ ≤ _; exact Nat.le_of_eq rfl) (hb hby d_db_4) (fun _ _ => ⟨rfl, e1, (by decide : 0 + 4 ≤ _), (by decide : 0 + 20 ≤ _)⟩)
  dsimp only [Pt.U, Pt.locs, Pt.cells, Pt.slots] at X2 l2 y2 z2 st2 hQ2
  subst l2 y2 z2
  obtain ⟨rfl, Nq2, K2⟩ := hQ2
  have N2 := Fr.app N0 Nq2
  refine OGo.by_ (fun t k => st2.trans k) ?_
  show OGo p e below _ (T2.setTop (mkF m 7 #[.val (.ref a)] []))
  exact own_ret X2 hx hlk hret (hb hby d_db_7) (by decide) (by decide) (⟨rfl, N2, K2⟩)
theorem d_uv_0 : decode prog_122_method_1_code 0 = .ok (.aload_n 0, 1) := by decide +kernel
theorem d_uv_1 : decode prog_122_method_1_code 1 = .ok (.invokespecial 1, 3) := by decide +kernel
theorem d_uv_4 : decode prog_122_method_1_code 4 = .ok (.aload_n 0, 1) := by decide +kernel
theorem d_uv_5 : decode prog_122_method_1_code 5 = .ok (.new 7, 3) := by decide +kernel
theorem d_uv_8 : decode prog_122_method_1_code 8 = .ok (.dup, 1) := by decide +kernel
theorem d_uv_9 : decode prog_122_method_1_code 9 = .ok (.invokespecial 9, 3) := by decide +kernel
theorem d_uv_12 : decode prog_122_method_1_code 12 = .ok (.putfield 10, 3) := by decide +kernel
theorem d_uv_15 : decode prog_122_method_1_code 15 = .ok (.return_, 1) := by decide +kernel
theorem pn_com_example_intercept_rows_interceptrows_engine_UserVariables : plainName "com/example/intercept_rows/interceptrows/engine/UserVariables" = true := by first | (simp [plainName, overriddenIn]; done) | decide +kernel
theorem ef_uv (m : MethodId) (x0 : Addr) : entryFrame m #[(.ref x0)] 1 = mkF m 0 #[.val (.ref x0)] [] := by first | (simp [entryFrame, mkF, argsToLocals, Value.category]; done) | rfl
def Q_uv (Z : State) (a : Addr) (h0 : Heap) (n0 : Nat) (v : Option Value) (h : Heap) (L : List Loc) : Prop := v = none ∧ Fr n0 L ∧ Keep h0 h [a]
set_option maxRecDepth 65536 in
set_option maxHeartbeats 40000000 in
theorem rm_uv (l : Launch) (Z : State) (a0 : Array Value) (hw : ∀ d ∈ tables_1, d.before a0 Z = true) (ws : List Jvm.Cond) (a : Addr) (h0 : Heap) (n0 : Nat) (Z0 : n0 ≤ h0.size) (E0 : Exa Z h0 a "com/example/intercept_rows/interceptrows/engine/UserVariables") (F0 : Fld Z h0 a "com/example/intercept_rows/interceptrows/engine/UserVariables" "byName" "Ljava/util/Map;" .null) (ga : n0 ≤ a) :
    MetFree l (⟨"com/example/intercept_rows/interceptrows/engine/UserVariables", "<init>", "()V"⟩ : MethodName) (head1 (Jvm.Cond.code (⟨"com/example/intercept_rows/interceptrows/engine/UserVariables", "<init>", "()V"⟩ : MethodName) prog_122_method_1_code 1 none :: ws) ({ frames := 3, cells := 1, slots := 8, locals := 38 } : Room)) (fun a_ U => a_ = #[(.ref a)] ∧ Z.Warmed39 U.vm ∧ U.heap = h0) (fun _ _ _ _ _ => True) (fun _ U o U' => ∃ v L, o = .returned v ∧ Q_uv Z a h0 n0 v U'.heap L ∧ FrameEnd U o U' L ({ frames := 3, cells := 1, slots := 8, locals := 38 } : Room).cells ({ frames := 3, cells := 1, slots := 8, locals := 38 } : Room).slots) := by
  refine MetFree.of_bodySF (plainFor_of_name pn_com_example_intercept_rows_interceptrows_engine_UserVariables) hisR ?_
  intro p e s m args below meth c s₁ Bd hml0 hP hK
  obtain ⟨rfl, hZ, hh⟩ := hP
  have hx := Bd.exec
  have hby := Bd.bytes
  have hml : c.maxLocals = 1 := hml0
  have hown : s.vm.findClass "com/example/intercept_rows/interceptrows/engine/UserVariables" = some m.cls := findClass_of_methodNamed Bd.named
  have hnm := (name_of_methodNamed Bd.named Bd.method).1
  have X0 : Stand p l e ({ frames := 3, cells := 1, slots := 8, locals := 38 } : Room) s m #[(.ref a)] below meth c s₁ [] 0 0 := Stand.of_body Bd
  have e0 : s₁.heap = h0 := by rw [← hh, Bd.state]; rfl
  have N0 := Fr.nil n0
  have hlk := Bd.notSynchronized
  have hret := Bd.returns
  show OGo p e below (OEnd s (Q_uv Z a h0 n0) ({ frames := 3, cells := 1, slots := 8, locals := 38 } : Room).cells ({ frames := 3, cells := 1, slots := 8, locals := 38 } : Room).slots) (s₁.setTop (entryFrame m #[(.ref a)] 1))
  rw [ef_uv]
  show OGo p e below _ (s₁.setTop (mkF m 0 #[.val (.ref a)] []))
  refine OGo.by_ (fun t k => XS.aloadN X0.here hx rfl (hb hby d_uv_0) rfl rfl k) ?_
  show OGo p e below _ (s₁.setTop (mkF m 1 #[.val (.ref a)] [(.ref a)]))
  obtain ⟨T1, X1, e1, st1⟩ := initO X0 hx hZ hown (hw _ (List.mem_of_getElem? (i := 104) rfl)) (hw _ (List.mem_of_getElem? (i := 15) rfl)) (hw _ (List.mem_of_getElem? (i := 16) rfl)) e0 (g := (mkF m 1 #[.val (.ref a)] [(.ref a)])) rfl (by rw [hml]; rfl) rfl (hb hby d_uv_1) (by decide) (W := 0) (by show 2 * 0 + _ ≤ _; exact Nat.le_of_eq rfl) (by decide)
  refine OGo.by_ st1 ?_
  show OGo p e below _ (T1.setTop (mkF m 4 #[.val (.ref a)] []))
  refine OGo.by_ (fun t k => XS.aloadN X1.here hx rfl (hb hby d_uv_4) rfl rfl k) ?_
  show OGo p e below _ (T1.setTop (mkF m 5 #[.val (.ref a)] [(.ref a)]))
  obtain ⟨T2, h2, X2, e2, E2, A2, Dv2, -, st2⟩ := newO X1 hx hZ hown (hw _ (List.mem_of_getElem? (i := 105) rfl)) (hw _ (List.mem_of_getElem? (i := 18) rfl)) (hw _ (List.mem_of_getElem? (i := 19) rfl)) e1 (g := (mkF m 5 #[.val (.ref a)] [(.ref a)])) rfl (hb hby d_uv_5) (by decide) (by decide)
  obtain ⟨b, g_b⟩ : ∃ z, z = h0.size := ⟨_, rfl⟩
  rw [← g_b] at A2 Dv2 st2
  have A_b := A2
  have lt_b := own_lt A2.lt
  have F_loadFactor_b : Fld Z h2 b "java/util/HashMap" "loadFactor" "F" (.float (0 : UInt32)) := Dv2 (Or.inr (hw _ (List.mem_of_getElem? (i := 32) rfl))) (ty := .float) (by decide)
  refine OGo.by_ st2 ?_
  show OGo p e below _ (T2.setTop (mkF m 8 #[.val (.ref a)] [(.ref b), (.ref a)]))
  refine OGo.by_ (fun t k => XS.dup X2.here hx rfl (hb hby d_uv_8) rfl rfl k) ?_
  show OGo p e below _ (T2.setTop (mkF m 9 #[.val (.ref a)] [(.ref b), (.ref b), (.ref a)]))
  have a_lt : h0.size > a := E0.lt
  have hab : a ≠ b := own_ne (by omega)
  have Z1 : n0 ≤ h2.size := Nat.le_trans Z0 E2.1
  obtain ⟨_, _, ⟨T3, L3, k3, n3⟩, -, X3, ⟨Lc3, hQ3, l3, y3, z3⟩, st3⟩ := X2.specialBack hx (y := (⟨"java/util/HashMap", "<init>", "()V"⟩ : MethodName)) rfl hown (mvT hZ (hw _ (List.mem_of_getElem? (i := 106) rfl))) (mvT hZ (hw _ (List.mem_of_getElem? (i := 21) rfl))) (mvT hZ (hw _ (List.mem_of_getElem? (i := 22) rfl))) (by decide) (backOf (W := 2) (rm_hm l Z a0 hw [] b h2 n0 Z1 A_b F_loadFactor_b (by omega)) hZ (hw _ (List.mem_of_getElem? (i := 22) rfl)) (hw _ (List.mem_of_getElem? (i := 19) rfl)) (by decide) (by decide)) (g := (mkF m 9 #[.val (.ref a)] [(.ref b), (.ref b), (.ref a)])) rfl (by rw [hml]; rfl) (Steps.refl _) (a := b) (argsL := []) (rest := [(.ref b), (.ref a)]) (lenOf pd_ocV rfl) rfl (by show 2 * 0 + _ ≤ _; exact Nat.le_of_eq rfl) (hb hby d_uv_9) (fun _ _ => ⟨rfl, e2, (by decide : 1 + 0 ≤ _), (by decide : 8 + 0 ≤ _)⟩)
  dsimp only [Pt.U, Pt.locs, Pt.cells, Pt.slots] at X3 l3 y3 z3 st3 hQ3
  subst l3 y3 z3
  obtain ⟨rfl, Nq3, K3⟩ := hQ3
  have N3 := Fr.app N0 Nq3
  refine OGo.by_ (fun t k => st3.trans k) ?_
  show OGo p e below _ (T3.setTop (mkF m 12 #[.val (.ref a)] [(.ref b), (.ref a)]))
  obtain ⟨T4, h4, X4, e4, W4, st4⟩ := putF X3 hx hZ hown (host := "") (Or.inl (hw _ (List.mem_of_getElem? (i := 107) rfl))) Via.refl rfl ((F0.ext E2).keep K3 (own_nin1 hab)) ((E0.ext E2).keep K3) (Or.inr ⟨(hw _ (List.mem_of_getElem? (i := 108) rfl)), rfl, hnm⟩) (hw _ (List.mem_of_getElem? (i := 99) rfl)) (ty := (.object "java/util/Map")) (by decide) rfl rfl (g := (mkF m 12 #[.val (.ref a)] [(.ref b), (.ref a)])) rfl rfl (hb hby d_uv_12)
  refine OGo.by_ st4 ?_
  show OGo p e below _ (T4.setTop (mkF m 15 #[.val (.ref a)] []))
  have N4 := Fr.snoc X4 N3 ga
  have KK : Keep h0 h4 [a] := (Keep.trans ((Keep.refl h0 [a]).ext E2) K3 (allS (Or.inr (by omega)) all0)).wr W4 (Or.inl (List.mem_singleton.mpr rfl))
  exact own_ret X4 hx hlk hret (hb hby d_uv_15) (by decide) (by decide) (by rw [e4]; exact ⟨rfl, N4, KK⟩)
theorem d_rnn_0 : decode jdk_31_method_11_code 0 = .ok (.aload_n 0, 1) := by decide +kernel
theorem d_rnn_1 : decode jdk_31_method_11_code 1 = .ok (.ifnonnull 12, 3) := by decide +kernel
theorem d_rnn_13 : decode jdk_31_method_11_code 13 = .ok (.aload_n 0, 1) := by decide +kernel
theorem d_rnn_14 : decode jdk_31_method_11_code 14 = .ok (.areturn, 1) := by decide +kernel
theorem pn_java_util_Objects : plainName "java/util/Objects" = true := by first | (simp [plainName, overriddenIn]; done) | decide +kernel
theorem ef_rnn (m : MethodId) (x0 : Addr) (x1 : Addr) : entryFrame m #[(.ref x0), (.ref x1)] 2 = mkF m 0 #[.val (.ref x0), .val (.ref x1)] [] := by first | (simp [entryFrame, mkF, argsToLocals, Value.category]; done) | rfl
def Q_rnn (Z : State) (a b : Addr) (h0 : Heap) (n0 : Nat) (v : Option Value) (h : Heap) (L : List Loc) : Prop := v = some (.ref a) ∧ Fr n0 L ∧ h = h0
set_option maxRecDepth 65536 in
set_option maxHeartbeats 40000000 in
theorem rm_rnn (l : Launch) (Z : State) (a0 : Array Value) (hw : ∀ d ∈ tables_1, d.before a0 Z = true) (ws : List Jvm.Cond) (a b : Addr) (h0 : Heap) (n0 : Nat) (Z0 : n0 ≤ h0.size)  :
    MetFree l (⟨"java/util/Objects", "requireNonNull", "(Ljava/lang/Object;Ljava/lang/String;)Ljava/lang/Object;"⟩ : MethodName) (head1 (Jvm.Cond.code (⟨"java/util/Objects", "requireNonNull", "(Ljava/lang/Object;Ljava/lang/String;)Ljava/lang/Object;"⟩ : MethodName) jdk_31_method_11_code 2 (some (.object "java/lang/Object")) :: ws) ({ frames := 0, cells := 0, slots := 0, locals := 0 } : Room)) (fun a_ U => a_ = #[(.ref a), (.ref b)] ∧ Z.Warmed39 U.vm ∧ U.heap = h0) (fun _ _ _ _ _ => True) (fun _ U o U' => ∃ v L, o = .returned v ∧ Q_rnn Z a b h0 n0 v U'.heap L ∧ FrameEnd U o U' L ({ frames := 0, cells := 0, slots := 0, locals := 0 } : Room).cells ({ frames := 0, cells := 0, slots := 0, locals := 0 } : Room).slots) := by
  refine MetFree.of_bodySF (plainFor_of_name pn_java_util_Objects) hisR ?_
  intro p e s m args below meth c s₁ Bd hml0 hP hK
  obtain ⟨rfl, hZ, hh⟩ := hP
  have hx := Bd.exec
  have hby := Bd.bytes
  have hml : c.maxLocals = 2 := hml0
  have hown : s.vm.findClass "java/util/Objects" = some m.cls := findClass_of_methodNamed Bd.named
  have hnm := (name_of_methodNamed Bd.named Bd.method).1
  have X0 : Stand p l e ({ frames := 0, cells := 0, slots := 0, locals := 0 } : Room) s m #[(.ref a), (.ref b)] below meth c s₁ [] 0 0 := Stand.of_body Bd
  have e0 : s₁.heap = h0 := by rw [← hh, Bd.state]; rfl
  have N0 := Fr.nil n0
  have hlk := Bd.notSynchronized
  have hret := Bd.returns
  show OGo p e below (OEnd s (Q_rnn Z a b h0 n0) ({ frames := 0, cells := 0, slots := 0, locals := 0 } : Room).cells ({ frames := 0, cells := 0, slots := 0, locals := 0 } : Room).slots) (s₁.setTop (entryFrame m #[(.ref a), (.ref b)] 2))
  rw [ef_rnn]
  show OGo p e below _ (s₁.setTop (mkF m 0 #[.val (.ref a), .val (.ref b)] []))
  refine OGo.by_ (fun t k => XS.aloadN X0.here hx rfl (hb hby d_rnn_0) rfl rfl k) ?_
  show OGo p e below _ (s₁.setTop (mkF m 1 #[.val (.ref a), .val (.ref b)] [(.ref a)]))
  refine OGo.by_ (fun t k => XS.ifnonnullYes X0.here hx rfl (pc0 := 1) (pc' := 13) rfl (hb hby d_rnn_1) rfl (by decide) (by decide) k) ?_
  show OGo p e below _ (s₁.setTop (mkF m 13 #[.val (.ref a), .val (.ref b)] []))
  refine OGo.by_ (fun t k => XS.aloadN X0.here hx rfl (hb hby d_rnn_13) rfl rfl k) ?_
  show OGo p e below _ (s₁.setTop (mkF m 14 #[.val (.ref a), .val (.ref b)] [(.ref a)]))
  exact own_retA X0 hx hlk hret rfl rfl (hb hby d_rnn_14) (by decide) (by decide) (⟨rfl, N0, e0⟩)
theorem d_ses_0 : decode prog_85_method_1_code 0 = .ok (.aload_n 0, 1) := by decide +kernel
theorem d_ses_1 : decode prog_85_method_1_code 1 = .ok (.invokespecial 1, 3) := by decide +kernel
theorem d_ses_4 : decode prog_85_method_1_code 4 = .ok (.aload_n 0, 1) := by decide +kernel
theorem d_ses_5 : decode prog_85_method_1_code 5 = .ok (.new 7, 3) := by decide +kernel
theorem d_ses_8 : decode prog_85_method_1_code 8 = .ok (.dup, 1) := by decide +kernel
theorem d_ses_9 : decode prog_85_method_1_code 9 = .ok (.invokespecial 9, 3) := by decide +kernel
theorem d_ses_12 : decode prog_85_method_1_code 12 = .ok (.putfield 10, 3) := by decide +kernel
theorem d_ses_15 : decode prog_85_method_1_code 15 = .ok (.aload_n 0, 1) := by decide +kernel
theorem d_ses_16 : decode prog_85_method_1_code 16 = .ok (.iconst 1, 1) := by decide +kernel
theorem d_ses_17 : decode prog_85_method_1_code 17 = .ok (.putfield 16, 3) := by decide +kernel
theorem d_ses_20 : decode prog_85_method_1_code 20 = .ok (.aload_n 0, 1) := by decide +kernel
theorem d_ses_21 : decode prog_85_method_1_code 21 = .ok (.aload_n 1, 1) := by decide +kernel
theorem d_ses_22 : decode prog_85_method_1_code 22 = .ok (.ldc 20, 2) := by decide +kernel
theorem d_ses_24 : decode prog_85_method_1_code 24 = .ok (.invokestatic 22, 3) := by decide +kernel
theorem pd_oLjava_lang_Object_Ljava_lang_String_cLjava_lang_Object_ : parseMethodDescriptor "(Ljava/lang/Object;Ljava/lang/String;)Ljava/lang/Object;" = some ⟨[(.object "java/lang/Object"), (.object "java/lang/String")], some (.object "java/lang/Object")⟩ := by decide +kernel
theorem d_ses_27 : decode prog_85_method_1_code 27 = .ok (.checkcast 28, 3) := by decide +kernel
theorem d_ses_30 : decode prog_85_method_1_code 30 = .ok (.putfield 30, 3) := by decide +kernel
theorem d_ses_33 : decode prog_85_method_1_code 33 = .ok (.return_, 1) := by decide +kernel
theorem pn_com_example_intercept_rows_interceptrows_engine_Session : plainName "com/example/intercept_rows/interceptrows/engine/Session" = true := by first | (simp [plainName, overriddenIn]; done) | decide +kernel
theorem ef_ses (m : MethodId) (x0 : Addr) (x1 : Addr) : entryFrame m #[(.ref x0), (.ref x1)] 2 = mkF m 0 #[.val (.ref x0), .val (.ref x1)] [] := by first | (simp [entryFrame, mkF, argsToLocals, Value.category]; done) | rfl
def Q_ses (Z : State) (a dd : Addr) (h0 : Heap) (n0 : Nat) (v : Option Value) (h : Heap) (L : List Loc) : Prop := v = none ∧ Fr n0 L ∧ Keep h0 h [a] ∧ Exa Z h a "com/example/intercept_rows/interceptrows/engine/Session" ∧ Fld Z h a "com/example/intercept_rows/interceptrows/engine/Session" "autoCommit" "Z" (.int (1 : Int32)) ∧ Fld Z h a "com/example/intercept_rows/interceptrows/engine/Session" "begun" "Z" (.int (0 : Int32)) ∧ Fld Z h a "com/example/intercept_rows/interceptrows/engine/Session" "spoiled" "Z" (.int (0 : Int32))
set_option maxRecDepth 65536 in
set_option maxHeartbeats 40000000 in
theorem rm_ses (l : Launch) (Z : State) (a0 : Array Value) (hw : ∀ d ∈ tables_1, d.before a0 Z = true) (ws : List Jvm.Cond) (a dd : Addr) (h0 : Heap) (n0 : Nat) (Z0 : n0 ≤ h0.size) (E0 : Exa Z h0 a "com/example/intercept_rows/interceptrows/engine/Session") (ga : n0 ≤ a) (F0 : Fld Z h0 a "com/example/intercept_rows/interceptrows/engine/Session" "variables" "Lcom/example/intercept_rows/interceptrows/engine/UserVariables;" .null) (F1 : Fld Z h0 a "com/example/intercept_rows/interceptrows/engine/Session" "autoCommit" "Z" (.int (0 : Int32))) (F2 : Fld Z h0 a "com/example/intercept_rows/interceptrows/engine/Session" "begun" "Z" (.int (0 : Int32))) (F3 : Fld Z h0 a "com/example/intercept_rows/interceptrows/engine/Session" "spoiled" "Z" (.int (0 : Int32))) (F4 : Fld Z h0 a "com/example/intercept_rows/interceptrows/engine/Session" "database" "Lcom/example/intercept_rows/interceptrows/engine/Database;" .null) (Ed : Exa Z h0 dd "com/example/intercept_rows/interceptrows/engine/Database") :
    MetFree l (⟨"com/example/intercept_rows/interceptrows/engine/Session", "<init>", "(Lcom/example/intercept_rows/interceptrows/engine/Database;)V"⟩ : MethodName) (head1 (Jvm.Cond.code (⟨"com/example/intercept_rows/interceptrows/engine/Session", "<init>", "(Lcom/example/intercept_rows/interceptrows/engine/Database;)V"⟩ : MethodName) prog_85_method_1_code 2 none :: ws) ({ frames := 4, cells := 4, slots := 45, locals := 52 } : Room)) (fun a_ U => a_ = #[(.ref a), (.ref dd)] ∧ Z.Warmed39 U.vm ∧ U.heap = h0) (fun _ _ _ _ _ => True) (fun _ U o U' => ∃ v L, o = .returned v ∧ Q_ses Z a dd h0 n0 v U'.heap L ∧ ReturnedEndW U o U' L ({ frames := 4, cells := 4, slots := 45, locals := 52 } : Room).cells ({ frames := 4, cells := 4, slots := 45, locals := 52 } : Room).slots) := by
  refine MetFree.of_bodySF (plainFor_of_name pn_com_example_intercept_rows_interceptrows_engine_Session) hisR ?_
  intro p e s m args below meth c s₁ Bd hml0 hP hK
  obtain ⟨rfl, hZ, hh⟩ := hP
  have hx := Bd.exec
  have hby := Bd.bytes
  have hml : c.maxLocals = 2 := hml0
  have hown : s.vm.findClass "com/example/intercept_rows/interceptrows/engine/Session" = some m.cls := findClass_of_methodNamed Bd.named
  have hnm := (name_of_methodNamed Bd.named Bd.method).1
  have X0 : Stand p l e ({ frames := 4, cells := 4, slots := 45, locals := 52 } : Room) s m #[(.ref a), (.ref dd)] below meth c s₁ [] 0 0 := Stand.of_body Bd
  have e0 : s₁.heap = h0 := by rw [← hh, Bd.state]; rfl
  have N0 := Fr.nil n0
  have hlk := Bd.notSynchronized
  have hret := Bd.returns
  show OGo p e below (OEndW s (Q_ses Z a dd h0 n0) ({ frames := 4, cells := 4, slots := 45, locals := 52 } : Room).cells ({ frames := 4, cells := 4, slots := 45, locals := 52 } : Room).slots) (s₁.setTop (entryFrame m #[(.ref a), (.ref dd)] 2))
  rw [ef_ses]
  show OGo p e below _ (s₁.setTop (mkF m 0 #[.val (.ref a), .val (.ref dd)] []))
  have X0 : Stand p l e ({ frames := 4, cells := 4, slots := 45, locals := 52 } : Room) (s.setVm s.vm) m #[(.ref a), (.ref dd)] below meth c s₁ [] 0 0 := X0
  have hZ : Z.Warmed39 (s.setVm s.vm).vm := hZ
  have hown : (s.setVm s.vm).vm.findClass "com/example/intercept_rows/interceptrows/engine/Session" = some m.cls := hown
  have hS : s.Since s.vm s.heap.size := (State.WarmedH.refl s).since _
  have hk : s.heap.size ≤ h0.size := by rw [hh]; exact Nat.le_refl _
  have a_lt : h0.size > a := E0.lt
  refine OGo.by_ (fun t k => XS.aloadN X0.here hx rfl (hb hby d_ses_0) rfl rfl k) ?_
  show OGo p e below _ (s₁.setTop (mkF m 1 #[.val (.ref a), .val (.ref dd)] [(.ref a)]))
  obtain ⟨T1, X1, e1, st1⟩ := initO X0 hx hZ hown (hw _ (List.mem_of_getElem? (i := 97) rfl)) (hw _ (List.mem_of_getElem? (i := 15) rfl)) (hw _ (List.mem_of_getElem? (i := 16) rfl)) e0 (g := (mkF m 1 #[.val (.ref a), .val (.ref dd)] [(.ref a)])) rfl (by rw [hml]; rfl) rfl (hb hby d_ses_1) (by decide) (W := 0) (by show 2 * 0 + _ ≤ _; exact Nat.le_of_eq rfl) (by decide)
  refine OGo.by_ st1 ?_
  show OGo p e below _ (T1.setTop (mkF m 4 #[.val (.ref a), .val (.ref dd)] []))
  refine OGo.by_ (fun t k => XS.aloadN X1.here hx rfl (hb hby d_ses_4) rfl rfl k) ?_
  show OGo p e below _ (T1.setTop (mkF m 5 #[.val (.ref a), .val (.ref dd)] [(.ref a)]))
  obtain ⟨T2, h2, X2, e2, E2, A2, Dv2, -, st2⟩ := newO X1 hx hZ hown (hw _ (List.mem_of_getElem? (i := 98) rfl)) (hw _ (List.mem_of_getElem? (i := 99) rfl)) (hw _ (List.mem_of_getElem? (i := 100) rfl)) e1 (g := (mkF m 5 #[.val (.ref a), .val (.ref dd)] [(.ref a)])) rfl (hb hby d_ses_5) (by decide) (by decide)
  obtain ⟨b, g_b⟩ : ∃ z, z = h0.size := ⟨_, rfl⟩
  rw [← g_b] at A2 Dv2 st2
  have A_b := A2
  have lt_b := own_lt A2.lt
  have F_byName_b : Fld Z h2 b "com/example/intercept_rows/interceptrows/engine/UserVariables" "byName" "Ljava/util/Map;" .null := Dv2 (Or.inr (hw _ (List.mem_of_getElem? (i := 108) rfl))) (ty := (.object "java/util/Map")) (by decide)
  have hk := Nat.le_trans hk E2.1
  refine OGo.by_ st2 ?_
  show OGo p e below _ (T2.setTop (mkF m 8 #[.val (.ref a), .val (.ref dd)] [(.ref b), (.ref a)]))
  have Z_1 := Nat.le_trans Z0 E2.1
  have E_1 := E0.ext E2
  have K_1 := Keep.ext (Keep.refl h0 [a]) E2
  have Ed_1 := Ed.ext E2
  have Fvariables_1 := F0.ext E2
  have FautoCommit_1 := F1.ext E2
  have Fbegun_1 := F2.ext E2
  have Fspoiled_1 := F3.ext E2
  have Fdatabase_1 := F4.ext E2
  have hn : a ≠ b := own_ne (by omega)
  have gb : n0 ≤ b := by omega
  refine OGo.by_ (fun t k => XS.dup X2.here hx rfl (hb hby d_ses_8) rfl rfl k) ?_
  show OGo p e below _ (T2.setTop (mkF m 9 #[.val (.ref a), .val (.ref dd)] [(.ref b), (.ref b), (.ref a)]))
  obtain ⟨_, _, ⟨T3, L3, k3, n3⟩, -, X3, ⟨Lc3, hQ3, l3, y3, z3⟩, st3⟩ := X2.specialBack hx (y := (⟨"com/example/intercept_rows/interceptrows/engine/UserVariables", "<init>", "()V"⟩ : MethodName)) rfl hown (mvT hZ (hw _ (List.mem_of_getElem? (i := 101) rfl))) (mvT hZ (hw _ (List.mem_of_getElem? (i := 102) rfl))) (mvT hZ (hw _ (List.mem_of_getElem? (i := 103) rfl))) (by decide) (backOf (W := 2) (rm_uv l Z a0 hw [] b h2 n0 Z_1 A_b F_byName_b gb) hZ (hw _ (List.mem_of_getElem? (i := 103) rfl)) (hw _ (List.mem_of_getElem? (i := 100) rfl)) (by decide) (by decide)) (g := (mkF m 9 #[.val (.ref a), .val (.ref dd)] [(.ref b), (.ref b), (.ref a)])) rfl (by rw [hml]; rfl) (Steps.refl _) (a := b) (argsL := []) (rest := [(.ref b), (.ref a)]) (lenOf pd_ocV rfl) rfl (by show 2 * 0 + _ ≤ _; exact Nat.le_of_eq rfl) (hb hby d_ses_9) (fun _ _ => ⟨rfl, e2, (by decide : 1 + 1 ≤ _), (by decide : 1 + 8 ≤ _)⟩)
  dsimp only [Pt.U, Pt.locs, Pt.cells, Pt.slots] at X3 l3 y3 z3 st3 hQ3
  subst l3 y3 z3
  obtain ⟨rfl, Nq3, K3⟩ := hQ3
  have N3 := Fr.app N0 Nq3
  refine OGo.by_ (fun t k => st3.trans k) ?_
  show OGo p e below _ (T3.setTop (mkF m 12 #[.val (.ref a), .val (.ref dd)] [(.ref b), (.ref a)]))
  have hk := Nat.le_trans hk K3.1
  have Z_2 := Nat.le_trans Z_1 K3.1
  have E_2 := E_1.keep K3
  have K_2 := Keep.trans K_1 K3 (allS ((Or.inr (by omega))) all0)
  have Ed_2 := Ed_1.keep K3
  have Fvariables_2 := Fvariables_1.keep K3 (own_nin1 hn)
  have FautoCommit_2 := FautoCommit_1.keep K3 (own_nin1 hn)
  have Fbegun_2 := Fbegun_1.keep K3 (own_nin1 hn)
  have Fspoiled_2 := Fspoiled_1.keep K3 (own_nin1 hn)
  have Fdatabase_2 := Fdatabase_1.keep K3 (own_nin1 hn)
  obtain ⟨T4, h4, X4, e4, W4, st4⟩ := putF X3 hx hZ hown (host := "") (Or.inl (hw _ (List.mem_of_getElem? (i := 109) rfl))) Via.refl rfl Fvariables_2 E_2 (Or.inr ⟨(hw _ (List.mem_of_getElem? (i := 110) rfl)), rfl, hnm⟩) (hw _ (List.mem_of_getElem? (i := 1) rfl)) (ty := (.object "com/example/intercept_rows/interceptrows/engine/UserVariables")) (by decide) rfl rfl (g := (mkF m 12 #[.val (.ref a), .val (.ref dd)] [(.ref b), (.ref a)])) rfl rfl (hb hby d_ses_12)
  refine OGo.by_ st4 ?_
  show OGo p e below _ (T4.setTop (mkF m 15 #[.val (.ref a), .val (.ref dd)] []))
  have N4 := Fr.snoc X4 N3 ga
  have hk := Nat.le_trans hk (Nat.le_of_eq W4.size.symm)
  have Z_3 := (show _ ≤ h4.size by rw [W4.size]; exact Z_2)
  have E_3 := E_2.wr W4
  have K_3 := Keep.wr K_2 W4 (Or.inl (List.mem_singleton.mpr rfl))
  have Ed_3 := Ed_2.wr W4
  have Fvariables_3 := Fvariables_2.same W4
  have FautoCommit_3 := FautoCommit_2.other W4 (Or.inr (slot_ne (C := "com/example/intercept_rows/interceptrows/engine/Session") (Or.inl (hw _ (List.mem_of_getElem? (i := 112) rfl))) (Or.inr (hw _ (List.mem_of_getElem? (i := 110) rfl))) (by decide) (t := .boolean) (t' := (.object "com/example/intercept_rows/interceptrows/engine/UserVariables")) (by decide) (by decide)))
  have Fbegun_3 := Fbegun_2.other W4 (Or.inr (slot_ne (C := "com/example/intercept_rows/interceptrows/engine/Session") (Or.inl (hw _ (List.mem_of_getElem? (i := 136) rfl))) (Or.inr (hw _ (List.mem_of_getElem? (i := 110) rfl))) (by decide) (t := .boolean) (t' := (.object "com/example/intercept_rows/interceptrows/engine/UserVariables")) (by decide) (by decide)))
  have Fspoiled_3 := Fspoiled_2.other W4 (Or.inr (slot_ne (C := "com/example/intercept_rows/interceptrows/engine/Session") (Or.inl (hw _ (List.mem_of_getElem? (i := 152) rfl))) (Or.inr (hw _ (List.mem_of_getElem? (i := 110) rfl))) (by decide) (t := .boolean) (t' := (.object "com/example/intercept_rows/interceptrows/engine/UserVariables")) (by decide) (by decide)))
  have Fdatabase_3 := Fdatabase_2.other W4 (Or.inr (slot_ne (C := "com/example/intercept_rows/interceptrows/engine/Session") (Or.inr (hw _ (List.mem_of_getElem? (i := 128) rfl))) (Or.inr (hw _ (List.mem_of_getElem? (i := 110) rfl))) (by decide) (t := (.object "com/example/intercept_rows/interceptrows/engine/Database")) (t' := (.object "com/example/intercept_rows/interceptrows/engine/UserVariables")) (by decide) (by decide)))
  refine OGo.by_ (fun t k => XS.aloadN X4.here hx rfl (hb hby d_ses_15) rfl rfl k) ?_
  show OGo p e below _ (T4.setTop (mkF m 16 #[.val (.ref a), .val (.ref dd)] [(.ref a)]))
  refine OGo.by_ (fun t k => XS.iconst X4.here hx rfl (hb hby d_ses_16) k) ?_
  show OGo p e below _ (T4.setTop (mkF m 17 #[.val (.ref a), .val (.ref dd)] [(.int (1 : Int32)), (.ref a)]))
  obtain ⟨T5, h5, X5, e5, W5, st5⟩ := putFN X4 hx hZ hown (hw _ (List.mem_of_getElem? (i := 111) rfl)) Via.refl e4 FautoCommit_3 E_3 (Or.inl (hw _ (List.mem_of_getElem? (i := 112) rfl))) (hw _ (List.mem_of_getElem? (i := 1) rfl)) (ty := .boolean) (v' := (.int (1 : Int32))) (by decide) rfl (by decide) (g := (mkF m 17 #[.val (.ref a), .val (.ref dd)] [(.int (1 : Int32)), (.ref a)])) rfl rfl (hb hby d_ses_17)
  refine OGo.by_ st5 ?_
  show OGo p e below _ (T5.setTop (mkF m 20 #[.val (.ref a), .val (.ref dd)] []))
  have N5 := Fr.snoc X5 N4 ga
  have hk := Nat.le_trans hk (Nat.le_of_eq W5.size.symm)
  have Z_4 := (show _ ≤ h5.size by rw [W5.size]; exact Z_3)
  have E_4 := E_3.wr W5
  have K_4 := Keep.wr K_3 W5 (Or.inl (List.mem_singleton.mpr rfl))
  have Ed_4 := Ed_3.wr W5
  have Fvariables_4 := Fvariables_3.other W5 (Or.inr (slot_ne (C := "com/example/intercept_rows/interceptrows/engine/Session") (Or.inr (hw _ (List.mem_of_getElem? (i := 110) rfl))) (Or.inl (hw _ (List.mem_of_getElem? (i := 112) rfl))) (by decide) (t := (.object "com/example/intercept_rows/interceptrows/engine/UserVariables")) (t' := .boolean) (by decide) (by decide)))
  have FautoCommit_4 := FautoCommit_3.same W5
  have Fbegun_4 := Fbegun_3.other W5 (Or.inr (slot_ne (C := "com/example/intercept_rows/interceptrows/engine/Session") (Or.inl (hw _ (List.mem_of_getElem? (i := 136) rfl))) (Or.inl (hw _ (List.mem_of_getElem? (i := 112) rfl))) (by decide) (t := .boolean) (t' := .boolean) (by decide) (by decide)))
  have Fspoiled_4 := Fspoiled_3.other W5 (Or.inr (slot_ne (C := "com/example/intercept_rows/interceptrows/engine/Session") (Or.inl (hw _ (List.mem_of_getElem? (i := 152) rfl))) (Or.inl (hw _ (List.mem_of_getElem? (i := 112) rfl))) (by decide) (t := .boolean) (t' := .boolean) (by decide) (by decide)))
  have Fdatabase_4 := Fdatabase_3.other W5 (Or.inr (slot_ne (C := "com/example/intercept_rows/interceptrows/engine/Session") (Or.inr (hw _ (List.mem_of_getElem? (i := 128) rfl))) (Or.inl (hw _ (List.mem_of_getElem? (i := 112) rfl))) (by decide) (t := (.object "com/example/intercept_rows/interceptrows/engine/Database")) (t' := .boolean) (by decide) (by decide)))
  refine OGo.by_ (fun t k => XS.aloadN X5.here hx rfl (hb hby d_ses_20) rfl rfl k) ?_
  show OGo p e below _ (T5.setTop (mkF m 21 #[.val (.ref a), .val (.ref dd)] [(.ref a)]))
  refine OGo.by_ (fun t k => XS.aloadN X5.here hx rfl (hb hby d_ses_21) rfl rfl k) ?_
  show OGo p e below _ (T5.setTop (mkF m 22 #[.val (.ref a), .val (.ref dd)] [(.ref dd), (.ref a)]))
  obtain ⟨st, T6, h6, kk6, X6, e6, E6, hS, hk, hZ, hown, st6⟩ := ldcS X5 hx hZ hown (hw _ (List.mem_of_getElem? (i := 113) rfl)) (own_strA hw) e5 hS hk (g := (mkF m 22 #[.val (.ref a), .val (.ref dd)] [(.ref dd), (.ref a)])) rfl (hb hby d_ses_22) (n := 32) (by decide) (by decide) (by decide) (by decide)
  refine OGo.by_ st6 ?_
  show OGo p e below _ (T6.setTop (mkF m 24 #[.val (.ref a), .val (.ref dd)] [(.ref st), (.ref dd), (.ref a)]))
  have Z_5 := Nat.le_trans Z_4 E6.1
  have E_5 := E_4.ext E6
  have K_5 := Keep.ext K_4 E6
  have Ed_5 := Ed_4.ext E6
  have Fvariables_5 := Fvariables_4.ext E6
  have FautoCommit_5 := FautoCommit_4.ext E6
  have Fbegun_5 := Fbegun_4.ext E6
  have Fspoiled_5 := Fspoiled_4.ext E6
  have Fdatabase_5 := Fdatabase_4.ext E6
  obtain ⟨_, _, ⟨T7, L7, k7, n7⟩, -, X7, ⟨Lc7, hQ7, l7, y7, z7⟩, st7⟩ := Jvm.LawKit.callS X6 hx (y := (⟨"java/util/Objects", "requireNonNull", "(Ljava/lang/Object;Ljava/lang/String;)Ljava/lang/Object;"⟩ : MethodName)) hown (mvT hZ (hw _ (List.mem_of_getElem? (i := 121) rfl))) (mvT hZ (hw _ (List.mem_of_getElem? (i := 122) rfl))) (mvT hZ (hw _ (List.mem_of_getElem? (i := 123) rfl))) (mvT hZ (hw _ (List.mem_of_getElem? (i := 124) rfl))) (by decide) (backOf (W := 1) (rm_rnn l Z a0 hw [] dd st h6 n0 Z_5) hZ (hw _ (List.mem_of_getElem? (i := 124) rfl)) (hw _ (List.mem_of_getElem? (i := 123) rfl)) (by decide) (by decide)) (g := (mkF m 24 #[.val (.ref a), .val (.ref dd)] [(.ref st), (.ref dd), (.ref a)])) rfl (by rw [hml]; rfl) (argsL := [(.ref dd), (.ref st)]) (rest := [(.ref a)]) (lenOf pd_oLjava_lang_Object_Ljava_lang_String_cLjava_lang_Object_ rfl) rfl (by show 2 * 0 + _ ≤ _; exact Nat.le_of_eq rfl) (hb hby d_ses_24) (fun _ _ => ⟨rfl, e6, (by decide : 4 + 0 ≤ _), (by decide : 45 + 0 ≤ _)⟩)
  dsimp only [Pt.U, Pt.locs, Pt.cells, Pt.slots] at X7 l7 y7 z7 st7 hQ7
  subst l7 y7 z7
  obtain ⟨rfl, Nq7, eq7⟩ := hQ7
  have N7 := Fr.app N5 Nq7
  refine OGo.by_ st7 ?_
  show OGo p e below _ (T7.setTop (mkF m 27 #[.val (.ref a), .val (.ref dd)] [(.ref dd), (.ref a)]))
  obtain ⟨T8, X8, e8, st8⟩ := castY X7 hx hZ hown (hw _ (List.mem_of_getElem? (i := 125) rfl)) eq7 (Ins.self Ed_5) (g := (mkF m 27 #[.val (.ref a), .val (.ref dd)] [(.ref dd), (.ref a)])) rfl rfl (hb hby d_ses_27)
  refine OGo.by_ st8 ?_
  show OGo p e below _ (T8.setTop (mkF m 30 #[.val (.ref a), .val (.ref dd)] [(.ref dd), (.ref a)]))
  obtain ⟨T9, h9, X9, e9, W9, st9⟩ := putF X8 hx hZ hown (host := "") (Or.inl (hw _ (List.mem_of_getElem? (i := 127) rfl))) Via.refl e8 Fdatabase_5 E_5 (Or.inr ⟨(hw _ (List.mem_of_getElem? (i := 128) rfl)), rfl, hnm⟩) (hw _ (List.mem_of_getElem? (i := 1) rfl)) (ty := (.object "com/example/intercept_rows/interceptrows/engine/Database")) (by decide) rfl rfl (g := (mkF m 30 #[.val (.ref a), .val (.ref dd)] [(.ref dd), (.ref a)])) rfl rfl (hb hby d_ses_30)
  refine OGo.by_ st9 ?_
  show OGo p e below _ (T9.setTop (mkF m 33 #[.val (.ref a), .val (.ref dd)] []))
  have N9 := Fr.snoc X9 N7 ga
  have hk := Nat.le_trans hk (Nat.le_of_eq W9.size.symm)
  have Z_6 := (show _ ≤ h9.size by rw [W9.size]; exact Z_5)
  have E_6 := E_5.wr W9
  have K_6 := Keep.wr K_5 W9 (Or.inl (List.mem_singleton.mpr rfl))
  have Ed_6 := Ed_5.wr W9
  have Fvariables_6 := Fvariables_5.other W9 (Or.inr (slot_ne (C := "com/example/intercept_rows/interceptrows/engine/Session") (Or.inr (hw _ (List.mem_of_getElem? (i := 110) rfl))) (Or.inr (hw _ (List.mem_of_getElem? (i := 128) rfl))) (by decide) (t := (.object "com/example/intercept_rows/interceptrows/engine/UserVariables")) (t' := (.object "com/example/intercept_rows/interceptrows/engine/Database")) (by decide) (by decide)))
  have FautoCommit_6 := FautoCommit_5.other W9 (Or.inr (slot_ne (C := "com/example/intercept_rows/interceptrows/engine/Session") (Or.inl (hw _ (List.mem_of_getElem? (i := 112) rfl))) (Or.inr (hw _ (List.mem_of_getElem? (i := 128) rfl))) (by decide) (t := .boolean) (t' := (.object "com/example/intercept_rows/interceptrows/engine/Database")) (by decide) (by decide)))
  have Fbegun_6 := Fbegun_5.other W9 (Or.inr (slot_ne (C := "com/example/intercept_rows/interceptrows/engine/Session") (Or.inl (hw _ (List.mem_of_getElem? (i := 136) rfl))) (Or.inr (hw _ (List.mem_of_getElem? (i := 128) rfl))) (by decide) (t := .boolean) (t' := (.object "com/example/intercept_rows/interceptrows/engine/Database")) (by decide) (by decide)))
  have Fspoiled_6 := Fspoiled_5.other W9 (Or.inr (slot_ne (C := "com/example/intercept_rows/interceptrows/engine/Session") (Or.inl (hw _ (List.mem_of_getElem? (i := 152) rfl))) (Or.inr (hw _ (List.mem_of_getElem? (i := 128) rfl))) (by decide) (t := .boolean) (t' := (.object "com/example/intercept_rows/interceptrows/engine/Database")) (by decide) (by decide)))
  have Fdatabase_6 := Fdatabase_5.same W9
  exact own_wret X9 hS (show _ ≤ T9.heap.size by rw [e9]; exact hk) hx hlk hret (hb hby d_ses_33) (by decide) (by decide) (by rw [e9]; exact ⟨rfl, N9, K_6, E_6, FautoCommit_6, Fbegun_6, Fspoiled_6⟩)
def own_SS (Z : State) (h : Heap) (a mm : Addr) (q1 q2 : Int32) : Prop := Exa Z h a "com/example/intercept_rows/interceptrows/engine/Session" ∧ Fld Z h a "com/example/intercept_rows/interceptrows/engine/Session" "autoCommit" "Z" (.int q1) ∧ Fld Z h a "com/example/intercept_rows/interceptrows/engine/Session" "begun" "Z" (.int q2) ∧ (∃ sp, Fld Z h a "com/example/intercept_rows/interceptrows/engine/Session" "spoiled" "Z" (.int sp)) ∧ (∃ k, Arv Z h mm k .boolean (2 : Int32) [(.int q1), (.int q2)] (.int (0 : Int32))) ∧ (q1 = 0 ∨ q1 = 1) ∧ (q2 = 0 ∨ q2 = 1)
theorem own_eqS {q1 q2 : Int32} (h1 : q1 = 0 ∨ q1 = 1) (h2 : q2 = 0 ∨ q2 = 1) : nar .boolean (if q1 = (0 : Int32) then (1 : Int32) else if q2 = (0 : Int32) then (0 : Int32) else (1 : Int32)) = (if q1 = (0 : Int32) then (1 : Int32) else q2) := by
  rcases h1 with rfl | rfl <;> rcases h2 with rfl | rfl <;> rfl
theorem d_int_0 : decode prog_85_method_14_code 0 = .ok (.aload_n 0, 1) := by decide +kernel
theorem d_int_1 : decode prog_85_method_14_code 1 = .ok (.getfield 16, 3) := by decide +kernel
theorem d_int_4 : decode prog_85_method_14_code 4 = .ok (.ifCond .eq 10, 3) := by decide +kernel
theorem d_int_14 : decode prog_85_method_14_code 14 = .ok (.iconst 1, 1) := by decide +kernel
theorem d_int_15 : decode prog_85_method_14_code 15 = .ok (.goto 4, 3) := by decide +kernel
theorem d_int_19 : decode prog_85_method_14_code 19 = .ok (.ireturn, 1) := by decide +kernel
theorem d_int_7 : decode prog_85_method_14_code 7 = .ok (.aload_n 0, 1) := by decide +kernel
theorem d_int_8 : decode prog_85_method_14_code 8 = .ok (.getfield 123, 3) := by decide +kernel
theorem d_int_11 : decode prog_85_method_14_code 11 = .ok (.ifCond .eq 7, 3) := by decide +kernel
theorem d_int_18 : decode prog_85_method_14_code 18 = .ok (.iconst 0, 1) := by decide +kernel
theorem ef_int (m : MethodId) (x0 : Addr) : entryFrame m #[(.ref x0)] 1 = mkF m 0 #[.val (.ref x0)] [] := by first | (simp [entryFrame, mkF, argsToLocals, Value.category]; done) | rfl
def Q_int (Z : State) (a : Addr) (q1 q2 : Int32) (h0 : Heap) (n0 : Nat) (v : Option Value) (h : Heap) (L : List Loc) : Prop := v = some (.int (nar .boolean (if q1 = (0 : Int32) then (1 : Int32) else if q2 = (0 : Int32) then (0 : Int32) else (1 : Int32)))) ∧ Fr n0 L ∧ h = h0
set_option maxRecDepth 65536 in
set_option maxHeartbeats 40000000 in
theorem rm_int (l : Launch) (Z : State) (a0 : Array Value) (hw : ∀ d ∈ tables_1, d.before a0 Z = true) (ws : List Jvm.Cond) (a : Addr) (q1 q2 : Int32) (h0 : Heap) (n0 : Nat) (Z0 : n0 ≤ h0.size) (F1 : Fld Z h0 a "com/example/intercept_rows/interceptrows/engine/Session" "autoCommit" "Z" (.int q1)) (F2 : Fld Z h0 a "com/example/intercept_rows/interceptrows/engine/Session" "begun" "Z" (.int q2)) :
    MetFree l (⟨"com/example/intercept_rows/interceptrows/engine/Session", "inTransaction", "()Z"⟩ : MethodName) (head1 (Jvm.Cond.code (⟨"com/example/intercept_rows/interceptrows/engine/Session", "inTransaction", "()Z"⟩ : MethodName) prog_85_method_14_code 1 (some .boolean) :: ws) ({ frames := 0, cells := 0, slots := 0, locals := 0 } : Room)) (fun a_ U => a_ = #[(.ref a)] ∧ Z.Warmed39 U.vm ∧ U.heap = h0) (fun _ _ _ _ _ => True) (fun _ U o U' => ∃ v L, o = .returned v ∧ Q_int Z a q1 q2 h0 n0 v U'.heap L ∧ FrameEnd U o U' L ({ frames := 0, cells := 0, slots := 0, locals := 0 } : Room).cells ({ frames := 0, cells := 0, slots := 0, locals := 0 } : Room).slots) := by
  refine MetFree.of_bodySF (plainFor_of_name pn_com_example_intercept_rows_interceptrows_engine_Session) hisR ?_
  intro p e s m args below meth c s₁ Bd hml0 hP hK
  obtain ⟨rfl, hZ, hh⟩ := hP
  have hx := Bd.exec
  have hby := Bd.bytes
  have hml : c.maxLocals = 1 := hml0
  have hown : s.vm.findClass "com/example/intercept_rows/interceptrows/engine/Session" = some m.cls := findClass_of_methodNamed Bd.named
  have hnm := (name_of_methodNamed Bd.named Bd.method).1
  have X0 : Stand p l e ({ frames := 0, cells := 0, slots := 0, locals := 0 } : Room) s m #[(.ref a)] below meth c s₁ [] 0 0 := Stand.of_body Bd
  have e0 : s₁.heap = h0 := by rw [← hh, Bd.state]; rfl
  have N0 := Fr.nil n0
  have hlk := Bd.notSynchronized
  have hret := Bd.returns
  show OGo p e below (OEnd s (Q_int Z a q1 q2 h0 n0) ({ frames := 0, cells := 0, slots := 0, locals := 0 } : Room).cells ({ frames := 0, cells := 0, slots := 0, locals := 0 } : Room).slots) (s₁.setTop (entryFrame m #[(.ref a)] 1))
  rw [ef_int]
  show OGo p e below _ (s₁.setTop (mkF m 0 #[.val (.ref a)] []))
  refine OGo.by_ (fun t k => XS.aloadN X0.here hx rfl (hb hby d_int_0) rfl rfl k) ?_
  show OGo p e below _ (s₁.setTop (mkF m 1 #[.val (.ref a)] [(.ref a)]))
  obtain ⟨T1, X1, e1, st1⟩ := getF X0 hx hZ hown (host := "") (Or.inl (hw _ (List.mem_of_getElem? (i := 111) rfl))) Via.refl e0 F1 (g := (mkF m 1 #[.val (.ref a)] [(.ref a)])) rfl rfl (hb hby d_int_1)
  refine OGo.by_ st1 ?_
  show OGo p e below _ (T1.setTop (mkF m 4 #[.val (.ref a)] [(.int q1)]))
  by_cases hc4 : q1 = (0 : Int32)
  · refine OGo.by_ (fun t k => XS.ifYes X1.here hx rfl (pc0 := 4) (pc' := 14) rfl (hb hby d_int_4) rfl ((if0 _ _).trans (teq hc4).1) (by decide) (by decide) k) ?_
    show OGo p e below _ (T1.setTop (mkF m 14 #[.val (.ref a)] []))
    refine OGo.by_ (fun t k => XS.iconst X1.here hx rfl (hb hby d_int_14) k) ?_
    show OGo p e below _ (T1.setTop (mkF m 15 #[.val (.ref a)] [(.int (1 : Int32))]))
    refine OGo.by_ (fun t k => XS.goto X1.here hx rfl (pc0 := 15) (pc' := 19) rfl (hb hby d_int_15) (by decide) (by decide) k) ?_
    show OGo p e below _ (T1.setTop (mkF m 19 #[.val (.ref a)] [(.int (1 : Int32))]))
    exact own_retN X1 hx hlk (t := .boolean) hret (by simp) (hb hby d_int_19) (by decide) (by decide) (⟨by simp only [if_pos hc4], N0, e1⟩)
  · refine OGo.by_ (fun t k => XS.ifNo X1.here hx rfl (hb hby d_int_4) rfl ((if0 _ _).trans (feq hc4).1) k) ?_
    show OGo p e below _ (T1.setTop (mkF m 7 #[.val (.ref a)] []))
    refine OGo.by_ (fun t k => XS.aloadN X1.here hx rfl (hb hby d_int_7) rfl rfl k) ?_
    show OGo p e below _ (T1.setTop (mkF m 8 #[.val (.ref a)] [(.ref a)]))
    obtain ⟨T2, X2, e2, st2⟩ := getF X1 hx hZ hown (host := "") (Or.inl (hw _ (List.mem_of_getElem? (i := 135) rfl))) Via.refl e1 F2 (g := (mkF m 8 #[.val (.ref a)] [(.ref a)])) rfl rfl (hb hby d_int_8)
    refine OGo.by_ st2 ?_
    show OGo p e below _ (T2.setTop (mkF m 11 #[.val (.ref a)] [(.int q2)]))
    by_cases hc11 : q2 = (0 : Int32)
    · refine OGo.by_ (fun t k => XS.ifYes X2.here hx rfl (pc0 := 11) (pc' := 18) rfl (hb hby d_int_11) rfl ((if0 _ _).trans (teq hc11).1) (by decide) (by decide) k) ?_
      show OGo p e below _ (T2.setTop (mkF m 18 #[.val (.ref a)] []))
      refine OGo.by_ (fun t k => XS.iconst X2.here hx rfl (hb hby d_int_18) k) ?_
      show OGo p e below _ (T2.setTop (mkF m 19 #[.val (.ref a)] [(.int (0 : Int32))]))
      exact own_retN X2 hx hlk (t := .boolean) hret (by simp) (hb hby d_int_19) (by decide) (by decide) (⟨by simp only [if_neg hc4, if_pos hc11], N0, e2⟩)
    · refine OGo.by_ (fun t k => XS.ifNo X2.here hx rfl (hb hby d_int_11) rfl ((if0 _ _).trans (feq hc11).1) k) ?_
      show OGo p e below _ (T2.setTop (mkF m 14 #[.val (.ref a)] []))
      refine OGo.by_ (fun t k => XS.iconst X2.here hx rfl (hb hby d_int_14) k) ?_
      show OGo p e below _ (T2.setTop (mkF m 15 #[.val (.ref a)] [(.int (1 : Int32))]))
      refine OGo.by_ (fun t k => XS.goto X2.here hx rfl (pc0 := 15) (pc' := 19) rfl (hb hby d_int_15) (by decide) (by decide) k) ?_
      show OGo p e below _ (T2.setTop (mkF m 19 #[.val (.ref a)] [(.int (1 : Int32))]))
      exact own_retN X2 hx hlk (t := .boolean) hret (by simp) (hb hby d_int_19) (by decide) (by decide) (⟨by simp only [if_neg hc4, if_neg hc11], N0, e2⟩)
theorem d_note_0 : decode prog_85_method_16_code 0 = .ok (.aload_n 0, 1) := by decide +kernel
theorem d_note_1 : decode prog_85_method_16_code 1 = .ok (.iload_n 1, 1) := by decide +kernel
theorem d_note_2 : decode prog_85_method_16_code 2 = .ok (.putfield 16, 3) := by decide +kernel
theorem d_note_5 : decode prog_85_method_16_code 5 = .ok (.return_, 1) := by decide +kernel
theorem ef_note (m : MethodId) (x0 : Addr) (x1 : Int32) : entryFrame m #[(.ref x0), (.int x1)] 2 = mkF m 0 #[.val (.ref x0), .val (.int x1)] [] := by first | (simp [entryFrame, mkF, argsToLocals, Value.category]; done) | rfl
def Q_note (Z : State) (a : Addr) (q1 q2 q3 : Int32) (p1 : Int32) (h0 : Heap) (n0 : Nat) (v : Option Value) (h : Heap) (L : List Loc) : Prop := v = none ∧ Fr n0 L ∧ Keep h0 h [a] ∧ Exa Z h a "com/example/intercept_rows/interceptrows/engine/Session" ∧ Fld Z h a "com/example/intercept_rows/interceptrows/engine/Session" "autoCommit" "Z" (.int (nar .boolean p1)) ∧ Fld Z h a "com/example/intercept_rows/interceptrows/engine/Session" "begun" "Z" (.int q2) ∧ Fld Z h a "com/example/intercept_rows/interceptrows/engine/Session" "spoiled" "Z" (.int q3)
set_option maxRecDepth 65536 in
set_option maxHeartbeats 40000000 in
theorem rm_note (l : Launch) (Z : State) (a0 : Array Value) (hw : ∀ d ∈ tables_1, d.before a0 Z = true) (ws : List Jvm.Cond) (a : Addr) (q1 q2 q3 : Int32) (p1 : Int32) (h0 : Heap) (n0 : Nat) (Z0 : n0 ≤ h0.size) (E0 : Exa Z h0 a "com/example/intercept_rows/interceptrows/engine/Session") (ga : n0 ≤ a) (F0 : Fld Z h0 a "com/example/intercept_rows/interceptrows/engine/Session" "autoCommit" "Z" (.int q1)) (F1 : Fld Z h0 a "com/example/intercept_rows/interceptrows/engine/Session" "begun" "Z" (.int q2)) (F2 : Fld Z h0 a "com/example/intercept_rows/interceptrows/engine/Session" "spoiled" "Z" (.int q3)) :
    MetFree l (⟨"com/example/intercept_rows/interceptrows/engine/Session", "noteAutoCommit", "(Z)V"⟩ : MethodName) (head1 (Jvm.Cond.code (⟨"com/example/intercept_rows/interceptrows/engine/Session", "noteAutoCommit", "(Z)V"⟩ : MethodName) prog_85_method_16_code 2 none :: ws) ({ frames := 0, cells := 0, slots := 0, locals := 0 } : Room)) (fun a_ U => a_ = #[(.ref a), (.int p1)] ∧ Z.Warmed39 U.vm ∧ U.heap = h0) (fun _ _ _ _ _ => True) (fun _ U o U' => ∃ v L, o = .returned v ∧ Q_note Z a q1 q2 q3 p1 h0 n0 v U'.heap L ∧ FrameEnd U o U' L ({ frames := 0, cells := 0, slots := 0, locals := 0 } : Room).cells ({ frames := 0, cells := 0, slots := 0, locals := 0 } : Room).slots) := by
  refine MetFree.of_bodySF (plainFor_of_name pn_com_example_intercept_rows_interceptrows_engine_Session) hisR ?_
  intro p e s m args below meth c s₁ Bd hml0 hP hK
  obtain ⟨rfl, hZ, hh⟩ := hP
  have hx := Bd.exec
  have hby := Bd.bytes
  have hml : c.maxLocals = 2 := hml0
  have hown : s.vm.findClass "com/example/intercept_rows/interceptrows/engine/Session" = some m.cls := findClass_of_methodNamed Bd.named
  have hnm := (name_of_methodNamed Bd.named Bd.method).1
  have X0 : Stand p l e ({ frames := 0, cells := 0, slots := 0, locals := 0 } : Room) s m #[(.ref a), (.int p1)] below meth c s₁ [] 0 0 := Stand.of_body Bd
  have e0 : s₁.heap = h0 := by rw [← hh, Bd.state]; rfl
  have N0 := Fr.nil n0
  have hlk := Bd.notSynchronized
  have hret := Bd.returns
  show OGo p e below (OEnd s (Q_note Z a q1 q2 q3 p1 h0 n0) ({ frames := 0, cells := 0, slots := 0, locals := 0 } : Room).cells ({ frames := 0, cells := 0, slots := 0, locals := 0 } : Room).slots) (s₁.setTop (entryFrame m #[(.ref a), (.int p1)] 2))
  rw [ef_note]
  show OGo p e below _ (s₁.setTop (mkF m 0 #[.val (.ref a), .val (.int p1)] []))
  refine OGo.by_ (fun t k => XS.aloadN X0.here hx rfl (hb hby d_note_0) rfl rfl k) ?_
  show OGo p e below _ (s₁.setTop (mkF m 1 #[.val (.ref a), .val (.int p1)] [(.ref a)]))
  refine OGo.by_ (fun t k => XS.iloadN X0.here hx rfl (hb hby d_note_1) rfl k) ?_
  show OGo p e below _ (s₁.setTop (mkF m 2 #[.val (.ref a), .val (.int p1)] [(.int p1), (.ref a)]))
  obtain ⟨T1, h1, X1, e1, W1, st1⟩ := putFN X0 hx hZ hown (hw _ (List.mem_of_getElem? (i := 111) rfl)) Via.refl e0 F0 E0 (Or.inl (hw _ (List.mem_of_getElem? (i := 112) rfl))) (hw _ (List.mem_of_getElem? (i := 1) rfl)) (ty := .boolean) (v' := (.int (nar .boolean p1))) (by decide) rfl (fits_nar_bool _) (g := (mkF m 2 #[.val (.ref a), .val (.int p1)] [(.int p1), (.ref a)])) rfl rfl (hb hby d_note_2)
  refine OGo.by_ st1 ?_
  show OGo p e below _ (T1.setTop (mkF m 5 #[.val (.ref a), .val (.int p1)] []))
  have N1 := Fr.snoc X1 N0 ga
  have E_1 := E0.wr W1
  have K_1 := Keep.wr (Keep.refl h0 [a]) W1 (Or.inl (List.mem_singleton.mpr rfl))
  have FautoCommit_1 := F0.same W1
  have Fbegun_1 := F1.other W1 (Or.inr (slot_ne (C := "com/example/intercept_rows/interceptrows/engine/Session") (Or.inl (hw _ (List.mem_of_getElem? (i := 136) rfl))) (Or.inl (hw _ (List.mem_of_getElem? (i := 112) rfl))) (by decide) (t := .boolean) (t' := .boolean) (by decide) (by decide)))
  have Fspoiled_1 := F2.other W1 (Or.inr (slot_ne (C := "com/example/intercept_rows/interceptrows/engine/Session") (Or.inl (hw _ (List.mem_of_getElem? (i := 152) rfl))) (Or.inl (hw _ (List.mem_of_getElem? (i := 112) rfl))) (by decide) (t := .boolean) (t' := .boolean) (by decide) (by decide)))
  exact own_ret X1 hx hlk hret (hb hby d_note_5) (by decide) (by decide) (by rw [e1]; exact ⟨rfl, N1, K_1, E_1, FautoCommit_1, Fbegun_1, Fspoiled_1⟩)
theorem d_beg_0 : decode prog_85_method_17_code 0 = .ok (.aload_n 0, 1) := by decide +kernel
theorem d_beg_1 : decode prog_85_method_17_code 1 = .ok (.iconst 1, 1) := by decide +kernel
theorem d_beg_2 : decode prog_85_method_17_code 2 = .ok (.putfield 123, 3) := by decide +kernel
theorem d_beg_5 : decode prog_85_method_17_code 5 = .ok (.return_, 1) := by decide +kernel
theorem ef_beg (m : MethodId) (x0 : Addr) : entryFrame m #[(.ref x0)] 1 = mkF m 0 #[.val (.ref x0)] [] := by first | (simp [entryFrame, mkF, argsToLocals, Value.category]; done) | rfl
def Q_beg (Z : State) (a : Addr) (q1 q2 q3 : Int32) (h0 : Heap) (n0 : Nat) (v : Option Value) (h : Heap) (L : List Loc) : Prop := v = none ∧ Fr n0 L ∧ Keep h0 h [a] ∧ Exa Z h a "com/example/intercept_rows/interceptrows/engine/Session" ∧ Fld Z h a "com/example/intercept_rows/interceptrows/engine/Session" "autoCommit" "Z" (.int q1) ∧ Fld Z h a "com/example/intercept_rows/interceptrows/engine/Session" "begun" "Z" (.int (1 : Int32)) ∧ Fld Z h a "com/example/intercept_rows/interceptrows/engine/Session" "spoiled" "Z" (.int q3)
set_option maxRecDepth 65536 in
set_option maxHeartbeats 40000000 in
theorem rm_beg (l : Launch) (Z : State) (a0 : Array Value) (hw : ∀ d ∈ tables_1, d.before a0 Z = true) (ws : List Jvm.Cond) (a : Addr) (q1 q2 q3 : Int32) (h0 : Heap) (n0 : Nat) (Z0 : n0 ≤ h0.size) (E0 : Exa Z h0 a "com/example/intercept_rows/interceptrows/engine/Session") (ga : n0 ≤ a) (F0 : Fld Z h0 a "com/example/intercept_rows/interceptrows/engine/Session" "autoCommit" "Z" (.int q1)) (F1 : Fld Z h0 a "com/example/intercept_rows/interceptrows/engine/Session" "begun" "Z" (.int q2)) (F2 : Fld Z h0 a "com/example/intercept_rows/interceptrows/engine/Session" "spoiled" "Z" (.int q3)) :
    MetFree l (⟨"com/example/intercept_rows/interceptrows/engine/Session", "begin", "()V"⟩ : MethodName) (head1 (Jvm.Cond.code (⟨"com/example/intercept_rows/interceptrows/engine/Session", "begin", "()V"⟩ : MethodName) prog_85_method_17_code 1 none :: ws) ({ frames := 0, cells := 0, slots := 0, locals := 0 } : Room)) (fun a_ U => a_ = #[(.ref a)] ∧ Z.Warmed39 U.vm ∧ U.heap = h0) (fun _ _ _ _ _ => True) (fun _ U o U' => ∃ v L, o = .returned v ∧ Q_beg Z a q1 q2 q3 h0 n0 v U'.heap L ∧ FrameEnd U o U' L ({ frames := 0, cells := 0, slots := 0, locals := 0 } : Room).cells ({ frames := 0, cells := 0, slots := 0, locals := 0 } : Room).slots) := by
  refine MetFree.of_bodySF (plainFor_of_name pn_com_example_intercept_rows_interceptrows_engine_Session) hisR ?_
  intro p e s m args below meth c s₁ Bd hml0 hP hK
  obtain ⟨rfl, hZ, hh⟩ := hP
  have hx := Bd.exec
  have hby := Bd.bytes
  have hml : c.maxLocals = 1 := hml0
  have hown : s.vm.findClass "com/example/intercept_rows/interceptrows/engine/Session" = some m.cls := findClass_of_methodNamed Bd.named
  have hnm := (name_of_methodNamed Bd.named Bd.method).1
  have X0 : Stand p l e ({ frames := 0, cells := 0, slots := 0, locals := 0 } : Room) s m #[(.ref a)] below meth c s₁ [] 0 0 := Stand.of_body Bd
  have e0 : s₁.heap = h0 := by rw [← hh, Bd.state]; rfl
  have N0 := Fr.nil n0
  have hlk := Bd.notSynchronized
  have hret := Bd.returns
  show OGo p e below (OEnd s (Q_beg Z a q1 q2 q3 h0 n0) ({ frames := 0, cells := 0, slots := 0, locals := 0 } : Room).cells ({ frames := 0, cells := 0, slots := 0, locals := 0 } : Room).slots) (s₁.setTop (entryFrame m #[(.ref a)] 1))
  rw [ef_beg]
  show OGo p e below _ (s₁.setTop (mkF m 0 #[.val (.ref a)] []))
  refine OGo.by_ (fun t k => XS.aloadN X0.here hx rfl (hb hby d_beg_0) rfl rfl k) ?_
  show OGo p e below _ (s₁.setTop (mkF m 1 #[.val (.ref a)] [(.ref a)]))
  refine OGo.by_ (fun t k => XS.iconst X0.here hx rfl (hb hby d_beg_1) k) ?_
  show OGo p e below _ (s₁.setTop (mkF m 2 #[.val (.ref a)] [(.int (1 : Int32)), (.ref a)]))
  obtain ⟨T1, h1, X1, e1, W1, st1⟩ := putFN X0 hx hZ hown (hw _ (List.mem_of_getElem? (i := 135) rfl)) Via.refl e0 F1 E0 (Or.inl (hw _ (List.mem_of_getElem? (i := 136) rfl))) (hw _ (List.mem_of_getElem? (i := 1) rfl)) (ty := .boolean) (v' := (.int (1 : Int32))) (by decide) rfl (by decide) (g := (mkF m 2 #[.val (.ref a)] [(.int (1 : Int32)), (.ref a)])) rfl rfl (hb hby d_beg_2)
  refine OGo.by_ st1 ?_
  show OGo p e below _ (T1.setTop (mkF m 5 #[.val (.ref a)] []))
  have N1 := Fr.snoc X1 N0 ga
  have E_1 := E0.wr W1
  have K_1 := Keep.wr (Keep.refl h0 [a]) W1 (Or.inl (List.mem_singleton.mpr rfl))
  have FautoCommit_1 := F0.other W1 (Or.inr (slot_ne (C := "com/example/intercept_rows/interceptrows/engine/Session") (Or.inl (hw _ (List.mem_of_getElem? (i := 112) rfl))) (Or.inl (hw _ (List.mem_of_getElem? (i := 136) rfl))) (by decide) (t := .boolean) (t' := .boolean) (by decide) (by decide)))
  have Fbegun_1 := F1.same W1
  have Fspoiled_1 := F2.other W1 (Or.inr (slot_ne (C := "com/example/intercept_rows/interceptrows/engine/Session") (Or.inl (hw _ (List.mem_of_getElem? (i := 152) rfl))) (Or.inl (hw _ (List.mem_of_getElem? (i := 136) rfl))) (by decide) (t := .boolean) (t' := .boolean) (by decide) (by decide)))
  exact own_ret X1 hx hlk hret (hb hby d_beg_5) (by decide) (by decide) (by rw [e1]; exact ⟨rfl, N1, K_1, E_1, FautoCommit_1, Fbegun_1, Fspoiled_1⟩)
theorem d_endt_0 : decode prog_85_method_19_code 0 = .ok (.aload_n 0, 1) := by decide +kernel
theorem d_endt_1 : decode prog_85_method_19_code 1 = .ok (.iconst 0, 1) := by decide +kernel
theorem d_endt_2 : decode prog_85_method_19_code 2 = .ok (.putfield 123, 3) := by decide +kernel
theorem d_endt_5 : decode prog_85_method_19_code 5 = .ok (.aload_n 0, 1) := by decide +kernel
theorem d_endt_6 : decode prog_85_method_19_code 6 = .ok (.iconst 0, 1) := by decide +kernel
theorem d_endt_7 : decode prog_85_method_19_code 7 = .ok (.putfield 126, 3) := by decide +kernel
theorem d_endt_10 : decode prog_85_method_19_code 10 = .ok (.return_, 1) := by decide +kernel
theorem ef_endt (m : MethodId) (x0 : Addr) : entryFrame m #[(.ref x0)] 1 = mkF m 0 #[.val (.ref x0)] [] := by first | (simp [entryFrame, mkF, argsToLocals, Value.category]; done) | rfl
def Q_endt (Z : State) (a : Addr) (q1 q2 q3 : Int32) (h0 : Heap) (n0 : Nat) (v : Option Value) (h : Heap) (L : List Loc) : Prop := v = none ∧ Fr n0 L ∧ Keep h0 h [a] ∧ Exa Z h a "com/example/intercept_rows/interceptrows/engine/Session" ∧ Fld Z h a "com/example/intercept_rows/interceptrows/engine/Session" "autoCommit" "Z" (.int q1) ∧ Fld Z h a "com/example/intercept_rows/interceptrows/engine/Session" "begun" "Z" (.int (0 : Int32)) ∧ Fld Z h a "com/example/intercept_rows/interceptrows/engine/Session" "spoiled" "Z" (.int (0 : Int32))
set_option maxRecDepth 65536 in
set_option maxHeartbeats 40000000 in
theorem rm_endt (l : Launch) (Z : State) (a0 : Array Value) (hw : ∀ d ∈ tables_1, d.before a0 Z = true) (ws : List Jvm.Cond) (a : Addr) (q1 q2 q3 : Int32) (h0 : Heap) (n0 : Nat) (Z0 : n0 ≤ h0.size) (E0 : Exa Z h0 a "com/example/intercept_rows/interceptrows/engine/Session") (ga : n0 ≤ a) (F0 : Fld Z h0 a "com/example/intercept_rows/interceptrows/engine/Session" "autoCommit" "Z" (.int q1)) (F1 : Fld Z h0 a "com/example/intercept_rows/interceptrows/engine/Session" "begun" "Z" (.int q2)) (F2 : Fld Z h0 a "com/example/intercept_rows/interceptrows/engine/Session" "spoiled" "Z" (.int q3)) :
    MetFree l (⟨"com/example/intercept_rows/interceptrows/engine/Session", "endTransaction", "()V"⟩ : MethodName) (head1 (Jvm.Cond.code (⟨"com/example/intercept_rows/interceptrows/engine/Session", "endTransaction", "()V"⟩ : MethodName) prog_85_method_19_code 1 none :: ws) ({ frames := 0, cells := 0, slots := 0, locals := 0 } : Room)) (fun a_ U => a_ = #[(.ref a)] ∧ Z.Warmed39 U.vm ∧ U.heap = h0) (fun _ _ _ _ _ => True) (fun _ U o U' => ∃ v L, o = .returned v ∧ Q_endt Z a q1 q2 q3 h0 n0 v U'.heap L ∧ FrameEnd U o U' L ({ frames := 0, cells := 0, slots := 0, locals := 0 } : Room).cells ({ frames := 0, cells := 0, slots := 0, locals := 0 } : Room).slots) := by
  refine MetFree.of_bodySF (plainFor_of_name pn_com_example_intercept_rows_interceptrows_engine_Session) hisR ?_
  intro p e s m args below meth c s₁ Bd hml0 hP hK
  obtain ⟨rfl, hZ, hh⟩ := hP
  have hx := Bd.exec
  have hby := Bd.bytes
  have hml : c.maxLocals = 1 := hml0
  have hown : s.vm.findClass "com/example/intercept_rows/interceptrows/engine/Session" = some m.cls := findClass_of_methodNamed Bd.named
  have hnm := (name_of_methodNamed Bd.named Bd.method).1
  have X0 : Stand p l e ({ frames := 0, cells := 0, slots := 0, locals := 0 } : Room) s m #[(.ref a)] below meth c s₁ [] 0 0 := Stand.of_body Bd
  have e0 : s₁.heap = h0 := by rw [← hh, Bd.state]; rfl
  have N0 := Fr.nil n0
  have hlk := Bd.notSynchronized
  have hret := Bd.returns
  show OGo p e below (OEnd s (Q_endt Z a q1 q2 q3 h0 n0) ({ frames := 0, cells := 0, slots := 0, locals := 0 } : Room).cells ({ frames := 0, cells := 0, slots := 0, locals := 0 } : Room).slots) (s₁.setTop (entryFrame m #[(.ref a)] 1))
  rw [ef_endt]
  show OGo p e below _ (s₁.setTop (mkF m 0 #[.val (.ref a)] []))
  refine OGo.by_ (fun t k => XS.aloadN X0.here hx rfl (hb hby d_endt_0) rfl rfl k) ?_
  show OGo p e below _ (s₁.setTop (mkF m 1 #[.val (.ref a)] [(.ref a)]))
  refine OGo.by_ (fun t k => XS.iconst X0.here hx rfl (hb hby d_endt_1) k) ?_
  show OGo p e below _ (s₁.setTop (mkF m 2 #[.val (.ref a)] [(.int (0 : Int32)), (.ref a)]))
  obtain ⟨T1, h1, X1, e1, W1, st1⟩ := putFN X0 hx hZ hown (hw _ (List.mem_of_getElem? (i := 135) rfl)) Via.refl e0 F1 E0 (Or.inl (hw _ (List.mem_of_getElem? (i := 136) rfl))) (hw _ (List.mem_of_getElem? (i := 1) rfl)) (ty := .boolean) (v' := (.int (0 : Int32))) (by decide) rfl (by decide) (g := (mkF m 2 #[.val (.ref a)] [(.int (0 : Int32)), (.ref a)])) rfl rfl (hb hby d_endt_2)
  refine OGo.by_ st1 ?_
  show OGo p e below _ (T1.setTop (mkF m 5 #[.val (.ref a)] []))
  have N1 := Fr.snoc X1 N0 ga
  have E_1 := E0.wr W1
  have K_1 := Keep.wr (Keep.refl h0 [a]) W1 (Or.inl (List.mem_singleton.mpr rfl))
  have FautoCommit_1 := F0.other W1 (Or.inr (slot_ne (C := "com/example/intercept_rows/interceptrows/engine/Session") (Or.inl (hw _ (List.mem_of_getElem? (i := 112) rfl))) (Or.inl (hw _ (List.mem_of_getElem? (i := 136) rfl))) (by decide) (t := .boolean) (t' := .boolean) (by decide) (by decide)))
  have Fbegun_1 := F1.same W1
  have Fspoiled_1 := F2.other W1 (Or.inr (slot_ne (C := "com/example/intercept_rows/interceptrows/engine/Session") (Or.inl (hw _ (List.mem_of_getElem? (i := 152) rfl))) (Or.inl (hw _ (List.mem_of_getElem? (i := 136) rfl))) (by decide) (t := .boolean) (t' := .boolean) (by decide) (by decide)))
  refine OGo.by_ (fun t k => XS.aloadN X1.here hx rfl (hb hby d_endt_5) rfl rfl k) ?_
  show OGo p e below _ (T1.setTop (mkF m 6 #[.val (.ref a)] [(.ref a)]))
  refine OGo.by_ (fun t k => XS.iconst X1.here hx rfl (hb hby d_endt_6) k) ?_
  show OGo p e below _ (T1.setTop (mkF m 7 #[.val (.ref a)] [(.int (0 : Int32)), (.ref a)]))
  obtain ⟨T2, h2, X2, e2, W2, st2⟩ := putFN X1 hx hZ hown (hw _ (List.mem_of_getElem? (i := 151) rfl)) Via.refl e1 Fspoiled_1 E_1 (Or.inl (hw _ (List.mem_of_getElem? (i := 152) rfl))) (hw _ (List.mem_of_getElem? (i := 1) rfl)) (ty := .boolean) (v' := (.int (0 : Int32))) (by decide) rfl (by decide) (g := (mkF m 7 #[.val (.ref a)] [(.int (0 : Int32)), (.ref a)])) rfl rfl (hb hby d_endt_7)
  refine OGo.by_ st2 ?_
  show OGo p e below _ (T2.setTop (mkF m 10 #[.val (.ref a)] []))
  have N2 := Fr.snoc X2 N1 ga
  have E_2 := E_1.wr W2
  have K_2 := Keep.wr K_1 W2 (Or.inl (List.mem_singleton.mpr rfl))
  have FautoCommit_2 := FautoCommit_1.other W2 (Or.inr (slot_ne (C := "com/example/intercept_rows/interceptrows/engine/Session") (Or.inl (hw _ (List.mem_of_getElem? (i := 112) rfl))) (Or.inl (hw _ (List.mem_of_getElem? (i := 152) rfl))) (by decide) (t := .boolean) (t' := .boolean) (by decide) (by decide)))
  have Fbegun_2 := Fbegun_1.other W2 (Or.inr (slot_ne (C := "com/example/intercept_rows/interceptrows/engine/Session") (Or.inl (hw _ (List.mem_of_getElem? (i := 136) rfl))) (Or.inl (hw _ (List.mem_of_getElem? (i := 152) rfl))) (by decide) (t := .boolean) (t' := .boolean) (by decide) (by decide)))
  have Fspoiled_2 := Fspoiled_1.same W2
  exact own_ret X2 hx hlk hret (hb hby d_endt_10) (by decide) (by decide) (by rw [e2]; exact ⟨rfl, N2, K_2, E_2, FautoCommit_2, Fbegun_2, Fspoiled_2⟩)
theorem d_spo_0 : decode prog_85_method_18_code 0 = .ok (.aload_n 0, 1) := by decide +kernel
theorem d_spo_1 : decode prog_85_method_18_code 1 = .ok (.iconst 1, 1) := by decide +kernel
theorem d_spo_2 : decode prog_85_method_18_code 2 = .ok (.putfield 126, 3) := by decide +kernel
theorem d_spo_5 : decode prog_85_method_18_code 5 = .ok (.return_, 1) := by decide +kernel
theorem ef_spo (m : MethodId) (x0 : Addr) : entryFrame m #[(.ref x0)] 1 = mkF m 0 #[.val (.ref x0)] [] := by first | (simp [entryFrame, mkF, argsToLocals, Value.category]; done) | rfl
def Q_spo (Z : State) (a : Addr) (q1 q2 q3 : Int32) (h0 : Heap) (n0 : Nat) (v : Option Value) (h : Heap) (L : List Loc) : Prop := v = none ∧ Fr n0 L ∧ Keep h0 h [a] ∧ Exa Z h a "com/example/intercept_rows/interceptrows/engine/Session" ∧ Fld Z h a "com/example/intercept_rows/interceptrows/engine/Session" "autoCommit" "Z" (.int q1) ∧ Fld Z h a "com/example/intercept_rows/interceptrows/engine/Session" "begun" "Z" (.int q2) ∧ Fld Z h a "com/example/intercept_rows/interceptrows/engine/Session" "spoiled" "Z" (.int (1 : Int32))
set_option maxRecDepth 65536 in
set_option maxHeartbeats 40000000 in
theorem rm_spo (l : Launch) (Z : State) (a0 : Array Value) (hw : ∀ d ∈ tables_1, d.before a0 Z = true) (ws : List Jvm.Cond) (a : Addr) (q1 q2 q3 : Int32) (h0 : Heap) (n0 : Nat) (Z0 : n0 ≤ h0.size) (E0 : Exa Z h0 a "com/example/intercept_rows/interceptrows/engine/Session") (ga : n0 ≤ a) (F0 : Fld Z h0 a "com/example/intercept_rows/interceptrows/engine/Session" "autoCommit" "Z" (.int q1)) (F1 : Fld Z h0 a "com/example/intercept_rows/interceptrows/engine/Session" "begun" "Z" (.int q2)) (F2 : Fld Z h0 a "com/example/intercept_rows/interceptrows/engine/Session" "spoiled" "Z" (.int q3)) :
    MetFree l (⟨"com/example/intercept_rows/interceptrows/engine/Session", "spoil", "()V"⟩ : MethodName) (head1 (Jvm.Cond.code (⟨"com/example/intercept_rows/interceptrows/engine/Session", "spoil", "()V"⟩ : MethodName) prog_85_method_18_code 1 none :: ws) ({ frames := 0, cells := 0, slots := 0, locals := 0 } : Room)) (fun a_ U => a_ = #[(.ref a)] ∧ Z.Warmed39 U.vm ∧ U.heap = h0) (fun _ _ _ _ _ => True) (fun _ U o U' => ∃ v L, o = .returned v ∧ Q_spo Z a q1 q2 q3 h0 n0 v U'.heap L ∧ FrameEnd U o U' L ({ frames := 0, cells := 0, slots := 0, locals := 0 } : Room).cells ({ frames := 0, cells := 0, slots := 0, locals := 0 } : Room).slots) := by
  refine MetFree.of_bodySF (plainFor_of_name pn_com_example_intercept_rows_interceptrows_engine_Session) hisR ?_
  intro p e s m args below meth c s₁ Bd hml0 hP hK
  obtain ⟨rfl, hZ, hh⟩ := hP
  have hx := Bd.exec
  have hby := Bd.bytes
  have hml : c.maxLocals = 1 := hml0
  have hown : s.vm.findClass "com/example/intercept_rows/interceptrows/engine/Session" = some m.cls := findClass_of_methodNamed Bd.named
  have hnm := (name_of_methodNamed Bd.named Bd.method).1
  have X0 : Stand p l e ({ frames := 0, cells := 0, slots := 0, locals := 0 } : Room) s m #[(.ref a)] below meth c s₁ [] 0 0 := Stand.of_body Bd
  have e0 : s₁.heap = h0 := by rw [← hh, Bd.state]; rfl
  have N0 := Fr.nil n0
  have hlk := Bd.notSynchronized
  have hret := Bd.returns
  show OGo p e below (OEnd s (Q_spo Z a q1 q2 q3 h0 n0) ({ frames := 0, cells := 0, slots := 0, locals := 0 } : Room).cells ({ frames := 0, cells := 0, slots := 0, locals := 0 } : Room).slots) (s₁.setTop (entryFrame m #[(.ref a)] 1))
  rw [ef_spo]
  show OGo p e below _ (s₁.setTop (mkF m 0 #[.val (.ref a)] []))
  refine OGo.by_ (fun t k => XS.aloadN X0.here hx rfl (hb hby d_spo_0) rfl rfl k) ?_
  show OGo p e below _ (s₁.setTop (mkF m 1 #[.val (.ref a)] [(.ref a)]))
  refine OGo.by_ (fun t k => XS.iconst X0.here hx rfl (hb hby d_spo_1) k) ?_
  show OGo p e below _ (s₁.setTop (mkF m 2 #[.val (.ref a)] [(.int (1 : Int32)), (.ref a)]))
  obtain ⟨T1, h1, X1, e1, W1, st1⟩ := putFN X0 hx hZ hown (hw _ (List.mem_of_getElem? (i := 151) rfl)) Via.refl e0 F2 E0 (Or.inl (hw _ (List.mem_of_getElem? (i := 152) rfl))) (hw _ (List.mem_of_getElem? (i := 1) rfl)) (ty := .boolean) (v' := (.int (1 : Int32))) (by decide) rfl (by decide) (g := (mkF m 2 #[.val (.ref a)] [(.int (1 : Int32)), (.ref a)])) rfl rfl (hb hby d_spo_2)
  refine OGo.by_ st1 ?_
  show OGo p e below _ (T1.setTop (mkF m 5 #[.val (.ref a)] []))
  have N1 := Fr.snoc X1 N0 ga
  have E_1 := E0.wr W1
  have K_1 := Keep.wr (Keep.refl h0 [a]) W1 (Or.inl (List.mem_singleton.mpr rfl))
  have FautoCommit_1 := F0.other W1 (Or.inr (slot_ne (C := "com/example/intercept_rows/interceptrows/engine/Session") (Or.inl (hw _ (List.mem_of_getElem? (i := 112) rfl))) (Or.inl (hw _ (List.mem_of_getElem? (i := 152) rfl))) (by decide) (t := .boolean) (t' := .boolean) (by decide) (by decide)))
  have Fbegun_1 := F1.other W1 (Or.inr (slot_ne (C := "com/example/intercept_rows/interceptrows/engine/Session") (Or.inl (hw _ (List.mem_of_getElem? (i := 136) rfl))) (Or.inl (hw _ (List.mem_of_getElem? (i := 152) rfl))) (by decide) (t := .boolean) (t' := .boolean) (by decide) (by decide)))
  have Fspoiled_1 := F2.same W1
  exact own_ret X1 hx hlk hret (hb hby d_spo_5) (by decide) (by decide) (by rw [e1]; exact ⟨rfl, N1, K_1, E_1, FautoCommit_1, Fbegun_1, Fspoiled_1⟩)
theorem d_stp_73 : decode method_3_code 73 = .ok (.aload_n 1, 1) := by decide +kernel
theorem d_stp_74 : decode method_3_code 74 = .ok (.iconst 0, 1) := by decide +kernel
theorem d_stp_75 : decode method_3_code 75 = .ok (.baload, 1) := by decide +kernel
theorem d_stp_76 : decode method_3_code 76 = .ok (.istore 4, 2) := by decide +kernel
theorem d_stp_78 : decode method_3_code 78 = .ok (.aload_n 1, 1) := by decide +kernel
theorem d_stp_79 : decode method_3_code 79 = .ok (.iconst 1, 1) := by decide +kernel
theorem d_stp_80 : decode method_3_code 80 = .ok (.baload, 1) := by decide +kernel
theorem d_stp_81 : decode method_3_code 81 = .ok (.istore 5, 2) := by decide +kernel
theorem d_stp_83 : decode method_3_code 83 = .ok (.iload 4, 2) := by decide +kernel
theorem d_stp_85 : decode method_3_code 85 = .ok (.ifCond .ne 9, 3) := by decide +kernel
theorem d_stp_88 : decode method_3_code 88 = .ok (.iconst 1, 1) := by decide +kernel
theorem d_stp_89 : decode method_3_code 89 = .ok (.istore 6, 2) := by decide +kernel
theorem d_stp_91 : decode method_3_code 91 = .ok (.goto 7, 3) := by decide +kernel
theorem d_stp_94 : decode method_3_code 94 = .ok (.iload 5, 2) := by decide +kernel
theorem d_stp_96 : decode method_3_code 96 = .ok (.istore 6, 2) := by decide +kernel
theorem d_stp_98 : decode method_3_code 98 = .ok (.aload_n 0, 1) := by decide +kernel
theorem d_stp_99 : decode method_3_code 99 = .ok (.invokevirtual 15, 3) := by decide +kernel
theorem d_stp_102 : decode method_3_code 102 = .ok (.iload 6, 2) := by decide +kernel
theorem d_stp_104 : decode method_3_code 104 = .ok (.if_icmp .ne 7, 3) := by decide +kernel
theorem d_stp_107 : decode method_3_code 107 = .ok (.iconst 1, 1) := by decide +kernel
theorem d_stp_108 : decode method_3_code 108 = .ok (.goto 4, 3) := by decide +kernel
theorem d_stp_112 : decode method_3_code 112 = .ok (.ireturn, 1) := by decide +kernel
set_option maxRecDepth 65536 in
set_option maxHeartbeats 40000000 in
theorem sg_st73 {p : Program} {l : Launch} {e : Env} {s : State} {m : MethodId} {args : Array Value} {below : List Frame} {meth : Method} {c : Code} {T0 : State} {locs : List Loc} {Z : State} {a0 : Array Value} {h0 : Heap} {n0 : Nat} {a mm : Addr} {p1 p2 u1 u2 : Int32} {hz : Nat}
    (X0 : Stand p l e ({ frames := 1, cells := 0, slots := 0, locals := 13 } : Room) s m args below meth c T0 locs 0 0) (hx : p.tables.exec = Jvm.exec) (hZ : Z.Warmed39 s.vm) (hw : ∀ d ∈ tables_1, d.before a0 Z = true) (hby : c.code = method_3_code) (hml : c.maxLocals = 7) (hown : s.vm.findClass "com/example/intercept_rows/interceptrows/engine/SessionInTransactionPinLaw" = some m.cls) (hnm : meth.name = "step") (hlk : meth.locks = false) (hret : meth.sig.returnType = some .boolean) (e0 : T0.heap = h0) (N0 : Fr n0 locs) (Z0 : n0 ≤ h0.size) (hz0 : hz ≤ h0.size) (SS : own_SS Z h0 a mm u1 u2) :
    OGo p e below (OEnd s (fun v h L => v = some (.int 1) ∧ Fr n0 L ∧ hz ≤ h.size ∧ ∃ q1 q2, own_SS Z h a mm q1 q2) ({ frames := 1, cells := 0, slots := 0, locals := 13 } : Room).cells ({ frames := 1, cells := 0, slots := 0, locals := 13 } : Room).slots) (T0.setTop (mkF m 73 #[.val (.ref a), .val (.ref mm), .val (.int p1), .val (.int p2), .unset, .unset, .unset] [])) := by
  obtain ⟨Ex, Fa, Fb, ⟨sp, Fs⟩, ⟨kk, Vm⟩, hq1, hq2⟩ := SS
  refine OGo.by_ (fun t k => XS.aloadN X0.here hx rfl (hb hby d_stp_73) rfl rfl k) ?_
  show OGo p e below _ (T0.setTop (mkF m 74 #[.val (.ref a), .val (.ref mm), .val (.int p1), .val (.int p2), .unset, .unset, .unset] [(.ref mm)]))
  refine OGo.by_ (fun t k => XS.iconst X0.here hx rfl (hb hby d_stp_74) k) ?_
  show OGo p e below _ (T0.setTop (mkF m 75 #[.val (.ref a), .val (.ref mm), .val (.int p1), .val (.int p2), .unset, .unset, .unset] [(.int (0 : Int32)), (.ref mm)]))
  obtain ⟨cl1, Ar1, q1, S1, Nn1, H1, G1⟩ := id Vm
  have in1 := inb_of S1 ⟨(by decide : ¬ (0 : Int32) < 0), (by decide : (0 : Int32) < (2 : Int32))⟩
  refine OGo.by_ (fun t kk => X0.baloadBooleans hx (j := (0 : Int32)) (v := (.int u1)) (by rw [e0]; exact Ar1.1) (State.isArrayOf_alike hZ.alike Ar1.2.1) Ar1.2.2 in1 (H1.at in1 rfl) (g := (mkF m 75 #[.val (.ref a), .val (.ref mm), .val (.int p1), .val (.int p2), .unset, .unset, .unset] [(.int (0 : Int32)), (.ref mm)])) rfl rfl (hb hby d_stp_75) _ kk) ?_
  show OGo p e below _ (T0.setTop (mkF m 76 #[.val (.ref a), .val (.ref mm), .val (.int p1), .val (.int p2), .unset, .unset, .unset] [(.int u1)]))
  refine OGo.by_ (fun t k => XS.istore X0.here hx rfl (hb hby d_stp_76) rfl (l' := #[.val (.ref a), .val (.ref mm), .val (.int p1), .val (.int p2), .val (.int u1), .unset, .unset]) rfl k) ?_
  show OGo p e below _ (T0.setTop (mkF m 78 #[.val (.ref a), .val (.ref mm), .val (.int p1), .val (.int p2), .val (.int u1), .unset, .unset] []))
  refine OGo.by_ (fun t k => XS.aloadN X0.here hx rfl (hb hby d_stp_78) rfl rfl k) ?_
  show OGo p e below _ (T0.setTop (mkF m 79 #[.val (.ref a), .val (.ref mm), .val (.int p1), .val (.int p2), .val (.int u1), .unset, .unset] [(.ref mm)]))
  refine OGo.by_ (fun t k => XS.iconst X0.here hx rfl (hb hby d_stp_79) k) ?_
  show OGo p e below _ (T0.setTop (mkF m 80 #[.val (.ref a), .val (.ref mm), .val (.int p1), .val (.int p2), .val (.int u1), .unset, .unset] [(.int (1 : Int32)), (.ref mm)]))
  obtain ⟨cl2, Ar2, q2, S2, Nn2, H2, G2⟩ := id Vm
  have in2 := inb_of S2 ⟨(by decide : ¬ (1 : Int32) < 0), (by decide : (1 : Int32) < (2 : Int32))⟩
  refine OGo.by_ (fun t kk => X0.baloadBooleans hx (j := (1 : Int32)) (v := (.int u2)) (by rw [e0]; exact Ar2.1) (State.isArrayOf_alike hZ.alike Ar2.2.1) Ar2.2.2 in2 (H2.at in2 rfl) (g := (mkF m 80 #[.val (.ref a), .val (.ref mm), .val (.int p1), .val (.int p2), .val (.int u1), .unset, .unset] [(.int (1 : Int32)), (.ref mm)])) rfl rfl (hb hby d_stp_80) _ kk) ?_
  show OGo p e below _ (T0.setTop (mkF m 81 #[.val (.ref a), .val (.ref mm), .val (.int p1), .val (.int p2), .val (.int u1), .unset, .unset] [(.int u2)]))
  refine OGo.by_ (fun t k => XS.istore X0.here hx rfl (hb hby d_stp_81) rfl (l' := #[.val (.ref a), .val (.ref mm), .val (.int p1), .val (.int p2), .val (.int u1), .val (.int u2), .unset]) rfl k) ?_
  show OGo p e below _ (T0.setTop (mkF m 83 #[.val (.ref a), .val (.ref mm), .val (.int p1), .val (.int p2), .val (.int u1), .val (.int u2), .unset] []))
  refine OGo.by_ (fun t k => XS.iload X0.here hx rfl (hb hby d_stp_83) rfl k) ?_
  show OGo p e below _ (T0.setTop (mkF m 85 #[.val (.ref a), .val (.ref mm), .val (.int p1), .val (.int p2), .val (.int u1), .val (.int u2), .unset] [(.int u1)]))
  have D3 : ∀ t, Steps p.tables e below (T0.setTop (mkF m 98 #[.val (.ref a), .val (.ref mm), .val (.int p1), .val (.int p2), .val (.int u1), .val (.int u2), .val (.int (if u1 = (0 : Int32) then (1 : Int32) else u2))] [])) t → Steps p.tables e below (T0.setTop (mkF m 85 #[.val (.ref a), .val (.ref mm), .val (.int p1), .val (.int p2), .val (.int u1), .val (.int u2), .unset] [(.int u1)])) t := by
    intro t k
    by_cases hc : u1 = (0 : Int32)
    · rw [show (if u1 = (0 : Int32) then (1 : Int32) else u2) = (1 : Int32) from if_pos hc] at k
      refine XS.ifNo X0.here hx rfl (hb hby d_stp_85) rfl ((if0 _ _).trans (teq hc).2) ?_
      show Steps p.tables e below (T0.setTop (mkF m 88 #[.val (.ref a), .val (.ref mm), .val (.int p1), .val (.int p2), .val (.int u1), .val (.int u2), .unset] [])) _
      refine XS.iconst X0.here hx rfl (hb hby d_stp_88) ?_
      show Steps p.tables e below (T0.setTop (mkF m 89 #[.val (.ref a), .val (.ref mm), .val (.int p1), .val (.int p2), .val (.int u1), .val (.int u2), .unset] [(.int (1 : Int32))])) _
      refine XS.istore X0.here hx rfl (hb hby d_stp_89) rfl (l' := #[.val (.ref a), .val (.ref mm), .val (.int p1), .val (.int p2), .val (.int u1), .val (.int u2), .val (.int (1 : Int32))]) rfl ?_
      show Steps p.tables e below (T0.setTop (mkF m 91 #[.val (.ref a), .val (.ref mm), .val (.int p1), .val (.int p2), .val (.int u1), .val (.int u2), .val (.int (1 : Int32))] [])) _
      refine XS.goto X0.here hx rfl (pc0 := 91) (pc' := 98) rfl (hb hby d_stp_91) (by decide) (by decide) ?_
      show Steps p.tables e below (T0.setTop (mkF m 98 #[.val (.ref a), .val (.ref mm), .val (.int p1), .val (.int p2), .val (.int u1), .val (.int u2), .val (.int (1 : Int32))] [])) _
      first | exact k | (simp only [if_pos hc]; exact k)
    · rw [show (if u1 = (0 : Int32) then (1 : Int32) else u2) = u2 from if_neg hc] at k
      refine XS.ifYes X0.here hx rfl (pc0 := 85) (pc' := 94) rfl (hb hby d_stp_85) rfl ((if0 _ _).trans (feq hc).2) (by decide) (by decide) ?_
      show Steps p.tables e below (T0.setTop (mkF m 94 #[.val (.ref a), .val (.ref mm), .val (.int p1), .val (.int p2), .val (.int u1), .val (.int u2), .unset] [])) _
      refine XS.iload X0.here hx rfl (hb hby d_stp_94) rfl ?_
      show Steps p.tables e below (T0.setTop (mkF m 96 #[.val (.ref a), .val (.ref mm), .val (.int p1), .val (.int p2), .val (.int u1), .val (.int u2), .unset] [(.int u2)])) _
      refine XS.istore X0.here hx rfl (hb hby d_stp_96) rfl (l' := #[.val (.ref a), .val (.ref mm), .val (.int p1), .val (.int p2), .val (.int u1), .val (.int u2), .val (.int u2)]) rfl ?_
      show Steps p.tables e below (T0.setTop (mkF m 98 #[.val (.ref a), .val (.ref mm), .val (.int p1), .val (.int p2), .val (.int u1), .val (.int u2), .val (.int u2)] [])) _
      first | exact k | (simp only [if_neg hc]; exact k)
  refine OGo.by_ D3 ?_
  show OGo p e below _ (T0.setTop (mkF m 98 #[.val (.ref a), .val (.ref mm), .val (.int p1), .val (.int p2), .val (.int u1), .val (.int u2), .val (.int (if u1 = (0 : Int32) then (1 : Int32) else u2))] []))
  refine OGo.by_ (fun t k => XS.aloadN X0.here hx rfl (hb hby d_stp_98) rfl rfl k) ?_
  show OGo p e below _ (T0.setTop (mkF m 99 #[.val (.ref a), .val (.ref mm), .val (.int p1), .val (.int p2), .val (.int u1), .val (.int u2), .val (.int (if u1 = (0 : Int32) then (1 : Int32) else u2))] [(.ref a)]))
  obtain ⟨cq5, kq5, qa5, qb5, qc5⟩ := isOf hZ e0 Ex
  obtain ⟨_, _, ⟨T4, L4, k4, n4⟩, -, X4, ⟨Lc4, hQ4, l4, y4, z4⟩, st4⟩ := X0.virtualBack hx (y := (⟨"com/example/intercept_rows/interceptrows/engine/Session", "inTransaction", "()Z"⟩ : MethodName)) (z := (⟨"com/example/intercept_rows/interceptrows/engine/Session", "inTransaction", "()Z"⟩ : MethodName)) hown (mvT hZ (hw _ (List.mem_of_getElem? (i := 130) rfl))) (mvT hZ (hw _ (List.mem_of_getElem? (i := 131) rfl))) (notFace_of_selects (args := #[]) (mvT hZ (hw _ (List.mem_of_getElem? (i := 133) rfl)))) (mvT hZ (hw _ (List.mem_of_getElem? (i := 133) rfl))) (mvT hZ (hw _ (List.mem_of_getElem? (i := 132) rfl))) (by decide) (backOf (W := 0) (rm_int l Z a0 hw [] a u1 u2 h0 n0 Z0 Fa Fb) hZ (hw _ (List.mem_of_getElem? (i := 134) rfl)) (hw _ (List.mem_of_getElem? (i := 2) rfl)) (by decide) (by decide)) qa5 qc5 (g := (mkF m 99 #[.val (.ref a), .val (.ref mm), .val (.int p1), .val (.int p2), .val (.int u1), .val (.int u2), .val (.int (if u1 = (0 : Int32) then (1 : Int32) else u2))] [(.ref a)])) rfl (by rw [hml]; rfl) (Steps.refl _) (argsL := []) (rest := []) (lenOf pd_ocZ rfl) rfl (by show 2 * 0 + _ ≤ _; exact Nat.le_of_eq rfl) (hb hby d_stp_99) (fun _ _ => ⟨rfl, e0, (by decide : 0 + 0 ≤ _), (by decide : 0 + 0 ≤ _)⟩)
  dsimp only [Pt.U, Pt.locs, Pt.cells, Pt.slots] at X4 l4 y4 z4 st4 hQ4
  subst l4 y4 z4
  obtain ⟨rfl, Nq4, eq4⟩ := hQ4
  have N4 := Fr.app N0 Nq4
  refine OGo.by_ (fun t k => st4.trans k) ?_
  show OGo p e below _ (T4.setTop (mkF m 102 #[.val (.ref a), .val (.ref mm), .val (.int p1), .val (.int p2), .val (.int u1), .val (.int u2), .val (.int (if u1 = (0 : Int32) then (1 : Int32) else u2))] [(.int (nar .boolean (if u1 = (0 : Int32) then (1 : Int32) else if u2 = (0 : Int32) then (0 : Int32) else (1 : Int32))))]))
  refine OGo.by_ (fun t k => XS.iload X4.here hx rfl (hb hby d_stp_102) rfl k) ?_
  show OGo p e below _ (T4.setTop (mkF m 104 #[.val (.ref a), .val (.ref mm), .val (.int p1), .val (.int p2), .val (.int u1), .val (.int u2), .val (.int (if u1 = (0 : Int32) then (1 : Int32) else u2))] [(.int (if u1 = (0 : Int32) then (1 : Int32) else u2)), (.int (nar .boolean (if u1 = (0 : Int32) then (1 : Int32) else if u2 = (0 : Int32) then (0 : Int32) else (1 : Int32))))]))
  refine OGo.by_ (fun t k => XS.icmpNo X4.here hx rfl (hb hby d_stp_104) rfl (teq (own_eqS hq1 hq2)).2 k) ?_
  show OGo p e below _ (T4.setTop (mkF m 107 #[.val (.ref a), .val (.ref mm), .val (.int p1), .val (.int p2), .val (.int u1), .val (.int u2), .val (.int (if u1 = (0 : Int32) then (1 : Int32) else u2))] []))
  refine OGo.by_ (fun t k => XS.iconst X4.here hx rfl (hb hby d_stp_107) k) ?_
  show OGo p e below _ (T4.setTop (mkF m 108 #[.val (.ref a), .val (.ref mm), .val (.int p1), .val (.int p2), .val (.int u1), .val (.int u2), .val (.int (if u1 = (0 : Int32) then (1 : Int32) else u2))] [(.int (1 : Int32))]))
  refine OGo.by_ (fun t k => XS.goto X4.here hx rfl (pc0 := 108) (pc' := 112) rfl (hb hby d_stp_108) (by decide) (by decide) k) ?_
  show OGo p e below _ (T4.setTop (mkF m 112 #[.val (.ref a), .val (.ref mm), .val (.int p1), .val (.int p2), .val (.int u1), .val (.int u2), .val (.int (if u1 = (0 : Int32) then (1 : Int32) else u2))] [(.int (1 : Int32))]))
  exact own_retN X4 hx hlk (t := .boolean) hret (by simp) (hb hby d_stp_112) (by decide) (by decide) (⟨rfl, N4, by rw [eq4]; exact hz0, u1, u2, by rw [eq4]; exact ⟨Ex, Fa, Fb, ⟨sp, Fs⟩, ⟨kk, Vm⟩, hq1, hq2⟩⟩)
theorem d_stp_0 : decode method_3_code 0 = .ok (.iload_n 2, 1) := by decide +kernel
theorem d_stp_1 : decode method_3_code 1 = .ok (.iconst 5, 1) := by decide +kernel
theorem d_stp_2 : decode method_3_code 2 = .ok (.irem, 1) := by decide +kernel
theorem d_stp_3 : decode method_3_code 3 = .ok (.istore_n 3, 1) := by decide +kernel
theorem d_stp_4 : decode method_3_code 4 = .ok (.iload_n 3, 1) := by decide +kernel
theorem d_stp_5 : decode method_3_code 5 = .ok (.ifCond .ne 15, 3) := by decide +kernel
theorem d_stp_8 : decode method_3_code 8 = .ok (.aload_n 0, 1) := by decide +kernel
theorem d_stp_9 : decode method_3_code 9 = .ok (.iconst 1, 1) := by decide +kernel
theorem d_stp_10 : decode method_3_code 10 = .ok (.invokevirtual 25, 3) := by decide +kernel
theorem pd_oZcV : parseMethodDescriptor "(Z)V" = some ⟨[.boolean], none⟩ := by decide +kernel
theorem d_stp_13 : decode method_3_code 13 = .ok (.aload_n 1, 1) := by decide +kernel
theorem d_stp_14 : decode method_3_code 14 = .ok (.iconst 0, 1) := by decide +kernel
theorem d_stp_15 : decode method_3_code 15 = .ok (.iconst 1, 1) := by decide +kernel
theorem d_stp_16 : decode method_3_code 16 = .ok (.bastore, 1) := by decide +kernel
theorem d_stp_17 : decode method_3_code 17 = .ok (.goto 56, 3) := by decide +kernel
theorem d_stp_20 : decode method_3_code 20 = .ok (.iload_n 3, 1) := by decide +kernel
theorem d_stp_21 : decode method_3_code 21 = .ok (.iconst 1, 1) := by decide +kernel
theorem d_stp_22 : decode method_3_code 22 = .ok (.if_icmp .ne 15, 3) := by decide +kernel
theorem d_stp_25 : decode method_3_code 25 = .ok (.aload_n 0, 1) := by decide +kernel
theorem d_stp_26 : decode method_3_code 26 = .ok (.iconst 0, 1) := by decide +kernel
theorem d_stp_27 : decode method_3_code 27 = .ok (.invokevirtual 25, 3) := by decide +kernel
theorem d_stp_30 : decode method_3_code 30 = .ok (.aload_n 1, 1) := by decide +kernel
theorem d_stp_31 : decode method_3_code 31 = .ok (.iconst 0, 1) := by decide +kernel
theorem d_stp_32 : decode method_3_code 32 = .ok (.iconst 0, 1) := by decide +kernel
theorem d_stp_33 : decode method_3_code 33 = .ok (.bastore, 1) := by decide +kernel
theorem d_stp_34 : decode method_3_code 34 = .ok (.goto 39, 3) := by decide +kernel
theorem d_stp_37 : decode method_3_code 37 = .ok (.iload_n 3, 1) := by decide +kernel
theorem d_stp_38 : decode method_3_code 38 = .ok (.iconst 2, 1) := by decide +kernel
theorem d_stp_39 : decode method_3_code 39 = .ok (.if_icmp .ne 14, 3) := by decide +kernel
theorem d_stp_42 : decode method_3_code 42 = .ok (.aload_n 0, 1) := by decide +kernel
theorem d_stp_43 : decode method_3_code 43 = .ok (.invokevirtual 29, 3) := by decide +kernel
theorem d_stp_46 : decode method_3_code 46 = .ok (.aload_n 1, 1) := by decide +kernel
theorem d_stp_47 : decode method_3_code 47 = .ok (.iconst 1, 1) := by decide +kernel
theorem d_stp_48 : decode method_3_code 48 = .ok (.iconst 1, 1) := by decide +kernel
theorem d_stp_49 : decode method_3_code 49 = .ok (.bastore, 1) := by decide +kernel
theorem d_stp_50 : decode method_3_code 50 = .ok (.goto 23, 3) := by decide +kernel
theorem d_stp_53 : decode method_3_code 53 = .ok (.iload_n 3, 1) := by decide +kernel
theorem d_stp_54 : decode method_3_code 54 = .ok (.iconst 3, 1) := by decide +kernel
theorem d_stp_55 : decode method_3_code 55 = .ok (.if_icmp .ne 14, 3) := by decide +kernel
theorem d_stp_58 : decode method_3_code 58 = .ok (.aload_n 0, 1) := by decide +kernel
theorem d_stp_59 : decode method_3_code 59 = .ok (.invokevirtual 32, 3) := by decide +kernel
theorem d_stp_62 : decode method_3_code 62 = .ok (.aload_n 1, 1) := by decide +kernel
theorem d_stp_63 : decode method_3_code 63 = .ok (.iconst 1, 1) := by decide +kernel
theorem d_stp_64 : decode method_3_code 64 = .ok (.iconst 0, 1) := by decide +kernel
theorem d_stp_65 : decode method_3_code 65 = .ok (.bastore, 1) := by decide +kernel
theorem d_stp_66 : decode method_3_code 66 = .ok (.goto 7, 3) := by decide +kernel
theorem d_stp_69 : decode method_3_code 69 = .ok (.aload_n 0, 1) := by decide +kernel
theorem d_stp_70 : decode method_3_code 70 = .ok (.invokevirtual 35, 3) := by decide +kernel
theorem pn_com_example_intercept_rows_interceptrows_engine_SessionInTransactionPinLaw : plainName "com/example/intercept_rows/interceptrows/engine/SessionInTransactionPinLaw" = true := by first | (simp [plainName, overriddenIn]; done) | decide +kernel
theorem ef_stp (m : MethodId) (x0 : Addr) (x1 : Addr) (x2 : Int32) : entryFrame m #[(.ref x0), (.ref x1), (.int x2)] 7 = mkF m 0 #[.val (.ref x0), .val (.ref x1), .val (.int x2), .unset, .unset, .unset, .unset] [] := by first | (simp [entryFrame, mkF, argsToLocals, Value.category]; done) | rfl
def Q_stp (Z : State) (a mm : Addr) (p1 u1 u2 : Int32) (h0 : Heap) (n0 : Nat) (v : Option Value) (h : Heap) (L : List Loc) : Prop := v = some (.int 1) ∧ Fr n0 L ∧ h0.size ≤ h.size ∧ ∃ q1 q2, own_SS Z h a mm q1 q2
set_option maxRecDepth 65536 in
set_option maxHeartbeats 40000000 in
theorem rm_stp (l : Launch) (Z : State) (a0 : Array Value) (hw : ∀ d ∈ tables_1, d.before a0 Z = true) (ws : List Jvm.Cond) (a mm : Addr) (p1 u1 u2 : Int32) (h0 : Heap) (n0 : Nat) (Z0 : n0 ≤ h0.size) (SS : own_SS Z h0 a mm u1 u2) (ga : n0 ≤ a) (gm : n0 ≤ mm) :
    MetFree l (⟨"com/example/intercept_rows/interceptrows/engine/SessionInTransactionPinLaw", "step", "(Lcom/example/intercept_rows/interceptrows/engine/Session;[ZI)Z"⟩ : MethodName) (head1 (Jvm.Cond.code (⟨"com/example/intercept_rows/interceptrows/engine/SessionInTransactionPinLaw", "step", "(Lcom/example/intercept_rows/interceptrows/engine/Session;[ZI)Z"⟩ : MethodName) method_3_code 7 (some .boolean) :: ws) ({ frames := 1, cells := 0, slots := 0, locals := 13 } : Room)) (fun a_ U => a_ = #[(.ref a), (.ref mm), (.int p1)] ∧ Z.Warmed39 U.vm ∧ U.heap = h0) (fun _ _ _ _ _ => True) (fun _ U o U' => ∃ v L, o = .returned v ∧ Q_stp Z a mm p1 u1 u2 h0 n0 v U'.heap L ∧ FrameEnd U o U' L ({ frames := 1, cells := 0, slots := 0, locals := 13 } : Room).cells ({ frames := 1, cells := 0, slots := 0, locals := 13 } : Room).slots) := by
  refine MetFree.of_bodySF (plainFor_of_name pn_com_example_intercept_rows_interceptrows_engine_SessionInTransactionPinLaw) hisR ?_
  intro p e s m args below meth c s₁ Bd hml0 hP hK
  obtain ⟨rfl, hZ, hh⟩ := hP
  have hx := Bd.exec
  have hby := Bd.bytes
  have hml : c.maxLocals = 7 := hml0
  have hown : s.vm.findClass "com/example/intercept_rows/interceptrows/engine/SessionInTransactionPinLaw" = some m.cls := findClass_of_methodNamed Bd.named
  have hnm := (name_of_methodNamed Bd.named Bd.method).1
  have X0 : Stand p l e ({ frames := 1, cells := 0, slots := 0, locals := 13 } : Room) s m #[(.ref a), (.ref mm), (.int p1)] below meth c s₁ [] 0 0 := Stand.of_body Bd
  have e0 : s₁.heap = h0 := by rw [← hh, Bd.state]; rfl
  have N0 := Fr.nil n0
  have hlk := Bd.notSynchronized
  have hret := Bd.returns
  show OGo p e below (OEnd s (Q_stp Z a mm p1 u1 u2 h0 n0) ({ frames := 1, cells := 0, slots := 0, locals := 13 } : Room).cells ({ frames := 1, cells := 0, slots := 0, locals := 13 } : Room).slots) (s₁.setTop (entryFrame m #[(.ref a), (.ref mm), (.int p1)] 7))
  rw [ef_stp]
  show OGo p e below _ (s₁.setTop (mkF m 0 #[.val (.ref a), .val (.ref mm), .val (.int p1), .unset, .unset, .unset, .unset] []))
  refine OGo.by_ (fun t k => XS.iloadN X0.here hx rfl (hb hby d_stp_0) rfl k) ?_
  show OGo p e below _ (s₁.setTop (mkF m 1 #[.val (.ref a), .val (.ref mm), .val (.int p1), .unset, .unset, .unset, .unset] [(.int p1)]))
  refine OGo.by_ (fun t k => XS.iconst X0.here hx rfl (hb hby d_stp_1) k) ?_
  show OGo p e below _ (s₁.setTop (mkF m 2 #[.val (.ref a), .val (.ref mm), .val (.int p1), .unset, .unset, .unset, .unset] [(.int (5 : Int32)), (.int p1)]))
  refine OGo.by_ (fun t k => iremM X0 hx rfl (hb hby d_stp_2) rfl (by decide) k) ?_
  show OGo p e below _ (s₁.setTop (mkF m 3 #[.val (.ref a), .val (.ref mm), .val (.int p1), .unset, .unset, .unset, .unset] [(.int (p1 % (5 : Int32)))]))
  refine OGo.by_ (fun t k => XS.istoreN X0.here hx rfl (hb hby d_stp_3) rfl (l' := #[.val (.ref a), .val (.ref mm), .val (.int p1), .val (.int (p1 % (5 : Int32))), .unset, .unset, .unset]) rfl k) ?_
  show OGo p e below _ (s₁.setTop (mkF m 4 #[.val (.ref a), .val (.ref mm), .val (.int p1), .val (.int (p1 % (5 : Int32))), .unset, .unset, .unset] []))
  refine OGo.by_ (fun t k => XS.iloadN X0.here hx rfl (hb hby d_stp_4) rfl k) ?_
  show OGo p e below _ (s₁.setTop (mkF m 5 #[.val (.ref a), .val (.ref mm), .val (.int p1), .val (.int (p1 % (5 : Int32))), .unset, .unset, .unset] [(.int (p1 % (5 : Int32)))]))
  obtain ⟨Ex, Fa, Fb, ⟨sp, Fs⟩, ⟨kk, Vm⟩, hq1, hq2⟩ := SS
  have ham : a ≠ mm := Exa.neArv Ex Vm (hw _ (List.mem_of_getElem? (i := 1) rfl))
  by_cases hc5 : (p1 % (5 : Int32)) = (0 : Int32)
  · refine OGo.by_ (fun t k => XS.ifNo X0.here hx rfl (hb hby d_stp_5) rfl ((if0 _ _).trans (teq hc5).2) k) ?_
    show OGo p e below _ (s₁.setTop (mkF m 8 #[.val (.ref a), .val (.ref mm), .val (.int p1), .val (.int (p1 % (5 : Int32))), .unset, .unset, .unset] []))
    refine OGo.by_ (fun t k => XS.aloadN X0.here hx rfl (hb hby d_stp_8) rfl rfl k) ?_
    show OGo p e below _ (s₁.setTop (mkF m 9 #[.val (.ref a), .val (.ref mm), .val (.int p1), .val (.int (p1 % (5 : Int32))), .unset, .unset, .unset] [(.ref a)]))
    refine OGo.by_ (fun t k => XS.iconst X0.here hx rfl (hb hby d_stp_9) k) ?_
    show OGo p e below _ (s₁.setTop (mkF m 10 #[.val (.ref a), .val (.ref mm), .val (.int p1), .val (.int (p1 % (5 : Int32))), .unset, .unset, .unset] [(.int (1 : Int32)), (.ref a)]))
    obtain ⟨cq2, kq2, qa2, qb2, qc2⟩ := isOf hZ e0 Ex
    obtain ⟨_, _, ⟨T1, L1, k1, n1⟩, -, X1, ⟨Lc1, hQ1, l1, y1, z1⟩, st1⟩ := X0.virtualBack hx (y := (⟨"com/example/intercept_rows/interceptrows/engine/Session", "noteAutoCommit", "(Z)V"⟩ : MethodName)) (z := (⟨"com/example/intercept_rows/interceptrows/engine/Session", "noteAutoCommit", "(Z)V"⟩ : MethodName)) hown (mvT hZ (hw _ (List.mem_of_getElem? (i := 141) rfl))) (mvT hZ (hw _ (List.mem_of_getElem? (i := 142) rfl))) (notFace_of_selects (args := #[]) (mvT hZ (hw _ (List.mem_of_getElem? (i := 144) rfl)))) (mvT hZ (hw _ (List.mem_of_getElem? (i := 144) rfl))) (mvT hZ (hw _ (List.mem_of_getElem? (i := 143) rfl))) (by decide) (backOf (W := 0) (rm_note l Z a0 hw [] a u1 u2 sp (1 : Int32) h0 n0 Z0 Ex ga Fa Fb Fs) hZ (hw _ (List.mem_of_getElem? (i := 145) rfl)) (hw _ (List.mem_of_getElem? (i := 2) rfl)) (by decide) (by decide)) qa2 qc2 (g := (mkF m 10 #[.val (.ref a), .val (.ref mm), .val (.int p1), .val (.int (p1 % (5 : Int32))), .unset, .unset, .unset] [(.int (1 : Int32)), (.ref a)])) rfl (by rw [hml]; rfl) (Steps.refl _) (argsL := [(.int (1 : Int32))]) (rest := []) (lenOf pd_oZcV rfl) rfl (by show 2 * 0 + _ ≤ _; exact Nat.le_of_eq rfl) (hb hby d_stp_10) (fun _ _ => ⟨rfl, e0, (by decide : 0 + 0 ≤ _), (by decide : 0 + 0 ≤ _)⟩)
    dsimp only [Pt.U, Pt.locs, Pt.cells, Pt.slots] at X1 l1 y1 z1 st1 hQ1
    subst l1 y1 z1
    obtain ⟨rfl, Nq1, K1, Ex1, Fa1, Fb1, Fs1⟩ := hQ1
    have N1 := Fr.app N0 Nq1
    refine OGo.by_ (fun t k => st1.trans k) ?_
    show OGo p e below _ (T1.setTop (mkF m 13 #[.val (.ref a), .val (.ref mm), .val (.int p1), .val (.int (p1 % (5 : Int32))), .unset, .unset, .unset] []))
    have Vm1 := Vm.keep K1 (own_nin1 ham.symm)
    have Z1 : n0 ≤ T1.heap.size := Nat.le_trans Z0 K1.1
    refine OGo.by_ (fun t k => XS.aloadN X1.here hx rfl (hb hby d_stp_13) rfl rfl k) ?_
    show OGo p e below _ (T1.setTop (mkF m 14 #[.val (.ref a), .val (.ref mm), .val (.int p1), .val (.int (p1 % (5 : Int32))), .unset, .unset, .unset] [(.ref mm)]))
    refine OGo.by_ (fun t k => XS.iconst X1.here hx rfl (hb hby d_stp_14) k) ?_
    show OGo p e below _ (T1.setTop (mkF m 15 #[.val (.ref a), .val (.ref mm), .val (.int p1), .val (.int (p1 % (5 : Int32))), .unset, .unset, .unset] [(.int (0 : Int32)), (.ref mm)]))
    refine OGo.by_ (fun t k => XS.iconst X1.here hx rfl (hb hby d_stp_15) k) ?_
    show OGo p e below _ (T1.setTop (mkF m 16 #[.val (.ref a), .val (.ref mm), .val (.int p1), .val (.int (p1 % (5 : Int32))), .unset, .unset, .unset] [(.int (1 : Int32)), (.int (0 : Int32)), (.ref mm)]))
    obtain ⟨cl3, Ar3, q3, S3, Nn3, H3, G3⟩ := id Vm1
    obtain ⟨T4, h4, X4, e4, W4, st4⟩ := stZ X1 hx hZ rfl Ar3 (j := (0 : Int32)) (inb_of S3 ⟨(by decide : ¬ (0 : Int32) < 0), (by decide : (0 : Int32) < (2 : Int32))⟩) (g := (mkF m 16 #[.val (.ref a), .val (.ref mm), .val (.int p1), .val (.int (p1 % (5 : Int32))), .unset, .unset, .unset] [(.int (1 : Int32)), (.int (0 : Int32)), (.ref mm)])) rfl rfl (hb hby d_stp_16)
    refine OGo.by_ st4 ?_
    show OGo p e below _ (T4.setTop (mkF m 17 #[.val (.ref a), .val (.ref mm), .val (.int p1), .val (.int (p1 % (5 : Int32))), .unset, .unset, .unset] []))
    have N4 := Fr.snoc X4 N1 gm
    have Vn := Arv.set Ar3 q3 S3 Nn3 H3 G3 (v := .int (1 : Int32)) (by decide) W4 0 (by decide) (Nat.le_of_ble_eq_true rfl)
    have Z2 : n0 ≤ h4.size := by rw [W4.size]; exact Z1
    refine OGo.by_ (fun t k => XS.goto X4.here hx rfl (pc0 := 17) (pc' := 73) rfl (hb hby d_stp_17) (by decide) (by decide) k) ?_
    show OGo p e below _ (T4.setTop (mkF m 73 #[.val (.ref a), .val (.ref mm), .val (.int p1), .val (.int (p1 % (5 : Int32))), .unset, .unset, .unset] []))
    exact sg_st73 X4 hx hZ hw hby hml hown hnm hlk hret e4 N4 Z2 (by rw [W4.size]; exact K1.1) ⟨(Ex1.wr W4), (Fa1.other W4 (Or.inl ham)), (Fb1.other W4 (Or.inl ham)), ⟨_, (Fs1.other W4 (Or.inl ham))⟩, ⟨_, Vn⟩, (Or.inr rfl), hq2⟩
  · refine OGo.by_ (fun t k => XS.ifYes X0.here hx rfl (pc0 := 5) (pc' := 20) rfl (hb hby d_stp_5) rfl ((if0 _ _).trans (feq hc5).2) (by decide) (by decide) k) ?_
    show OGo p e below _ (s₁.setTop (mkF m 20 #[.val (.ref a), .val (.ref mm), .val (.int p1), .val (.int (p1 % (5 : Int32))), .unset, .unset, .unset] []))
    refine OGo.by_ (fun t k => XS.iloadN X0.here hx rfl (hb hby d_stp_20) rfl k) ?_
    show OGo p e below _ (s₁.setTop (mkF m 21 #[.val (.ref a), .val (.ref mm), .val (.int p1), .val (.int (p1 % (5 : Int32))), .unset, .unset, .unset] [(.int (p1 % (5 : Int32)))]))
    refine OGo.by_ (fun t k => XS.iconst X0.here hx rfl (hb hby d_stp_21) k) ?_
    show OGo p e below _ (s₁.setTop (mkF m 22 #[.val (.ref a), .val (.ref mm), .val (.int p1), .val (.int (p1 % (5 : Int32))), .unset, .unset, .unset] [(.int (1 : Int32)), (.int (p1 % (5 : Int32)))]))
    by_cases hc22 : (p1 % (5 : Int32)) = (1 : Int32)
    · refine OGo.by_ (fun t k => XS.icmpNo X0.here hx rfl (hb hby d_stp_22) rfl (teq hc22).2 k) ?_
      show OGo p e below _ (s₁.setTop (mkF m 25 #[.val (.ref a), .val (.ref mm), .val (.int p1), .val (.int (p1 % (5 : Int32))), .unset, .unset, .unset] []))
      refine OGo.by_ (fun t k => XS.aloadN X0.here hx rfl (hb hby d_stp_25) rfl rfl k) ?_
      show OGo p e below _ (s₁.setTop (mkF m 26 #[.val (.ref a), .val (.ref mm), .val (.int p1), .val (.int (p1 % (5 : Int32))), .unset, .unset, .unset] [(.ref a)]))
      refine OGo.by_ (fun t k => XS.iconst X0.here hx rfl (hb hby d_stp_26) k) ?_
      show OGo p e below _ (s₁.setTop (mkF m 27 #[.val (.ref a), .val (.ref mm), .val (.int p1), .val (.int (p1 % (5 : Int32))), .unset, .unset, .unset] [(.int (0 : Int32)), (.ref a)]))
      obtain ⟨cq6, kq6, qa6, qb6, qc6⟩ := isOf hZ e0 Ex
      obtain ⟨_, _, ⟨T5, L5, k5, n5⟩, -, X5, ⟨Lc5, hQ5, l5, y5, z5⟩, st5⟩ := X0.virtualBack hx (y := (⟨"com/example/intercept_rows/interceptrows/engine/Session", "noteAutoCommit", "(Z)V"⟩ : MethodName)) (z := (⟨"com/example/intercept_rows/interceptrows/engine/Session", "noteAutoCommit", "(Z)V"⟩ : MethodName)) hown (mvT hZ (hw _ (List.mem_of_getElem? (i := 141) rfl))) (mvT hZ (hw _ (List.mem_of_getElem? (i := 142) rfl))) (notFace_of_selects (args := #[]) (mvT hZ (hw _ (List.mem_of_getElem? (i := 144) rfl)))) (mvT hZ (hw _ (List.mem_of_getElem? (i := 144) rfl))) (mvT hZ (hw _ (List.mem_of_getElem? (i := 143) rfl))) (by decide) (backOf (W := 0) (rm_note l Z a0 hw [] a u1 u2 sp (0 : Int32) h0 n0 Z0 Ex ga Fa Fb Fs) hZ (hw _ (List.mem_of_getElem? (i := 145) rfl)) (hw _ (List.mem_of_getElem? (i := 2) rfl)) (by decide) (by decide)) qa6 qc6 (g := (mkF m 27 #[.val (.ref a), .val (.ref mm), .val (.int p1), .val (.int (p1 % (5 : Int32))), .unset, .unset, .unset] [(.int (0 : Int32)), (.ref a)])) rfl (by rw [hml]; rfl) (Steps.refl _) (argsL := [(.int (0 : Int32))]) (rest := []) (lenOf pd_oZcV rfl) rfl (by show 2 * 0 + _ ≤ _; exact Nat.le_of_eq rfl) (hb hby d_stp_27) (fun _ _ => ⟨rfl, e0, (by decide : 0 + 0 ≤ _), (by decide : 0 + 0 ≤ _)⟩)
      dsimp only [Pt.U, Pt.locs, Pt.cells, Pt.slots] at X5 l5 y5 z5 st5 hQ5
      subst l5 y5 z5
      obtain ⟨rfl, Nq5, K5, Ex5, Fa5, Fb5, Fs5⟩ := hQ5
      have N5 := Fr.app N0 Nq5
      refine OGo.by_ (fun t k => st5.trans k) ?_
      show OGo p e below _ (T5.setTop (mkF m 30 #[.val (.ref a), .val (.ref mm), .val (.int p1), .val (.int (p1 % (5 : Int32))), .unset, .unset, .unset] []))
      have Vm5 := Vm.keep K5 (own_nin1 ham.symm)
      have Z1 : n0 ≤ T5.heap.size := Nat.le_trans Z0 K5.1
      refine OGo.by_ (fun t k => XS.aloadN X5.here hx rfl (hb hby d_stp_30) rfl rfl k) ?_
      show OGo p e below _ (T5.setTop (mkF m 31 #[.val (.ref a), .val (.ref mm), .val (.int p1), .val (.int (p1 % (5 : Int32))), .unset, .unset, .unset] [(.ref mm)]))
      refine OGo.by_ (fun t k => XS.iconst X5.here hx rfl (hb hby d_stp_31) k) ?_
      show OGo p e below _ (T5.setTop (mkF m 32 #[.val (.ref a), .val (.ref mm), .val (.int p1), .val (.int (p1 % (5 : Int32))), .unset, .unset, .unset] [(.int (0 : Int32)), (.ref mm)]))
      refine OGo.by_ (fun t k => XS.iconst X5.here hx rfl (hb hby d_stp_32) k) ?_
      show OGo p e below _ (T5.setTop (mkF m 33 #[.val (.ref a), .val (.ref mm), .val (.int p1), .val (.int (p1 % (5 : Int32))), .unset, .unset, .unset] [(.int (0 : Int32)), (.int (0 : Int32)), (.ref mm)]))
      obtain ⟨cl7, Ar7, q7, S7, Nn7, H7, G7⟩ := id Vm5
      obtain ⟨T8, h8, X8, e8, W8, st8⟩ := stZ X5 hx hZ rfl Ar7 (j := (0 : Int32)) (inb_of S7 ⟨(by decide : ¬ (0 : Int32) < 0), (by decide : (0 : Int32) < (2 : Int32))⟩) (g := (mkF m 33 #[.val (.ref a), .val (.ref mm), .val (.int p1), .val (.int (p1 % (5 : Int32))), .unset, .unset, .unset] [(.int (0 : Int32)), (.int (0 : Int32)), (.ref mm)])) rfl rfl (hb hby d_stp_33)
      refine OGo.by_ st8 ?_
      show OGo p e below _ (T8.setTop (mkF m 34 #[.val (.ref a), .val (.ref mm), .val (.int p1), .val (.int (p1 % (5 : Int32))), .unset, .unset, .unset] []))
      have N8 := Fr.snoc X8 N5 gm
      have Vn := Arv.set Ar7 q7 S7 Nn7 H7 G7 (v := .int (0 : Int32)) (by decide) W8 0 (by decide) (Nat.le_of_ble_eq_true rfl)
      have Z2 : n0 ≤ h8.size := by rw [W8.size]; exact Z1
      refine OGo.by_ (fun t k => XS.goto X8.here hx rfl (pc0 := 34) (pc' := 73) rfl (hb hby d_stp_34) (by decide) (by decide) k) ?_
      show OGo p e below _ (T8.setTop (mkF m 73 #[.val (.ref a), .val (.ref mm), .val (.int p1), .val (.int (p1 % (5 : Int32))), .unset, .unset, .unset] []))
      exact sg_st73 X8 hx hZ hw hby hml hown hnm hlk hret e8 N8 Z2 (by rw [W8.size]; exact K5.1) ⟨(Ex5.wr W8), (Fa5.other W8 (Or.inl ham)), (Fb5.other W8 (Or.inl ham)), ⟨_, (Fs5.other W8 (Or.inl ham))⟩, ⟨_, Vn⟩, (Or.inl rfl), hq2⟩
    · refine OGo.by_ (fun t k => XS.icmpYes X0.here hx rfl (pc0 := 22) (pc' := 37) rfl (hb hby d_stp_22) rfl (feq hc22).2 (by decide) (by decide) k) ?_
      show OGo p e below _ (s₁.setTop (mkF m 37 #[.val (.ref a), .val (.ref mm), .val (.int p1), .val (.int (p1 % (5 : Int32))), .unset, .unset, .unset] []))
      refine OGo.by_ (fun t k => XS.iloadN X0.here hx rfl (hb hby d_stp_37) rfl k) ?_
      show OGo p e below _ (s₁.setTop (mkF m 38 #[.val (.ref a), .val (.ref mm), .val (.int p1), .val (.int (p1 % (5 : Int32))), .unset, .unset, .unset] [(.int (p1 % (5 : Int32)))]))
      refine OGo.by_ (fun t k => XS.iconst X0.here hx rfl (hb hby d_stp_38) k) ?_
      show OGo p e below _ (s₁.setTop (mkF m 39 #[.val (.ref a), .val (.ref mm), .val (.int p1), .val (.int (p1 % (5 : Int32))), .unset, .unset, .unset] [(.int (2 : Int32)), (.int (p1 % (5 : Int32)))]))
      by_cases hc39 : (p1 % (5 : Int32)) = (2 : Int32)
      · refine OGo.by_ (fun t k => XS.icmpNo X0.here hx rfl (hb hby d_stp_39) rfl (teq hc39).2 k) ?_
        show OGo p e below _ (s₁.setTop (mkF m 42 #[.val (.ref a), .val (.ref mm), .val (.int p1), .val (.int (p1 % (5 : Int32))), .unset, .unset, .unset] []))
        refine OGo.by_ (fun t k => XS.aloadN X0.here hx rfl (hb hby d_stp_42) rfl rfl k) ?_
        show OGo p e below _ (s₁.setTop (mkF m 43 #[.val (.ref a), .val (.ref mm), .val (.int p1), .val (.int (p1 % (5 : Int32))), .unset, .unset, .unset] [(.ref a)]))
        obtain ⟨cq10, kq10, qa10, qb10, qc10⟩ := isOf hZ e0 Ex
        obtain ⟨_, _, ⟨T9, L9, k9, n9⟩, -, X9, ⟨Lc9, hQ9, l9, y9, z9⟩, st9⟩ := X0.virtualBack hx (y := (⟨"com/example/intercept_rows/interceptrows/engine/Session", "begin", "()V"⟩ : MethodName)) (z := (⟨"com/example/intercept_rows/interceptrows/engine/Session", "begin", "()V"⟩ : MethodName)) hown (mvT hZ (hw _ (List.mem_of_getElem? (i := 158) rfl))) (mvT hZ (hw _ (List.mem_of_getElem? (i := 159) rfl))) (notFace_of_selects (args := #[]) (mvT hZ (hw _ (List.mem_of_getElem? (i := 161) rfl)))) (mvT hZ (hw _ (List.mem_of_getElem? (i := 161) rfl))) (mvT hZ (hw _ (List.mem_of_getElem? (i := 160) rfl))) (by decide) (backOf (W := 0) (rm_beg l Z a0 hw [] a u1 u2 sp  h0 n0 Z0 Ex ga Fa Fb Fs) hZ (hw _ (List.mem_of_getElem? (i := 162) rfl)) (hw _ (List.mem_of_getElem? (i := 2) rfl)) (by decide) (by decide)) qa10 qc10 (g := (mkF m 43 #[.val (.ref a), .val (.ref mm), .val (.int p1), .val (.int (p1 % (5 : Int32))), .unset, .unset, .unset] [(.ref a)])) rfl (by rw [hml]; rfl) (Steps.refl _) (argsL := []) (rest := []) (lenOf pd_ocV rfl) rfl (by show 2 * 0 + _ ≤ _; exact Nat.le_of_eq rfl) (hb hby d_stp_43) (fun _ _ => ⟨rfl, e0, (by decide : 0 + 0 ≤ _), (by decide : 0 + 0 ≤ _)⟩)
        dsimp only [Pt.U, Pt.locs, Pt.cells, Pt.slots] at X9 l9 y9 z9 st9 hQ9
        subst l9 y9 z9
        obtain ⟨rfl, Nq9, K9, Ex9, Fa9, Fb9, Fs9⟩ := hQ9
        have N9 := Fr.app N0 Nq9
        refine OGo.by_ (fun t k => st9.trans k) ?_
        show OGo p e below _ (T9.setTop (mkF m 46 #[.val (.ref a), .val (.ref mm), .val (.int p1), .val (.int (p1 % (5 : Int32))), .unset, .unset, .unset] []))
        have Vm9 := Vm.keep K9 (own_nin1 ham.symm)
        have Z1 : n0 ≤ T9.heap.size := Nat.le_trans Z0 K9.1
        refine OGo.by_ (fun t k => XS.aloadN X9.here hx rfl (hb hby d_stp_46) rfl rfl k) ?_
        show OGo p e below _ (T9.setTop (mkF m 47 #[.val (.ref a), .val (.ref mm), .val (.int p1), .val (.int (p1 % (5 : Int32))), .unset, .unset, .unset] [(.ref mm)]))
        refine OGo.by_ (fun t k => XS.iconst X9.here hx rfl (hb hby d_stp_47) k) ?_
        show OGo p e below _ (T9.setTop (mkF m 48 #[.val (.ref a), .val (.ref mm), .val (.int p1), .val (.int (p1 % (5 : Int32))), .unset, .unset, .unset] [(.int (1 : Int32)), (.ref mm)]))
        refine OGo.by_ (fun t k => XS.iconst X9.here hx rfl (hb hby d_stp_48) k) ?_
        show OGo p e below _ (T9.setTop (mkF m 49 #[.val (.ref a), .val (.ref mm), .val (.int p1), .val (.int (p1 % (5 : Int32))), .unset, .unset, .unset] [(.int (1 : Int32)), (.int (1 : Int32)), (.ref mm)]))
        obtain ⟨cl11, Ar11, q11, S11, Nn11, H11, G11⟩ := id Vm9
        obtain ⟨T12, h12, X12, e12, W12, st12⟩ := stZ X9 hx hZ rfl Ar11 (j := (1 : Int32)) (inb_of S11 ⟨(by decide : ¬ (1 : Int32) < 0), (by decide : (1 : Int32) < (2 : Int32))⟩) (g := (mkF m 49 #[.val (.ref a), .val (.ref mm), .val (.int p1), .val (.int (p1 % (5 : Int32))), .unset, .unset, .unset] [(.int (1 : Int32)), (.int (1 : Int32)), (.ref mm)])) rfl rfl (hb hby d_stp_49)
        refine OGo.by_ st12 ?_
        show OGo p e below _ (T12.setTop (mkF m 50 #[.val (.ref a), .val (.ref mm), .val (.int p1), .val (.int (p1 % (5 : Int32))), .unset, .unset, .unset] []))
        have N12 := Fr.snoc X12 N9 gm
        have Vn := Arv.set Ar11 q11 S11 Nn11 H11 G11 (v := .int (1 : Int32)) (by decide) W12 1 (by decide) (Nat.le_of_ble_eq_true rfl)
        have Z2 : n0 ≤ h12.size := by rw [W12.size]; exact Z1
        refine OGo.by_ (fun t k => XS.goto X12.here hx rfl (pc0 := 50) (pc' := 73) rfl (hb hby d_stp_50) (by decide) (by decide) k) ?_
        show OGo p e below _ (T12.setTop (mkF m 73 #[.val (.ref a), .val (.ref mm), .val (.int p1), .val (.int (p1 % (5 : Int32))), .unset, .unset, .unset] []))
        exact sg_st73 X12 hx hZ hw hby hml hown hnm hlk hret e12 N12 Z2 (by rw [W12.size]; exact K9.1) ⟨(Ex9.wr W12), (Fa9.other W12 (Or.inl ham)), (Fb9.other W12 (Or.inl ham)), ⟨_, (Fs9.other W12 (Or.inl ham))⟩, ⟨_, Vn⟩, hq1, (Or.inr rfl)⟩
      · refine OGo.by_ (fun t k => XS.icmpYes X0.here hx rfl (pc0 := 39) (pc' := 53) rfl (hb hby d_stp_39) rfl (feq hc39).2 (by decide) (by decide) k) ?_
        show OGo p e below _ (s₁.setTop (mkF m 53 #[.val (.ref a), .val (.ref mm), .val (.int p1), .val (.int (p1 % (5 : Int32))), .unset, .unset, .unset] []))
        refine OGo.by_ (fun t k => XS.iloadN X0.here hx rfl (hb hby d_stp_53) rfl k) ?_
        show OGo p e below _ (s₁.setTop (mkF m 54 #[.val (.ref a), .val (.ref mm), .val (.int p1), .val (.int (p1 % (5 : Int32))), .unset, .unset, .unset] [(.int (p1 % (5 : Int32)))]))
        refine OGo.by_ (fun t k => XS.iconst X0.here hx rfl (hb hby d_stp_54) k) ?_
        show OGo p e below _ (s₁.setTop (mkF m 55 #[.val (.ref a), .val (.ref mm), .val (.int p1), .val (.int (p1 % (5 : Int32))), .unset, .unset, .unset] [(.int (3 : Int32)), (.int (p1 % (5 : Int32)))]))
        by_cases hc55 : (p1 % (5 : Int32)) = (3 : Int32)
        · refine OGo.by_ (fun t k => XS.icmpNo X0.here hx rfl (hb hby d_stp_55) rfl (teq hc55).2 k) ?_
          show OGo p e below _ (s₁.setTop (mkF m 58 #[.val (.ref a), .val (.ref mm), .val (.int p1), .val (.int (p1 % (5 : Int32))), .unset, .unset, .unset] []))
          refine OGo.by_ (fun t k => XS.aloadN X0.here hx rfl (hb hby d_stp_58) rfl rfl k) ?_
          show OGo p e below _ (s₁.setTop (mkF m 59 #[.val (.ref a), .val (.ref mm), .val (.int p1), .val (.int (p1 % (5 : Int32))), .unset, .unset, .unset] [(.ref a)]))
          obtain ⟨cq14, kq14, qa14, qb14, qc14⟩ := isOf hZ e0 Ex
          obtain ⟨_, _, ⟨T13, L13, k13, n13⟩, -, X13, ⟨Lc13, hQ13, l13, y13, z13⟩, st13⟩ := X0.virtualBack hx (y := (⟨"com/example/intercept_rows/interceptrows/engine/Session", "endTransaction", "()V"⟩ : MethodName)) (z := (⟨"com/example/intercept_rows/interceptrows/engine/Session", "endTransaction", "()V"⟩ : MethodName)) hown (mvT hZ (hw _ (List.mem_of_getElem? (i := 146) rfl))) (mvT hZ (hw _ (List.mem_of_getElem? (i := 147) rfl))) (notFace_of_selects (args := #[]) (mvT hZ (hw _ (List.mem_of_getElem? (i := 149) rfl)))) (mvT hZ (hw _ (List.mem_of_getElem? (i := 149) rfl))) (mvT hZ (hw _ (List.mem_of_getElem? (i := 148) rfl))) (by decide) (backOf (W := 0) (rm_endt l Z a0 hw [] a u1 u2 sp  h0 n0 Z0 Ex ga Fa Fb Fs) hZ (hw _ (List.mem_of_getElem? (i := 150) rfl)) (hw _ (List.mem_of_getElem? (i := 2) rfl)) (by decide) (by decide)) qa14 qc14 (g := (mkF m 59 #[.val (.ref a), .val (.ref mm), .val (.int p1), .val (.int (p1 % (5 : Int32))), .unset, .unset, .unset] [(.ref a)])) rfl (by rw [hml]; rfl) (Steps.refl _) (argsL := []) (rest := []) (lenOf pd_ocV rfl) rfl (by show 2 * 0 + _ ≤ _; exact Nat.le_of_eq rfl) (hb hby d_stp_59) (fun _ _ => ⟨rfl, e0, (by decide : 0 + 0 ≤ _), (by decide : 0 + 0 ≤ _)⟩)
          dsimp only [Pt.U, Pt.locs, Pt.cells, Pt.slots] at X13 l13 y13 z13 st13 hQ13
          subst l13 y13 z13
          obtain ⟨rfl, Nq13, K13, Ex13, Fa13, Fb13, Fs13⟩ := hQ13
          have N13 := Fr.app N0 Nq13
          refine OGo.by_ (fun t k => st13.trans k) ?_
          show OGo p e below _ (T13.setTop (mkF m 62 #[.val (.ref a), .val (.ref mm), .val (.int p1), .val (.int (p1 % (5 : Int32))), .unset, .unset, .unset] []))
          have Vm13 := Vm.keep K13 (own_nin1 ham.symm)
          have Z1 : n0 ≤ T13.heap.size := Nat.le_trans Z0 K13.1
          refine OGo.by_ (fun t k => XS.aloadN X13.here hx rfl (hb hby d_stp_62) rfl rfl k) ?_
          show OGo p e below _ (T13.setTop (mkF m 63 #[.val (.ref a), .val (.ref mm), .val (.int p1), .val (.int (p1 % (5 : Int32))), .unset, .unset, .unset] [(.ref mm)]))
          refine OGo.by_ (fun t k => XS.iconst X13.here hx rfl (hb hby d_stp_63) k) ?_
          show OGo p e below _ (T13.setTop (mkF m 64 #[.val (.ref a), .val (.ref mm), .val (.int p1), .val (.int (p1 % (5 : Int32))), .unset, .unset, .unset] [(.int (1 : Int32)), (.ref mm)]))
          refine OGo.by_ (fun t k => XS.iconst X13.here hx rfl (hb hby d_stp_64) k) ?_
          show OGo p e below _ (T13.setTop (mkF m 65 #[.val (.ref a), .val (.ref mm), .val (.int p1), .val (.int (p1 % (5 : Int32))), .unset, .unset, .unset] [(.int (0 : Int32)), (.int (1 : Int32)), (.ref mm)]))
          obtain ⟨cl15, Ar15, q15, S15, Nn15, H15, G15⟩ := id Vm13
          obtain ⟨T16, h16, X16, e16, W16, st16⟩ := stZ X13 hx hZ rfl Ar15 (j := (1 : Int32)) (inb_of S15 ⟨(by decide : ¬ (1 : Int32) < 0), (by decide : (1 : Int32) < (2 : Int32))⟩) (g := (mkF m 65 #[.val (.ref a), .val (.ref mm), .val (.int p1), .val (.int (p1 % (5 : Int32))), .unset, .unset, .unset] [(.int (0 : Int32)), (.int (1 : Int32)), (.ref mm)])) rfl rfl (hb hby d_stp_65)
          refine OGo.by_ st16 ?_
          show OGo p e below _ (T16.setTop (mkF m 66 #[.val (.ref a), .val (.ref mm), .val (.int p1), .val (.int (p1 % (5 : Int32))), .unset, .unset, .unset] []))
          have N16 := Fr.snoc X16 N13 gm
          have Vn := Arv.set Ar15 q15 S15 Nn15 H15 G15 (v := .int (0 : Int32)) (by decide) W16 1 (by decide) (Nat.le_of_ble_eq_true rfl)
          have Z2 : n0 ≤ h16.size := by rw [W16.size]; exact Z1
          refine OGo.by_ (fun t k => XS.goto X16.here hx rfl (pc0 := 66) (pc' := 73) rfl (hb hby d_stp_66) (by decide) (by decide) k) ?_
          show OGo p e below _ (T16.setTop (mkF m 73 #[.val (.ref a), .val (.ref mm), .val (.int p1), .val (.int (p1 % (5 : Int32))), .unset, .unset, .unset] []))
          exact sg_st73 X16 hx hZ hw hby hml hown hnm hlk hret e16 N16 Z2 (by rw [W16.size]; exact K13.1) ⟨(Ex13.wr W16), (Fa13.other W16 (Or.inl ham)), (Fb13.other W16 (Or.inl ham)), ⟨_, (Fs13.other W16 (Or.inl ham))⟩, ⟨_, Vn⟩, hq1, (Or.inl rfl)⟩
        · refine OGo.by_ (fun t k => XS.icmpYes X0.here hx rfl (pc0 := 55) (pc' := 69) rfl (hb hby d_stp_55) rfl (feq hc55).2 (by decide) (by decide) k) ?_
          show OGo p e below _ (s₁.setTop (mkF m 69 #[.val (.ref a), .val (.ref mm), .val (.int p1), .val (.int (p1 % (5 : Int32))), .unset, .unset, .unset] []))
          refine OGo.by_ (fun t k => XS.aloadN X0.here hx rfl (hb hby d_stp_69) rfl rfl k) ?_
          show OGo p e below _ (s₁.setTop (mkF m 70 #[.val (.ref a), .val (.ref mm), .val (.int p1), .val (.int (p1 % (5 : Int32))), .unset, .unset, .unset] [(.ref a)]))
          obtain ⟨cq18, kq18, qa18, qb18, qc18⟩ := isOf hZ e0 Ex
          obtain ⟨_, _, ⟨T17, L17, k17, n17⟩, -, X17, ⟨Lc17, hQ17, l17, y17, z17⟩, st17⟩ := X0.virtualBack hx (y := (⟨"com/example/intercept_rows/interceptrows/engine/Session", "spoil", "()V"⟩ : MethodName)) (z := (⟨"com/example/intercept_rows/interceptrows/engine/Session", "spoil", "()V"⟩ : MethodName)) hown (mvT hZ (hw _ (List.mem_of_getElem? (i := 153) rfl))) (mvT hZ (hw _ (List.mem_of_getElem? (i := 154) rfl))) (notFace_of_selects (args := #[]) (mvT hZ (hw _ (List.mem_of_getElem? (i := 156) rfl)))) (mvT hZ (hw _ (List.mem_of_getElem? (i := 156) rfl))) (mvT hZ (hw _ (List.mem_of_getElem? (i := 155) rfl))) (by decide) (backOf (W := 0) (rm_spo l Z a0 hw [] a u1 u2 sp  h0 n0 Z0 Ex ga Fa Fb Fs) hZ (hw _ (List.mem_of_getElem? (i := 157) rfl)) (hw _ (List.mem_of_getElem? (i := 2) rfl)) (by decide) (by decide)) qa18 qc18 (g := (mkF m 70 #[.val (.ref a), .val (.ref mm), .val (.int p1), .val (.int (p1 % (5 : Int32))), .unset, .unset, .unset] [(.ref a)])) rfl (by rw [hml]; rfl) (Steps.refl _) (argsL := []) (rest := []) (lenOf pd_ocV rfl) rfl (by show 2 * 0 + _ ≤ _; exact Nat.le_of_eq rfl) (hb hby d_stp_70) (fun _ _ => ⟨rfl, e0, (by decide : 0 + 0 ≤ _), (by decide : 0 + 0 ≤ _)⟩)
          dsimp only [Pt.U, Pt.locs, Pt.cells, Pt.slots] at X17 l17 y17 z17 st17 hQ17
          subst l17 y17 z17
          obtain ⟨rfl, Nq17, K17, Ex17, Fa17, Fb17, Fs17⟩ := hQ17
          have N17 := Fr.app N0 Nq17
          refine OGo.by_ (fun t k => st17.trans k) ?_
          show OGo p e below _ (T17.setTop (mkF m 73 #[.val (.ref a), .val (.ref mm), .val (.int p1), .val (.int (p1 % (5 : Int32))), .unset, .unset, .unset] []))
          have Vm17 := Vm.keep K17 (own_nin1 ham.symm)
          have Z1 : n0 ≤ T17.heap.size := Nat.le_trans Z0 K17.1
          exact sg_st73 X17 hx hZ hw hby hml hown hnm hlk hret rfl N17 Z1 K17.1 ⟨Ex17, Fa17, Fb17, ⟨_, Fs17⟩, ⟨_, Vm17⟩, hq1, hq2⟩
theorem pd_oLcom_example_intercept_rows_interceptrows_engine_Database_cV : parseMethodDescriptor "(Lcom/example/intercept_rows/interceptrows/engine/Database;)V" = some ⟨[(.object "com/example/intercept_rows/interceptrows/engine/Database")], none⟩ := by decide +kernel
theorem pd_oLcom_example_intercept_rows_interceptrows_engine_Session_AZIcZ : parseMethodDescriptor "(Lcom/example/intercept_rows/interceptrows/engine/Session;[ZI)Z" = some ⟨[(.object "com/example/intercept_rows/interceptrows/engine/Session"), (.array .boolean), .int], some .boolean⟩ := by decide +kernel
theorem ef_law (m : MethodId) (x0 : Int32) : entryFrame m #[(.int x0)] maxLocals = mkF m 0 #[.val (.int x0), .unset, .unset, .unset] [] := by first | (simp [entryFrame, mkF, argsToLocals, Value.category, maxLocals]; done) | rfl
def Q_law (Z : State) (p1 : Int32) (dd lw : Addr) (h0 : Heap) (n0 : Nat) (v : Option Value) (h : Heap) (L : List Loc) : Prop := v = some (.int 1) ∧ Fr n0 L
set_option maxRecDepth 65536 in
set_option maxHeartbeats 40000000 in
theorem rm_law (l : Launch) (Z : State) (a0 : Array Value) (hw : ∀ d ∈ tables_1, d.before a0 Z = true) (ws : List Jvm.Cond) (p1 : Int32) (dd lw : Addr) (h0 : Heap) (n0 : Nat) (Z0 : n0 ≤ h0.size) (SL : Sta Z h0 "com/example/intercept_rows/interceptrows/engine/Database" "LONGEST_LOCK_WAIT" "Ljava/time/Duration;" (.ref lw)) (Ed : Exa Z h0 dd "java/time/Duration") (El : Exa Z h0 lw "java/time/Duration") (Fds : Fld Z h0 dd "java/time/Duration" "seconds" "J" (.long (10 : Int64))) (Fdn : Fld Z h0 dd "java/time/Duration" "nanos" "I" (.int (0 : Int32))) (Fls : Fld Z h0 lw "java/time/Duration" "seconds" "J" (.long (9223372036 : Int64))) (SD : Sta Z h0 "com/example/intercept_rows/interceptrows/engine/Database" "DEFAULT_LOCK_WAIT" "Ljava/time/Duration;" (.ref dd)) :
    MetFree l x (head1 (Jvm.Cond.code x code maxLocals ret :: ws) room_1) (fun a_ U => a_ = #[(.int p1)] ∧ Z.Warmed39 U.vm ∧ U.heap = h0) (fun _ _ _ _ _ => True) (fun _ U o U' => ∃ v L, o = .returned v ∧ Q_law Z p1 dd lw h0 n0 v U'.heap L ∧ ReturnedEndW U o U' L room_1.cells room_1.slots) := by
  refine MetFree.of_bodySF (plainFor_of_name pn_com_example_intercept_rows_interceptrows_engine_SessionInTransactionPinLaw) hisR ?_
  intro p e s m args below meth c s₁ Bd hml0 hP hK
  obtain ⟨rfl, hZ, hh⟩ := hP
  have hx := Bd.exec
  have hby := Bd.bytes
  have hml : c.maxLocals = 4 := hml0
  have hown : s.vm.findClass "com/example/intercept_rows/interceptrows/engine/SessionInTransactionPinLaw" = some m.cls := findClass_of_methodNamed Bd.named
  have hnm := (name_of_methodNamed Bd.named Bd.method).1
  have X0 : Stand p l e room_1 s m #[(.int p1)] below meth c s₁ [] 0 0 := Stand.of_body Bd
  have e0 : s₁.heap = h0 := by rw [← hh, Bd.state]; rfl
  have N0 := Fr.nil n0
  have hlk := Bd.notSynchronized
  have hret := Bd.returns
  show OGo p e below (OEndW s (Q_law Z p1 dd lw h0 n0) room_1.cells room_1.slots) (s₁.setTop (entryFrame m #[(.int p1)] maxLocals))
  rw [ef_law]
  show OGo p e below _ (s₁.setTop (mkF m 0 #[.val (.int p1), .unset, .unset, .unset] []))
  have X0 : Stand p l e room_1 (s.setVm s.vm) m #[(.int p1)] below meth c s₁ [] 0 0 := X0
  have hZ : Z.Warmed39 (s.setVm s.vm).vm := hZ
  have hown : (s.setVm s.vm).vm.findClass "com/example/intercept_rows/interceptrows/engine/SessionInTransactionPinLaw" = some m.cls := hown
  have hS : s.Since s.vm s.heap.size := (State.WarmedH.refl s).since _
  have hk : s.heap.size ≤ h0.size := by rw [hh]; exact Nat.le_refl _
  obtain ⟨T1, h1, X1, e1, E1, A1, Dv1, -, st1⟩ := newO X0 hx hZ hown (hw _ (List.mem_of_getElem? (i := 0) rfl)) (hw _ (List.mem_of_getElem? (i := 1) rfl)) (hw _ (List.mem_of_getElem? (i := 2) rfl)) e0 (g := (mkF m 0 #[.val (.int p1), .unset, .unset, .unset] [])) rfl (hb hby at_0) (by decide) (by decide)
  obtain ⟨a, g_a⟩ : ∃ z, z = h0.size := ⟨_, rfl⟩
  rw [← g_a] at A1 Dv1 st1
  have A_a := A1
  have lt_a := own_lt A1.lt
  have F_variables_a : Fld Z h1 a "com/example/intercept_rows/interceptrows/engine/Session" "variables" "Lcom/example/intercept_rows/interceptrows/engine/UserVariables;" .null := Dv1 (Or.inr (hw _ (List.mem_of_getElem? (i := 110) rfl))) (ty := (.object "com/example/intercept_rows/interceptrows/engine/UserVariables")) (by decide)
  have F_autoCommit_a : Fld Z h1 a "com/example/intercept_rows/interceptrows/engine/Session" "autoCommit" "Z" (.int (0 : Int32)) := Dv1 (Or.inl (hw _ (List.mem_of_getElem? (i := 112) rfl))) (ty := .boolean) (by decide)
  have F_database_a : Fld Z h1 a "com/example/intercept_rows/interceptrows/engine/Session" "database" "Lcom/example/intercept_rows/interceptrows/engine/Database;" .null := Dv1 (Or.inr (hw _ (List.mem_of_getElem? (i := 128) rfl))) (ty := (.object "com/example/intercept_rows/interceptrows/engine/Database")) (by decide)
  have F_begun_a : Fld Z h1 a "com/example/intercept_rows/interceptrows/engine/Session" "begun" "Z" (.int (0 : Int32)) := Dv1 (Or.inl (hw _ (List.mem_of_getElem? (i := 136) rfl))) (ty := .boolean) (by decide)
  have F_spoiled_a : Fld Z h1 a "com/example/intercept_rows/interceptrows/engine/Session" "spoiled" "Z" (.int (0 : Int32)) := Dv1 (Or.inl (hw _ (List.mem_of_getElem? (i := 152) rfl))) (ty := .boolean) (by decide)
  have hk := Nat.le_trans hk E1.1
  refine OGo.by_ st1 ?_
  show OGo p e below _ (T1.setTop (mkF m 3 #[.val (.int p1), .unset, .unset, .unset] [(.ref a)]))
  refine OGo.by_ (fun t k => XS.dup X1.here hx rfl (hb hby at_3) rfl rfl k) ?_
  show OGo p e below _ (T1.setTop (mkF m 4 #[.val (.int p1), .unset, .unset, .unset] [(.ref a), (.ref a)]))
  obtain ⟨T2, h2, X2, e2, E2, A2, Dv2, -, st2⟩ := newO X1 hx hZ hown (hw _ (List.mem_of_getElem? (i := 3) rfl)) (hw _ (List.mem_of_getElem? (i := 4) rfl)) (hw _ (List.mem_of_getElem? (i := 5) rfl)) e1 (g := (mkF m 4 #[.val (.int p1), .unset, .unset, .unset] [(.ref a), (.ref a)])) rfl (hb hby at_4) (by decide) (by decide)
  obtain ⟨db, g_db⟩ : ∃ z, z = h1.size := ⟨_, rfl⟩
  rw [← g_db] at A2 Dv2 st2
  have A_db := A2
  have lt_db := own_lt A2.lt
  have F_relations_db : Fld Z h2 db "com/example/intercept_rows/interceptrows/engine/Database" "relations" "Ljava/util/Map;" .null := Dv2 (Or.inr (hw _ (List.mem_of_getElem? (i := 34) rfl))) (ty := (.object "java/util/Map")) (by decide)
  have F_functions_db : Fld Z h2 db "com/example/intercept_rows/interceptrows/engine/Database" "functions" "Ljava/util/Map;" .null := Dv2 (Or.inr (hw _ (List.mem_of_getElem? (i := 36) rfl))) (ty := (.object "java/util/Map")) (by decide)
  have F_lock_db : Fld Z h2 db "com/example/intercept_rows/interceptrows/engine/Database" "lock" "Lcom/example/intercept_rows/interceptrows/engine/DatabaseLock;" .null := Dv2 (Or.inr (hw _ (List.mem_of_getElem? (i := 45) rfl))) (ty := (.object "com/example/intercept_rows/interceptrows/engine/DatabaseLock")) (by decide)
  have F_nesting_db : Fld Z h2 db "com/example/intercept_rows/interceptrows/engine/Database" "nesting" "Lcom/example/intercept_rows/interceptrows/engine/TriggerNesting;" .null := Dv2 (Or.inr (hw _ (List.mem_of_getElem? (i := 54) rfl))) (ty := (.object "com/example/intercept_rows/interceptrows/engine/TriggerNesting")) (by decide)
  have F_lockWaitNanos_db : Fld Z h2 db "com/example/intercept_rows/interceptrows/engine/Database" "lockWaitNanos" "J" (.long (0 : Int64)) := Dv2 (Or.inr (hw _ (List.mem_of_getElem? (i := 93) rfl))) (ty := .long) (by decide)
  have hk := Nat.le_trans hk E2.1
  refine OGo.by_ st2 ?_
  show OGo p e below _ (T2.setTop (mkF m 7 #[.val (.int p1), .unset, .unset, .unset] [(.ref db), (.ref a), (.ref a)]))
  have Z1 : n0 ≤ h2.size := Nat.le_trans (Nat.le_trans Z0 E1.1) E2.1
  have A2 := A_a.ext E2
  have Fx_variables := F_variables_a.ext E2
  have Fx_autoCommit := F_autoCommit_a.ext E2
  have Fx_begun := F_begun_a.ext E2
  have Fx_spoiled := F_spoiled_a.ext E2
  have Fx_database := F_database_a.ext E2
  have d_lt : h0.size > dd := Ed.lt
  have l_lt : h0.size > lw := El.lt
  have SL2 := Sta.ext E2 (Sta.ext E1 SL)
  have SD2 := Sta.ext E2 (Sta.ext E1 SD)
  have Ed2 := (Ed.ext E1).ext E2
  have El2 := (El.ext E1).ext E2
  have Fds2 := (Fds.ext E1).ext E2
  have Fdn2 := (Fdn.ext E1).ext E2
  have Fls2 := (Fls.ext E1).ext E2
  have hle := E1.1
  have gdb : n0 ≤ db := by omega
  have ga : n0 ≤ a := by omega
  have hadb : a ≠ db := own_ne (by omega)
  refine OGo.by_ (fun t k => XS.dup X2.here hx rfl (hb hby at_7) rfl rfl k) ?_
  show OGo p e below _ (T2.setTop (mkF m 8 #[.val (.int p1), .unset, .unset, .unset] [(.ref db), (.ref db), (.ref a), (.ref a)]))
  obtain ⟨_, _, ⟨T3, L3, k3, n3⟩, -, X3, ⟨Lc3, hQ3, l3, y3, z3⟩, st3⟩ := X2.specialBack hx (y := (⟨"com/example/intercept_rows/interceptrows/engine/Database", "<init>", "()V"⟩ : MethodName)) rfl hown (mvT hZ (hw _ (List.mem_of_getElem? (i := 6) rfl))) (mvT hZ (hw _ (List.mem_of_getElem? (i := 7) rfl))) (mvT hZ (hw _ (List.mem_of_getElem? (i := 8) rfl))) (by decide) (backOf (W := 3) (rm_db l Z a0 hw [] db dd lw h2 n0 Z1 A_db gdb F_relations_db F_functions_db F_lock_db F_nesting_db F_lockWaitNanos_db SL2 Ed2 El2 Fds2 Fdn2 Fls2 (own_ne (by omega)) (own_ne (by omega)) SD2) hZ (hw _ (List.mem_of_getElem? (i := 8) rfl)) (hw _ (List.mem_of_getElem? (i := 5) rfl)) (by decide) (by decide)) (g := (mkF m 8 #[.val (.int p1), .unset, .unset, .unset] [(.ref db), (.ref db), (.ref a), (.ref a)])) rfl (by rw [hml]; rfl) (Steps.refl _) (a := db) (argsL := []) (rest := [(.ref db), (.ref a), (.ref a)]) (lenOf pd_ocV rfl) rfl (by show 2 * 0 + _ ≤ _; exact Nat.le_of_eq rfl) (hb hby at_8) (fun _ _ => ⟨rfl, e2, (by decide : 2 + 4 ≤ _), (by decide : 17 + 20 ≤ _)⟩)
  dsimp only [Pt.U, Pt.locs, Pt.cells, Pt.slots] at X3 l3 y3 z3 st3 hQ3
  subst l3 y3 z3
  obtain ⟨rfl, Nq3, K3⟩ := hQ3
  have N3 := Fr.app N0 Nq3
  refine OGo.by_ (fun t k => st3.trans k) ?_
  show OGo p e below _ (T3.setTop (mkF m 11 #[.val (.int p1), .unset, .unset, .unset] [(.ref db), (.ref a), (.ref a)]))
  have hk := Nat.le_trans hk K3.1
  have Z2 : n0 ≤ T3.heap.size := Nat.le_trans Z1 K3.1
  have nn := own_nin1 hadb
  obtain ⟨_, _, ⟨T4, L4, k4, n4⟩, -, X4, hS2, hg2, ⟨Lc4, hQ4, l4, y4, z4⟩, st4⟩ := X3.specialBackS hx (y := (⟨"com/example/intercept_rows/interceptrows/engine/Session", "<init>", "(Lcom/example/intercept_rows/interceptrows/engine/Database;)V"⟩ : MethodName)) rfl hown (mvT hZ (hw _ (List.mem_of_getElem? (i := 94) rfl))) (mvT hZ (hw _ (List.mem_of_getElem? (i := 95) rfl))) (mvT hZ (hw _ (List.mem_of_getElem? (i := 96) rfl))) (by decide) (backOfS (W := 1) (rm_ses l Z a0 hw [] a db T3.heap n0 Z2 (A2.keep K3) ga (Fx_variables.keep K3 nn) (Fx_autoCommit.keep K3 nn) (Fx_begun.keep K3 nn) (Fx_spoiled.keep K3 nn) (Fx_database.keep K3 nn) (A_db.keep K3)) hZ (hw _ (List.mem_of_getElem? (i := 96) rfl)) (hw _ (List.mem_of_getElem? (i := 2) rfl)) (by decide) (by decide)) (g := (mkF m 11 #[.val (.int p1), .unset, .unset, .unset] [(.ref db), (.ref a), (.ref a)])) rfl (by rw [hml]; rfl) (Steps.refl _) (a := a) (argsL := [(.ref db)]) (rest := [(.ref a)]) (lenOf pd_oLcom_example_intercept_rows_interceptrows_engine_Database_cV rfl) rfl (by show 2 * 0 + _ ≤ _; exact Nat.le_of_eq rfl) (hb hby at_11) (fun _ _ => ⟨rfl, rfl, (by decide : 6 + 4 ≤ _), (by decide : 37 + 45 ≤ _)⟩)
  dsimp only [Pt.U, Pt.locs, Pt.cells, Pt.slots] at X4 l4 y4 z4 st4 hQ4 hS2 hg2
  subst l4 y4 z4
  obtain ⟨rfl, Nq4, K4, Ex4, Fa4, Fb4, Fs4⟩ := hQ4
  have N4 := Fr.app N3 Nq4
  obtain ⟨X4, hS, hZ, hown⟩ := rebS hS (show _ ≤ T3.heap.size by rw [show T3.heap = T3.heap from rfl]; exact hk) X4 hS2 hg2 hZ hown
  have hk := Nat.le_refl T4.heap.size
  refine OGo.by_ (fun t k => st4.trans k) ?_
  show OGo p e below _ (T4.setTop (mkF m 14 #[.val (.int p1), .unset, .unset, .unset] [(.ref a)]))
  refine OGo.by_ (fun t k => XS.astoreN X4.here hx rfl (hb hby at_14) rfl rfl (l' := #[.val (.int p1), .val (.ref a), .unset, .unset]) rfl k) ?_
  show OGo p e below _ (T4.setTop (mkF m 15 #[.val (.int p1), .val (.ref a), .unset, .unset] []))
  refine OGo.by_ (fun t k => XS.iconst X4.here hx rfl (hb hby at_15) k) ?_
  show OGo p e below _ (T4.setTop (mkF m 16 #[.val (.int p1), .val (.ref a), .unset, .unset] [(.int (2 : Int32))]))
  obtain ⟨T5, h5, k5, X5, e5, E5, A5, st5⟩ := newP X4 hx hZ (hw _ (List.mem_of_getElem? (i := 129) rfl)) rfl (g := (mkF m 16 #[.val (.int p1), .val (.ref a), .unset, .unset] [(.int (2 : Int32))])) rfl (hb hby at_16) rfl (by decide) (cap := 2) (by decide) (by decide) (by decide) (by decide)
  obtain ⟨mm, g_mm⟩ : ∃ z, z = T4.heap.size := ⟨_, rfl⟩
  rw [← g_mm] at A5 st5
  have V_mm := Arv.new A5 (by decide)
  have lt_mm := own_lt V_mm.lt
  have hk := Nat.le_trans hk E5.1
  refine OGo.by_ st5 ?_
  show OGo p e below _ (T5.setTop (mkF m 18 #[.val (.int p1), .val (.ref a), .unset, .unset] [(.ref mm)]))
  have Z3 : n0 ≤ T4.heap.size := Nat.le_trans Z2 K4.1
  have gm : n0 ≤ mm := by omega
  have V0 : Arv Z h5 mm k5 .boolean (2 : Int32) [(.int (0 : Int32)), (.int (0 : Int32))] (.int (0 : Int32)) := V_mm.pad (pad_rep [] _ 2)
  have Ea := Ex4.ext E5
  have ham : a ≠ mm := own_ne (by have : T4.heap.size > a := Ex4.lt; omega)
  refine OGo.by_ (fun t k => XS.dup X5.here hx rfl (hb hby at_18) rfl rfl k) ?_
  show OGo p e below _ (T5.setTop (mkF m 19 #[.val (.int p1), .val (.ref a), .unset, .unset] [(.ref mm), (.ref mm)]))
  refine OGo.by_ (fun t k => XS.iconst X5.here hx rfl (hb hby at_19) k) ?_
  show OGo p e below _ (T5.setTop (mkF m 20 #[.val (.int p1), .val (.ref a), .unset, .unset] [(.int (0 : Int32)), (.ref mm), (.ref mm)]))
  refine OGo.by_ (fun t k => XS.iconst X5.here hx rfl (hb hby at_20) k) ?_
  show OGo p e below _ (T5.setTop (mkF m 21 #[.val (.int p1), .val (.ref a), .unset, .unset] [(.int (1 : Int32)), (.int (0 : Int32)), (.ref mm), (.ref mm)]))
  obtain ⟨cl6, Ar6, q6, S6, Nn6, H6, G6⟩ := id V0
  obtain ⟨T7, h7, X7, e7, W7, st7⟩ := stZ X5 hx hZ e5 Ar6 (j := (0 : Int32)) (inb_of S6 ⟨(by decide : ¬ (0 : Int32) < 0), (by decide : (0 : Int32) < (2 : Int32))⟩) (g := (mkF m 21 #[.val (.int p1), .val (.ref a), .unset, .unset] [(.int (1 : Int32)), (.int (0 : Int32)), (.ref mm), (.ref mm)])) rfl rfl (hb hby at_21)
  refine OGo.by_ st7 ?_
  show OGo p e below _ (T7.setTop (mkF m 22 #[.val (.int p1), .val (.ref a), .unset, .unset] [(.ref mm)]))
  have N7 := Fr.snoc X7 N4 gm
  have hk := Nat.le_trans hk (Nat.le_of_eq W7.size.symm)
  have V1 := Arv.set Ar6 q6 S6 Nn6 H6 G6 (v := .int (1 : Int32)) (by decide) W7 0 (by decide) (Nat.le_of_ble_eq_true rfl)
  refine OGo.by_ (fun t k => XS.dup X7.here hx rfl (hb hby at_22) rfl rfl k) ?_
  show OGo p e below _ (T7.setTop (mkF m 23 #[.val (.int p1), .val (.ref a), .unset, .unset] [(.ref mm), (.ref mm)]))
  refine OGo.by_ (fun t k => XS.iconst X7.here hx rfl (hb hby at_23) k) ?_
  show OGo p e below _ (T7.setTop (mkF m 24 #[.val (.int p1), .val (.ref a), .unset, .unset] [(.int (1 : Int32)), (.ref mm), (.ref mm)]))
  refine OGo.by_ (fun t k => XS.iconst X7.here hx rfl (hb hby at_24) k) ?_
  show OGo p e below _ (T7.setTop (mkF m 25 #[.val (.int p1), .val (.ref a), .unset, .unset] [(.int (0 : Int32)), (.int (1 : Int32)), (.ref mm), (.ref mm)]))
  obtain ⟨cl8, Ar8, q8, S8, Nn8, H8, G8⟩ := id V1
  obtain ⟨T9, h9, X9, e9, W9, st9⟩ := stZ X7 hx hZ e7 Ar8 (j := (1 : Int32)) (inb_of S8 ⟨(by decide : ¬ (1 : Int32) < 0), (by decide : (1 : Int32) < (2 : Int32))⟩) (g := (mkF m 25 #[.val (.int p1), .val (.ref a), .unset, .unset] [(.int (0 : Int32)), (.int (1 : Int32)), (.ref mm), (.ref mm)])) rfl rfl (hb hby at_25)
  refine OGo.by_ st9 ?_
  show OGo p e below _ (T9.setTop (mkF m 26 #[.val (.int p1), .val (.ref a), .unset, .unset] [(.ref mm)]))
  have N9 := Fr.snoc X9 N7 gm
  have hk := Nat.le_trans hk (Nat.le_of_eq W9.size.symm)
  have V2 := Arv.set Ar8 q8 S8 Nn8 H8 G8 (v := .int (0 : Int32)) (by decide) W9 1 (by decide) (Nat.le_of_ble_eq_true rfl)
  have SS0 : own_SS Z h9 a mm 1 0 := ⟨(Ea.wr W7).wr W9, (((Fa4.ext E5).other W7 (Or.inl ham)).other W9 (Or.inl ham)), (((Fb4.ext E5).other W7 (Or.inl ham)).other W9 (Or.inl ham)), ⟨_, (((Fs4.ext E5).other W7 (Or.inl ham)).other W9 (Or.inl ham))⟩, ⟨_, V2⟩, Or.inr rfl, Or.inl rfl⟩
  have Z4 : n0 ≤ h9.size := by rw [W9.size, W7.size]; exact Nat.le_trans Z3 E5.1
  refine OGo.by_ (fun t k => XS.astoreN X9.here hx rfl (hb hby at_26) rfl rfl (l' := #[.val (.int p1), .val (.ref a), .val (.ref mm), .unset]) rfl k) ?_
  show OGo p e below _ (T9.setTop (mkF m 27 #[.val (.int p1), .val (.ref a), .val (.ref mm), .unset] []))
  refine OGo.by_ (fun t k => XS.aloadN X9.here hx rfl (hb hby at_27) rfl rfl k) ?_
  show OGo p e below _ (T9.setTop (mkF m 28 #[.val (.int p1), .val (.ref a), .val (.ref mm), .unset] [(.ref a)]))
  obtain ⟨cq11, kq11, qa11, qb11, qc11⟩ := isOf hZ e9 SS0.1
  obtain ⟨_, _, ⟨T10, L10, k10, n10⟩, -, X10, ⟨Lc10, hQ10, l10, y10, z10⟩, st10⟩ := X9.virtualBack hx (y := (⟨"com/example/intercept_rows/interceptrows/engine/Session", "inTransaction", "()Z"⟩ : MethodName)) (z := (⟨"com/example/intercept_rows/interceptrows/engine/Session", "inTransaction", "()Z"⟩ : MethodName)) hown (mvT hZ (hw _ (List.mem_of_getElem? (i := 130) rfl))) (mvT hZ (hw _ (List.mem_of_getElem? (i := 131) rfl))) (notFace_of_selects (args := #[]) (mvT hZ (hw _ (List.mem_of_getElem? (i := 133) rfl)))) (mvT hZ (hw _ (List.mem_of_getElem? (i := 133) rfl))) (mvT hZ (hw _ (List.mem_of_getElem? (i := 132) rfl))) (by decide) (backOf (W := 0) (rm_int l Z a0 hw [] a 1 0 h9 n0 Z4 SS0.2.1 SS0.2.2.1) hZ (hw _ (List.mem_of_getElem? (i := 134) rfl)) (hw _ (List.mem_of_getElem? (i := 2) rfl)) (by decide) (by decide)) qa11 qc11 (g := (mkF m 28 #[.val (.int p1), .val (.ref a), .val (.ref mm), .unset] [(.ref a)])) rfl (by rw [hml]; rfl) (Steps.refl _) (argsL := []) (rest := []) (lenOf pd_ocZ rfl) rfl (by show 2 * 0 + _ ≤ _; exact Nat.le_of_eq rfl) (hb hby at_28) (fun _ _ => ⟨rfl, e9, (by decide : 11 + 0 ≤ _), (by decide : 84 + 0 ≤ _)⟩)
  dsimp only [Pt.U, Pt.locs, Pt.cells, Pt.slots] at X10 l10 y10 z10 st10 hQ10
  subst l10 y10 z10
  obtain ⟨rfl, Nq10, eq10⟩ := hQ10
  have N10 := Fr.app N9 Nq10
  refine OGo.by_ (fun t k => st10.trans k) ?_
  show OGo p e below _ (T10.setTop (mkF m 31 #[.val (.int p1), .val (.ref a), .val (.ref mm), .unset] [(.int (0 : Int32))]))
  refine OGo.by_ (fun t k => XS.ifNo X10.here hx rfl (hb hby at_31) rfl ((if0 _ _).trans (teq rfl).2) k) ?_
  show OGo p e below _ (T10.setTop (mkF m 34 #[.val (.int p1), .val (.ref a), .val (.ref mm), .unset] []))
  refine OGo.by_ (fun t k => XS.iconst X10.here hx rfl (hb hby at_34) k) ?_
  show OGo p e below _ (T10.setTop (mkF m 35 #[.val (.int p1), .val (.ref a), .val (.ref mm), .unset] [(.int (1 : Int32))]))
  refine OGo.by_ (fun t k => XS.goto X10.here hx rfl (pc0 := 35) (pc' := 39) rfl (hb hby at_35) (by decide) (by decide) k) ?_
  show OGo p e below _ (T10.setTop (mkF m 39 #[.val (.int p1), .val (.ref a), .val (.ref mm), .unset] [(.int (1 : Int32))]))
  refine OGo.by_ (fun t k => XS.istoreN X10.here hx rfl (hb hby at_39) rfl (l' := #[.val (.int p1), .val (.ref a), .val (.ref mm), .val (.int (1 : Int32))]) rfl k) ?_
  show OGo p e below _ (T10.setTop (mkF m 40 #[.val (.int p1), .val (.ref a), .val (.ref mm), .val (.int (1 : Int32))] []))
  refine OGo.by_ (fun t k => XS.aloadN X10.here hx rfl (hb hby at_40) rfl rfl k) ?_
  show OGo p e below _ (T10.setTop (mkF m 41 #[.val (.int p1), .val (.ref a), .val (.ref mm), .val (.int (1 : Int32))] [(.ref a)]))
  refine OGo.by_ (fun t k => XS.aloadN X10.here hx rfl (hb hby at_41) rfl rfl k) ?_
  show OGo p e below _ (T10.setTop (mkF m 42 #[.val (.int p1), .val (.ref a), .val (.ref mm), .val (.int (1 : Int32))] [(.ref mm), (.ref a)]))
  refine OGo.by_ (fun t k => XS.iloadN X10.here hx rfl (hb hby at_42) rfl k) ?_
  show OGo p e below _ (T10.setTop (mkF m 43 #[.val (.int p1), .val (.ref a), .val (.ref mm), .val (.int (1 : Int32))] [(.int p1), (.ref mm), (.ref a)]))
  refine OGo.by_ (fun t k => XS.bipush X10.here hx rfl (hb hby at_43) k) ?_
  show OGo p e below _ (T10.setTop (mkF m 45 #[.val (.int p1), .val (.ref a), .val (.ref mm), .val (.int (1 : Int32))] [(.int (7 : Int32)), (.int p1), (.ref mm), (.ref a)]))
  refine OGo.by_ (fun t k => XS.iand X10.here hx rfl (hb hby at_45) rfl k) ?_
  show OGo p e below _ (T10.setTop (mkF m 46 #[.val (.int p1), .val (.ref a), .val (.ref mm), .val (.int (1 : Int32))] [(.int (p1 &&& (7 : Int32))), (.ref mm), (.ref a)]))
  obtain ⟨_, _, ⟨T12, L12, k12, n12⟩, -, X12, ⟨Lc12, hQ12, l12, y12, z12⟩, st12⟩ := Jvm.LawKit.callS X10 hx (y := (⟨"com/example/intercept_rows/interceptrows/engine/SessionInTransactionPinLaw", "step", "(Lcom/example/intercept_rows/interceptrows/engine/Session;[ZI)Z"⟩ : MethodName)) hown (mvT hZ (hw _ (List.mem_of_getElem? (i := 137) rfl))) (mvT hZ (hw _ (List.mem_of_getElem? (i := 138) rfl))) (mvT hZ (hw _ (List.mem_of_getElem? (i := 139) rfl))) (mvT hZ (hw _ (List.mem_of_getElem? (i := 140) rfl))) (by decide) (backOf (W := 0) (rm_stp l Z a0 hw [] a mm (p1 &&& (7 : Int32)) 1 0 h9 n0 Z4 SS0 ga gm) hZ (hw _ (List.mem_of_getElem? (i := 140) rfl)) (hw _ (List.mem_of_getElem? (i := 139) rfl)) (by decide) (by decide)) (g := (mkF m 46 #[.val (.int p1), .val (.ref a), .val (.ref mm), .val (.int (1 : Int32))] [(.int (p1 &&& (7 : Int32))), (.ref mm), (.ref a)])) rfl (by rw [hml]; rfl) (argsL := [(.ref a), (.ref mm), (.int (p1 &&& (7 : Int32)))]) (rest := []) (lenOf pd_oLcom_example_intercept_rows_interceptrows_engine_Session_AZIcZ rfl) rfl (by show 2 * 0 + _ ≤ _; exact Nat.le_of_eq rfl) (hb hby at_46) (fun _ _ => ⟨rfl, eq10, (by decide : 11 + 0 ≤ _), (by decide : 84 + 0 ≤ _)⟩)
  dsimp only [Pt.U, Pt.locs, Pt.cells, Pt.slots] at X12 l12 y12 z12 st12 hQ12
  subst l12 y12 z12
  obtain ⟨rfl, Nq12, Zs12, u12, v12, SS12⟩ := hQ12
  have N12 := Fr.app N10 Nq12
  refine OGo.by_ st12 ?_
  show OGo p e below _ (T12.setTop (mkF m 49 #[.val (.int p1), .val (.ref a), .val (.ref mm), .val (.int (1 : Int32))] [(.int (1 : Int32))]))
  have hk := Nat.le_trans hk Zs12
  have Zt12 := Nat.le_trans Z4 Zs12
  refine OGo.by_ (fun t k => XS.ifNo X12.here hx rfl (hb hby at_49) rfl ((if0 _ _).trans (feq (by decide)).1) k) ?_
  show OGo p e below _ (T12.setTop (mkF m 52 #[.val (.int p1), .val (.ref a), .val (.ref mm), .val (.int (1 : Int32))] []))
  refine OGo.by_ (fun t k => XS.iloadN X12.here hx rfl (hb hby at_52) rfl k) ?_
  show OGo p e below _ (T12.setTop (mkF m 53 #[.val (.int p1), .val (.ref a), .val (.ref mm), .val (.int (1 : Int32))] [(.int (1 : Int32))]))
  refine OGo.by_ (fun t k => XS.ifNo X12.here hx rfl (hb hby at_53) rfl ((if0 _ _).trans (feq (by decide)).1) k) ?_
  show OGo p e below _ (T12.setTop (mkF m 56 #[.val (.int p1), .val (.ref a), .val (.ref mm), .val (.int (1 : Int32))] []))
  refine OGo.by_ (fun t k => XS.iconst X12.here hx rfl (hb hby at_56) k) ?_
  show OGo p e below _ (T12.setTop (mkF m 57 #[.val (.int p1), .val (.ref a), .val (.ref mm), .val (.int (1 : Int32))] [(.int (1 : Int32))]))
  refine OGo.by_ (fun t k => XS.goto X12.here hx rfl (pc0 := 57) (pc' := 61) rfl (hb hby at_57) (by decide) (by decide) k) ?_
  show OGo p e below _ (T12.setTop (mkF m 61 #[.val (.int p1), .val (.ref a), .val (.ref mm), .val (.int (1 : Int32))] [(.int (1 : Int32))]))
  refine OGo.by_ (fun t k => XS.istoreN X12.here hx rfl (hb hby at_61) rfl (l' := #[.val (.int p1), .val (.ref a), .val (.ref mm), .val (.int (1 : Int32))]) rfl k) ?_
  show OGo p e below _ (T12.setTop (mkF m 62 #[.val (.int p1), .val (.ref a), .val (.ref mm), .val (.int (1 : Int32))] []))
  refine OGo.by_ (fun t k => XS.aloadN X12.here hx rfl (hb hby at_62) rfl rfl k) ?_
  show OGo p e below _ (T12.setTop (mkF m 63 #[.val (.int p1), .val (.ref a), .val (.ref mm), .val (.int (1 : Int32))] [(.ref a)]))
  refine OGo.by_ (fun t k => XS.aloadN X12.here hx rfl (hb hby at_63) rfl rfl k) ?_
  show OGo p e below _ (T12.setTop (mkF m 64 #[.val (.int p1), .val (.ref a), .val (.ref mm), .val (.int (1 : Int32))] [(.ref mm), (.ref a)]))
  refine OGo.by_ (fun t k => XS.iloadN X12.here hx rfl (hb hby at_64) rfl k) ?_
  show OGo p e below _ (T12.setTop (mkF m 65 #[.val (.int p1), .val (.ref a), .val (.ref mm), .val (.int (1 : Int32))] [(.int p1), (.ref mm), (.ref a)]))
  refine OGo.by_ (fun t k => XS.iconst X12.here hx rfl (hb hby at_65) k) ?_
  show OGo p e below _ (T12.setTop (mkF m 66 #[.val (.int p1), .val (.ref a), .val (.ref mm), .val (.int (1 : Int32))] [(.int (3 : Int32)), (.int p1), (.ref mm), (.ref a)]))
  refine OGo.by_ (fun t k => XS.iushr X12.here hx rfl (hb hby at_66) rfl k) ?_
  show OGo p e below _ (T12.setTop (mkF m 67 #[.val (.int p1), .val (.ref a), .val (.ref mm), .val (.int (1 : Int32))] [(.int ((p1.toUInt32 >>> ((3 : Int32) &&& 31).toUInt32).toInt32)), (.ref mm), (.ref a)]))
  refine OGo.by_ (fun t k => XS.bipush X12.here hx rfl (hb hby at_67) k) ?_
  show OGo p e below _ (T12.setTop (mkF m 69 #[.val (.int p1), .val (.ref a), .val (.ref mm), .val (.int (1 : Int32))] [(.int (7 : Int32)), (.int ((p1.toUInt32 >>> ((3 : Int32) &&& 31).toUInt32).toInt32)), (.ref mm), (.ref a)]))
  refine OGo.by_ (fun t k => XS.iand X12.here hx rfl (hb hby at_69) rfl k) ?_
  show OGo p e below _ (T12.setTop (mkF m 70 #[.val (.int p1), .val (.ref a), .val (.ref mm), .val (.int (1 : Int32))] [(.int (((p1.toUInt32 >>> ((3 : Int32) &&& 31).toUInt32).toInt32) &&& (7 : Int32))), (.ref mm), (.ref a)]))
  obtain ⟨_, _, ⟨T13, L13, k13, n13⟩, -, X13, ⟨Lc13, hQ13, l13, y13, z13⟩, st13⟩ := Jvm.LawKit.callS X12 hx (y := (⟨"com/example/intercept_rows/interceptrows/engine/SessionInTransactionPinLaw", "step", "(Lcom/example/intercept_rows/interceptrows/engine/Session;[ZI)Z"⟩ : MethodName)) hown (mvT hZ (hw _ (List.mem_of_getElem? (i := 137) rfl))) (mvT hZ (hw _ (List.mem_of_getElem? (i := 138) rfl))) (mvT hZ (hw _ (List.mem_of_getElem? (i := 139) rfl))) (mvT hZ (hw _ (List.mem_of_getElem? (i := 140) rfl))) (by decide) (backOf (W := 0) (rm_stp l Z a0 hw [] a mm (((p1.toUInt32 >>> ((3 : Int32) &&& 31).toUInt32).toInt32) &&& (7 : Int32)) u12 v12 T12.heap n0 Zt12 SS12 ga gm) hZ (hw _ (List.mem_of_getElem? (i := 140) rfl)) (hw _ (List.mem_of_getElem? (i := 139) rfl)) (by decide) (by decide)) (g := (mkF m 70 #[.val (.int p1), .val (.ref a), .val (.ref mm), .val (.int (1 : Int32))] [(.int (((p1.toUInt32 >>> ((3 : Int32) &&& 31).toUInt32).toInt32) &&& (7 : Int32))), (.ref mm), (.ref a)])) rfl (by rw [hml]; rfl) (argsL := [(.ref a), (.ref mm), (.int (((p1.toUInt32 >>> ((3 : Int32) &&& 31).toUInt32).toInt32) &&& (7 : Int32)))]) (rest := []) (lenOf pd_oLcom_example_intercept_rows_interceptrows_engine_Session_AZIcZ rfl) rfl (by show 2 * 0 + _ ≤ _; exact Nat.le_of_eq rfl) (hb hby at_70) (fun _ _ => ⟨rfl, rfl, (by decide : 11 + 0 ≤ _), (by decide : 84 + 0 ≤ _)⟩)
  dsimp only [Pt.U, Pt.locs, Pt.cells, Pt.slots] at X13 l13 y13 z13 st13 hQ13
  subst l13 y13 z13
  obtain ⟨rfl, Nq13, Zs13, u13, v13, SS13⟩ := hQ13
  have N13 := Fr.app N12 Nq13
  refine OGo.by_ st13 ?_
  show OGo p e below _ (T13.setTop (mkF m 73 #[.val (.int p1), .val (.ref a), .val (.ref mm), .val (.int (1 : Int32))] [(.int (1 : Int32))]))
  have hk := Nat.le_trans hk Zs13
  have Zt13 := Nat.le_trans Zt12 Zs13
  refine OGo.by_ (fun t k => XS.ifNo X13.here hx rfl (hb hby at_73) rfl ((if0 _ _).trans (feq (by decide)).1) k) ?_
  show OGo p e below _ (T13.setTop (mkF m 76 #[.val (.int p1), .val (.ref a), .val (.ref mm), .val (.int (1 : Int32))] []))
  refine OGo.by_ (fun t k => XS.iloadN X13.here hx rfl (hb hby at_76) rfl k) ?_
  show OGo p e below _ (T13.setTop (mkF m 77 #[.val (.int p1), .val (.ref a), .val (.ref mm), .val (.int (1 : Int32))] [(.int (1 : Int32))]))
  refine OGo.by_ (fun t k => XS.ifNo X13.here hx rfl (hb hby at_77) rfl ((if0 _ _).trans (feq (by decide)).1) k) ?_
  show OGo p e below _ (T13.setTop (mkF m 80 #[.val (.int p1), .val (.ref a), .val (.ref mm), .val (.int (1 : Int32))] []))
  refine OGo.by_ (fun t k => XS.iconst X13.here hx rfl (hb hby at_80) k) ?_
  show OGo p e below _ (T13.setTop (mkF m 81 #[.val (.int p1), .val (.ref a), .val (.ref mm), .val (.int (1 : Int32))] [(.int (1 : Int32))]))
  refine OGo.by_ (fun t k => XS.goto X13.here hx rfl (pc0 := 81) (pc' := 85) rfl (hb hby at_81) (by decide) (by decide) k) ?_
  show OGo p e below _ (T13.setTop (mkF m 85 #[.val (.int p1), .val (.ref a), .val (.ref mm), .val (.int (1 : Int32))] [(.int (1 : Int32))]))
  refine OGo.by_ (fun t k => XS.istoreN X13.here hx rfl (hb hby at_85) rfl (l' := #[.val (.int p1), .val (.ref a), .val (.ref mm), .val (.int (1 : Int32))]) rfl k) ?_
  show OGo p e below _ (T13.setTop (mkF m 86 #[.val (.int p1), .val (.ref a), .val (.ref mm), .val (.int (1 : Int32))] []))
  refine OGo.by_ (fun t k => XS.aloadN X13.here hx rfl (hb hby at_86) rfl rfl k) ?_
  show OGo p e below _ (T13.setTop (mkF m 87 #[.val (.int p1), .val (.ref a), .val (.ref mm), .val (.int (1 : Int32))] [(.ref a)]))
  refine OGo.by_ (fun t k => XS.aloadN X13.here hx rfl (hb hby at_87) rfl rfl k) ?_
  show OGo p e below _ (T13.setTop (mkF m 88 #[.val (.int p1), .val (.ref a), .val (.ref mm), .val (.int (1 : Int32))] [(.ref mm), (.ref a)]))
  refine OGo.by_ (fun t k => XS.iloadN X13.here hx rfl (hb hby at_88) rfl k) ?_
  show OGo p e below _ (T13.setTop (mkF m 89 #[.val (.int p1), .val (.ref a), .val (.ref mm), .val (.int (1 : Int32))] [(.int p1), (.ref mm), (.ref a)]))
  refine OGo.by_ (fun t k => XS.bipush X13.here hx rfl (hb hby at_89) k) ?_
  show OGo p e below _ (T13.setTop (mkF m 91 #[.val (.int p1), .val (.ref a), .val (.ref mm), .val (.int (1 : Int32))] [(.int (6 : Int32)), (.int p1), (.ref mm), (.ref a)]))
  refine OGo.by_ (fun t k => XS.iushr X13.here hx rfl (hb hby at_91) rfl k) ?_
  show OGo p e below _ (T13.setTop (mkF m 92 #[.val (.int p1), .val (.ref a), .val (.ref mm), .val (.int (1 : Int32))] [(.int ((p1.toUInt32 >>> ((6 : Int32) &&& 31).toUInt32).toInt32)), (.ref mm), (.ref a)]))
  refine OGo.by_ (fun t k => XS.bipush X13.here hx rfl (hb hby at_92) k) ?_
  show OGo p e below _ (T13.setTop (mkF m 94 #[.val (.int p1), .val (.ref a), .val (.ref mm), .val (.int (1 : Int32))] [(.int (7 : Int32)), (.int ((p1.toUInt32 >>> ((6 : Int32) &&& 31).toUInt32).toInt32)), (.ref mm), (.ref a)]))
  refine OGo.by_ (fun t k => XS.iand X13.here hx rfl (hb hby at_94) rfl k) ?_
  show OGo p e below _ (T13.setTop (mkF m 95 #[.val (.int p1), .val (.ref a), .val (.ref mm), .val (.int (1 : Int32))] [(.int (((p1.toUInt32 >>> ((6 : Int32) &&& 31).toUInt32).toInt32) &&& (7 : Int32))), (.ref mm), (.ref a)]))
  obtain ⟨_, _, ⟨T14, L14, k14, n14⟩, -, X14, ⟨Lc14, hQ14, l14, y14, z14⟩, st14⟩ := Jvm.LawKit.callS X13 hx (y := (⟨"com/example/intercept_rows/interceptrows/engine/SessionInTransactionPinLaw", "step", "(Lcom/example/intercept_rows/interceptrows/engine/Session;[ZI)Z"⟩ : MethodName)) hown (mvT hZ (hw _ (List.mem_of_getElem? (i := 137) rfl))) (mvT hZ (hw _ (List.mem_of_getElem? (i := 138) rfl))) (mvT hZ (hw _ (List.mem_of_getElem? (i := 139) rfl))) (mvT hZ (hw _ (List.mem_of_getElem? (i := 140) rfl))) (by decide) (backOf (W := 0) (rm_stp l Z a0 hw [] a mm (((p1.toUInt32 >>> ((6 : Int32) &&& 31).toUInt32).toInt32) &&& (7 : Int32)) u13 v13 T13.heap n0 Zt13 SS13 ga gm) hZ (hw _ (List.mem_of_getElem? (i := 140) rfl)) (hw _ (List.mem_of_getElem? (i := 139) rfl)) (by decide) (by decide)) (g := (mkF m 95 #[.val (.int p1), .val (.ref a), .val (.ref mm), .val (.int (1 : Int32))] [(.int (((p1.toUInt32 >>> ((6 : Int32) &&& 31).toUInt32).toInt32) &&& (7 : Int32))), (.ref mm), (.ref a)])) rfl (by rw [hml]; rfl) (argsL := [(.ref a), (.ref mm), (.int (((p1.toUInt32 >>> ((6 : Int32) &&& 31).toUInt32).toInt32) &&& (7 : Int32)))]) (rest := []) (lenOf pd_oLcom_example_intercept_rows_interceptrows_engine_Session_AZIcZ rfl) rfl (by show 2 * 0 + _ ≤ _; exact Nat.le_of_eq rfl) (hb hby at_95) (fun _ _ => ⟨rfl, rfl, (by decide : 11 + 0 ≤ _), (by decide : 84 + 0 ≤ _)⟩)
  dsimp only [Pt.U, Pt.locs, Pt.cells, Pt.slots] at X14 l14 y14 z14 st14 hQ14
  subst l14 y14 z14
  obtain ⟨rfl, Nq14, Zs14, u14, v14, SS14⟩ := hQ14
  have N14 := Fr.app N13 Nq14
  refine OGo.by_ st14 ?_
  show OGo p e below _ (T14.setTop (mkF m 98 #[.val (.int p1), .val (.ref a), .val (.ref mm), .val (.int (1 : Int32))] [(.int (1 : Int32))]))
  have hk := Nat.le_trans hk Zs14
  have Zt14 := Nat.le_trans Zt13 Zs14
  refine OGo.by_ (fun t k => XS.ifNo X14.here hx rfl (hb hby at_98) rfl ((if0 _ _).trans (feq (by decide)).1) k) ?_
  show OGo p e below _ (T14.setTop (mkF m 101 #[.val (.int p1), .val (.ref a), .val (.ref mm), .val (.int (1 : Int32))] []))
  refine OGo.by_ (fun t k => XS.iloadN X14.here hx rfl (hb hby at_101) rfl k) ?_
  show OGo p e below _ (T14.setTop (mkF m 102 #[.val (.int p1), .val (.ref a), .val (.ref mm), .val (.int (1 : Int32))] [(.int (1 : Int32))]))
  refine OGo.by_ (fun t k => XS.ifNo X14.here hx rfl (hb hby at_102) rfl ((if0 _ _).trans (feq (by decide)).1) k) ?_
  show OGo p e below _ (T14.setTop (mkF m 105 #[.val (.int p1), .val (.ref a), .val (.ref mm), .val (.int (1 : Int32))] []))
  refine OGo.by_ (fun t k => XS.iconst X14.here hx rfl (hb hby at_105) k) ?_
  show OGo p e below _ (T14.setTop (mkF m 106 #[.val (.int p1), .val (.ref a), .val (.ref mm), .val (.int (1 : Int32))] [(.int (1 : Int32))]))
  refine OGo.by_ (fun t k => XS.goto X14.here hx rfl (pc0 := 106) (pc' := 110) rfl (hb hby at_106) (by decide) (by decide) k) ?_
  show OGo p e below _ (T14.setTop (mkF m 110 #[.val (.int p1), .val (.ref a), .val (.ref mm), .val (.int (1 : Int32))] [(.int (1 : Int32))]))
  refine OGo.by_ (fun t k => XS.istoreN X14.here hx rfl (hb hby at_110) rfl (l' := #[.val (.int p1), .val (.ref a), .val (.ref mm), .val (.int (1 : Int32))]) rfl k) ?_
  show OGo p e below _ (T14.setTop (mkF m 111 #[.val (.int p1), .val (.ref a), .val (.ref mm), .val (.int (1 : Int32))] []))
  refine OGo.by_ (fun t k => XS.iloadN X14.here hx rfl (hb hby at_111) rfl k) ?_
  show OGo p e below _ (T14.setTop (mkF m 112 #[.val (.int p1), .val (.ref a), .val (.ref mm), .val (.int (1 : Int32))] [(.int (1 : Int32))]))
  exact own_wretN X14 hS (show _ ≤ T14.heap.size by rw [show T14.heap = T14.heap from rfl]; exact hk) hx hlk (t := .boolean) hret (by simp) (hb hby at_112) (by decide) (by decide) (⟨rfl, N14⟩)
theorem own_fld_int {args : Array Value} {Z : State} {t : Term} {a : Addr} {C n d : String} {z : Int32} (ht : t.eval args Z none [] Z = some (.ref a)) (h : (Jvm.Cond.eq (Term.field t C n d) (Term.int z)).value args Z none Z [] = some true) : Fld Z Z.heap a C n d (.int z) := by
  obtain ⟨x, y, h1, h2, k1, k2⟩ := cmp_v (Or.inl h)
  cases Option.some.inj h2
  obtain ⟨w, rfl⟩ := k2
  have e := gotT (Cond.eq_ints h1 (Term.int_eval z)) h
  subst e
  exact Fld.start ((fld_at ht).symm.trans h1)
theorem own_fld_long {args : Array Value} {Z : State} {t : Term} {a : Addr} {C n d : String} {z : Int64} (ht : t.eval args Z none [] Z = some (.ref a)) (h : (Jvm.Cond.eq (Term.field t C n d) (Term.long z)).value args Z none Z [] = some true) : Fld Z Z.heap a C n d (.long z) := by
  obtain ⟨x, y, h1, h2, k1, k2⟩ := cmp_v (Or.inl h)
  cases Option.some.inj h2
  obtain ⟨w, rfl⟩ := k2
  have e := gotT (eq_L h1 (long_at z)) h
  subst e
  exact Fld.start ((fld_at ht).symm.trans h1)
set_option maxRecDepth 65536 in
set_option maxHeartbeats 40000000 in
theorem comes_1 {Post : Tables → Env → Array Value → State → Outcome → State → Prop} (hpost : ∀ tb e args s v u, (limb_1_1.after args s (.returned v) u = true ∧ limb_1_2.after args s (.returned v) u = true ∧ True) → ReturnedEndW s (.returned v) u (Jvm.fieldLocs frame_1_writes args s ++ Jvm.arrayLocs frame_1_arrays args s ++ Jvm.staticLocs frame_1_statics s) 32 1216 → Post tb e args s (.returned v) u) :
    ArmFor flags0 classFile x code maxLocals ret World_1 tables_1 room_1 Calls_1 rest_1 Pre_1 Post := by
  intro l hfl _ _ p e ha hc hk s m args below hf hA hF happ hP
  obtain ⟨hcalls, hrest, hpre⟩ := hP
  obtain ⟨-, -, -, hnamed, -, -, -, hat⟩ := (Spec.applies_iff hf).mp happ
  obtain ⟨hg, hn⟩ := and_e (Cond.before_iff.mp (show (Jvm.Cond.and given_1 narrow_1).before args s = true from hpre))
  obtain ⟨hcount, hg0⟩ := and_e hg
  have ga0 := hg0
  obtain ⟨w0, rfl⟩ : ∃ w0 : Value, args = #[w0] := by
    have hs : args.size = 1 := by simpa [Cond.value, given_1] using hcount
    obtain ⟨L⟩ := args
    match L, hs with
    | [w0], _ => exact ⟨w0, rfl⟩
  have hw := fun d (hd : d ∈ tables_1) => atoms_spec (ws := Jvm.Cond.code x code maxLocals ret :: tables_1) hat d (List.mem_cons_of_mem _ hd)
  have hfit : Fit s := fun {y c} hc i hi => by
    obtain ⟨ha, rfl⟩ := Array.getElem?_eq_some_iff.mp hc
    have q := List.all_eq_true.mp ((Array.all_eq_true_iff_forall_mem.mp hF) _ (Array.getElem_mem ha)) i (List.mem_range.mpr hi)
    simpa [Array.getElem?_eq_getElem hi] using q
  obtain ⟨i0, ei0⟩ := is_v ga0
  obtain rfl : w0 = (.int i0) := Option.some.inj ei0
  obtain ⟨c1, hn⟩ := and_e hn
  obtain ⟨c2, hn⟩ := and_e hn
  obtain ⟨c3, hn⟩ := and_e hn
  obtain ⟨c4, c5⟩ := and_e hn
  obtain ⟨dd, ed⟩ := exa_v c1
  obtain ⟨lw, el⟩ := exa_v c3
  have SD := Sta.start ed (Or.inr ⟨(hw _ (List.mem_of_getElem? (i := 5) rfl)), (hw _ (List.mem_of_getElem? (i := 10) rfl))⟩)
  have SL := Sta.start el (Or.inr ⟨(hw _ (List.mem_of_getElem? (i := 5) rfl)), (hw _ (List.mem_of_getElem? (i := 64) rfl))⟩)
  obtain ⟨n, o, h1, h2, h3, _, L, rfl, ⟨rfl, N⟩, hq⟩ := rm_law l s _ hw tables_1 i0 dd lw s.heap s.heap.size (Nat.le_refl _) SL (Exa.start ed c1) (Exa.start el c3) (own_fld_long ed c2) (own_fld_int ed c5) (own_fld_long el c4) SD p e ha hc hk s m _ below hf ((Spec.applies_iff_loose hf).mp happ).1 ⟨rfl, State.Warmed39.refl s, rfl⟩ trivial
  refine ⟨n, _, h1, h2, h3, hpost _ _ _ _ _ _ ⟨Cond.after_iff.mpr rfl, Cond.after_iff.mpr (eq_i res_at (Term.int_eval (1)) rfl), trivial⟩ ⟨hq.1, hq.2.1, hq.2.2.1, (hq.2.2.2.sift fun y hy => Or.inr (N y hy)).mono (by decide) (by decide)⟩⟩
theorem main_1_1 : Claimed_1_1 := comes_1 fun _ _ _ _ _ _ h hF => ⟨h.1, hF⟩
theorem main_1_2 : Claimed_1_2 := comes_1 fun _ _ _ _ _ _ h hF => ⟨h.2.1, hF⟩
end Jvm.Pilot.@@N@@
namespace Jvm.Pilot.@@N@@
open Jvm Jvm.ClassFile Sem Op Lib Jvm.Free Jvm.Stand Jvm.Pilot.@@N@@.Jvm.D
/-! MADE BY PROGRAM (witnessworld.py) out of the Statement's table words and the real class files: 29 classes; the members and pool entries that the words name. The judged class is class 1, her method 1. -/
namespace start1
open Jvm.ClassFile
def u (s : String) : CpInfo := .utf8 (stringToUtf16 s)
/-- a pool by its gaps: so many unusable entries, then the entry; so many at the end -/
def gap : Nat → List CpInfo → List CpInfo
  | 0, r => r
  | n + 1, r => .unusable :: gap n r
def poolList (es : List (Nat × CpInfo)) (last : Nat) : List CpInfo := es.foldr (fun e r => gap e.1 (e.2 :: r)) (gap last [])
def pool (es : List (Nat × CpInfo)) (last : Nat) : Array CpInfo := ⟨poolList es last⟩
def fileOf (pool : Array CpInfo) (this : Nat) (attrs : Array Attribute := #[]) (ms : Array MethodInfo := #[]) (fl : Nat := 33) (sup : Nat := 0) (ifs : Array Nat := #[]) (fds : Array FieldInfo := #[]) : ClassFile where
  minorVersion := 0
  majorVersion := 65
  constantPool := pool
  accessFlags := fl
  thisClass := this
  superClass := sup
  interfaces := ifs
  fields := fds
  methods := ms
  attributes := attrs
def plain (name : String) (sup : Option ClassId) : Class where
  name := name
  kind := .ordinary
  loader := none
  accessFlags := 33
  super := sup
  interfaces := #[]
  cf := none
  fields := #[]
  methods := #[]
  instanceTypes := #[]
  staticTypes := #[]
  resolved := #[]
  callSites := []
  init := .initialized
  statics := none
  mirror := none

def pool0 : Array CpInfo := pool [(5, u "<init>"), (0, u "()V"), (1, .class_ 10), (1, u "java/lang/Object")] 113

def k0c0 : Code := { maxStack := 0, maxLocals := 1, code := object_method_1_code, exceptionTable := #[], attributes := #[] }
def k0m0 : Method := { name := "<init>", desc := "()V", sig := { parameters := [], returnType := none }, accessFlags := 1, code := some k0c0 }
/-- java/lang/Object -/
def k0 : Class := { plain "java/lang/Object" none with
  accessFlags := 33
  interfaces := #[]
  cf := some (fileOf pool0 8 #[] #[{ accessFlags := 1, nameIndex := 5, descriptorIndex := 6, attributes := #[] }] 33 0 #[] #[])
  fields := #[]
  methods := #[k0m0]
  instanceTypes := #[]
  staticTypes := #[]
  resolved := Array.replicate 124 none
  statics := none }

def pool1 : Array CpInfo := pool [(2, .class_ 4), (0, .nameAndType 5 6), (0, u "java/lang/Object"), (0, u "<init>"), (0, u "()V"), (0, .class_ 8), (0, u "com/example/intercept_rows/interceptrows/engine/Session"), (0, .class_ 10), (0, u "com/example/intercept_rows/interceptrows/engine/Database"), (0, .methodref 9 3), (0, .methodref 7 13), (0, .nameAndType 5 14), (0, u "(Lcom/example/intercept_rows/interceptrows/engine/Database;)V"), (0, .methodref 7 16), (0, .nameAndType 17 18), (0, u "inTransaction"), (0, u "()Z"), (0, .methodref 20 21), (0, .class_ 22), (0, .nameAndType 23 24), (0, u "com/example/intercept_rows/interceptrows/engine/SessionInTransactionPinLaw"), (0, u "step"), (0, u "(Lcom/example/intercept_rows/interceptrows/engine/Session;[ZI)Z"), (0, .methodref 7 26), (0, .nameAndType 27 28), (0, u "noteAutoCommit"), (0, u "(Z)V"), (0, .methodref 7 30), (0, .nameAndType 31 6), (0, u "begin"), (0, .methodref 7 33), (0, .nameAndType 34 6), (0, u "endTransaction"), (0, .methodref 7 36), (0, .nameAndType 37 6), (0, u "spoil"), (2, u "law"), (0, u "(I)Z")] 5

def k1m0 : Method := { name := "<init>", desc := "()V", sig := { parameters := [], returnType := none }, accessFlags := 1, code := none }
def k1c1 : Code := { maxStack := 4, maxLocals := 4, code := code, exceptionTable := #[], attributes := #[] }
def k1m1 : Method := { name := "law", desc := "(I)Z", sig := { parameters := [.int], returnType := some .boolean }, accessFlags := 9, code := some k1c1 }
def k1c2 : Code := { maxStack := 3, maxLocals := 7, code := method_3_code, exceptionTable := #[], attributes := #[] }
def k1m2 : Method := { name := "step", desc := "(Lcom/example/intercept_rows/interceptrows/engine/Session;[ZI)Z", sig := { parameters := [(.object "com/example/intercept_rows/interceptrows/engine/Session"), (.array .boolean), .int], returnType := some .boolean }, accessFlags := 10, code := some k1c2 }
/-- com/example/intercept_rows/interceptrows/engine/SessionInTransactionPinLaw -/
def k1 : Class := { plain "com/example/intercept_rows/interceptrows/engine/SessionInTransactionPinLaw" (some 0) with
  accessFlags := 49
  interfaces := #[]
  cf := some (fileOf pool1 20 #[] #[{ accessFlags := 1, nameIndex := 5, descriptorIndex := 6, attributes := #[] }, { accessFlags := 9, nameIndex := 40, descriptorIndex := 41, attributes := #[] }, { accessFlags := 10, nameIndex := 23, descriptorIndex := 24, attributes := #[] }] 49 2 #[] #[])
  fields := #[]
  methods := #[k1m0, k1m1, k1m2]
  instanceTypes := #[]
  staticTypes := #[]
  resolved := Array.replicate 47 none
  statics := none }

def pool2 : Array CpInfo := pool [(1, .methodref 2 3), (0, .class_ 4), (0, .nameAndType 5 6), (0, u "java/lang/Object"), (0, u "<init>"), (0, u "()V"), (0, .class_ 8), (0, u "com/example/intercept_rows/interceptrows/engine/UserVariables"), (0, .methodref 7 3), (0, .fieldref 11 12), (0, .class_ 13), (0, .nameAndType 14 15), (0, u "com/example/intercept_rows/interceptrows/engine/Session"), (0, u "variables"), (0, u "Lcom/example/intercept_rows/interceptrows/engine/UserVariables;"), (0, .fieldref 11 17), (0, .nameAndType 18 19), (0, u "autoCommit"), (0, u "Z"), (0, .string 21), (0, u "database"), (0, .methodref 23 24), (0, .class_ 25), (0, .nameAndType 26 27), (0, u "java/util/Objects"), (0, u "requireNonNull"), (0, u "(Ljava/lang/Object;Ljava/lang/String;)Ljava/lang/Object;"), (0, .class_ 29), (0, u "com/example/intercept_rows/interceptrows/engine/Database"), (0, .fieldref 11 31), (0, .nameAndType 21 32), (0, u "Lcom/example/intercept_rows/interceptrows/engine/Database;"), (90, .fieldref 11 124), (0, .nameAndType 125 19), (0, u "begun"), (0, .fieldref 11 127), (0, .nameAndType 128 19), (0, u "spoiled"), (0, u "(Lcom/example/intercept_rows/interceptrows/engine/Database;)V"), (12, u "()Z"), (0, u "(Z)V"), (3, u "inTransaction"), (1, u "noteAutoCommit"), (0, u "begin"), (0, u "spoil"), (0, u "endTransaction")] 2

def k2c0 : Code := { maxStack := 3, maxLocals := 2, code := prog_85_method_1_code, exceptionTable := #[], attributes := #[] }
def k2m0 : Method := { name := "<init>", desc := "(Lcom/example/intercept_rows/interceptrows/engine/Database;)V", sig := { parameters := [(.object "com/example/intercept_rows/interceptrows/engine/Database")], returnType := none }, accessFlags := 1, code := some k2c0 }
def k2c1 : Code := { maxStack := 1, maxLocals := 1, code := prog_85_method_14_code, exceptionTable := #[], attributes := #[] }
def k2m1 : Method := { name := "inTransaction", desc := "()Z", sig := { parameters := [], returnType := some .boolean }, accessFlags := 0, code := some k2c1 }
def k2c2 : Code := { maxStack := 2, maxLocals := 2, code := prog_85_method_16_code, exceptionTable := #[], attributes := #[] }
def k2m2 : Method := { name := "noteAutoCommit", desc := "(Z)V", sig := { parameters := [.boolean], returnType := none }, accessFlags := 0, code := some k2c2 }
def k2c3 : Code := { maxStack := 2, maxLocals := 1, code := prog_85_method_17_code, exceptionTable := #[], attributes := #[] }
def k2m3 : Method := { name := "begin", desc := "()V", sig := { parameters := [], returnType := none }, accessFlags := 0, code := some k2c3 }
def k2c4 : Code := { maxStack := 2, maxLocals := 1, code := prog_85_method_18_code, exceptionTable := #[], attributes := #[] }
def k2m4 : Method := { name := "spoil", desc := "()V", sig := { parameters := [], returnType := none }, accessFlags := 0, code := some k2c4 }
def k2c5 : Code := { maxStack := 2, maxLocals := 1, code := prog_85_method_19_code, exceptionTable := #[], attributes := #[] }
def k2m5 : Method := { name := "endTransaction", desc := "()V", sig := { parameters := [], returnType := none }, accessFlags := 0, code := some k2c5 }
/-- com/example/intercept_rows/interceptrows/engine/Session -/
def k2 : Class := { plain "com/example/intercept_rows/interceptrows/engine/Session" (some 0) with
  accessFlags := 33
  interfaces := #[]
  cf := some (fileOf pool2 11 #[] #[{ accessFlags := 1, nameIndex := 5, descriptorIndex := 129, attributes := #[] }, { accessFlags := 0, nameIndex := 147, descriptorIndex := 142, attributes := #[] }, { accessFlags := 0, nameIndex := 149, descriptorIndex := 143, attributes := #[] }, { accessFlags := 0, nameIndex := 150, descriptorIndex := 6, attributes := #[] }, { accessFlags := 0, nameIndex := 151, descriptorIndex := 6, attributes := #[] }, { accessFlags := 0, nameIndex := 152, descriptorIndex := 6, attributes := #[] }] 33 2 #[] #[{ accessFlags := 18, nameIndex := 21, descriptorIndex := 32, attributes := #[] }, { accessFlags := 18, nameIndex := 14, descriptorIndex := 15, attributes := #[] }, { accessFlags := 2, nameIndex := 18, descriptorIndex := 19, attributes := #[] }, { accessFlags := 2, nameIndex := 125, descriptorIndex := 19, attributes := #[] }, { accessFlags := 2, nameIndex := 128, descriptorIndex := 19, attributes := #[] }])
  fields := #[{ name := "database", type := (.object "com/example/intercept_rows/interceptrows/engine/Database"), accessFlags := 18, slot := 0, constantValue := 0 }, { name := "variables", type := (.object "com/example/intercept_rows/interceptrows/engine/UserVariables"), accessFlags := 18, slot := 1, constantValue := 0 }, { name := "autoCommit", type := .boolean, accessFlags := 2, slot := 2, constantValue := 0 }, { name := "begun", type := .boolean, accessFlags := 2, slot := 3, constantValue := 0 }, { name := "spoiled", type := .boolean, accessFlags := 2, slot := 4, constantValue := 0 }]
  methods := #[k2m0, k2m1, k2m2, k2m3, k2m4, k2m5]
  instanceTypes := #[(.object "com/example/intercept_rows/interceptrows/engine/Database"), (.object "com/example/intercept_rows/interceptrows/engine/UserVariables"), .boolean, .boolean, .boolean]
  staticTypes := #[]
  resolved := Array.replicate 155 none
  statics := none }

def pool3 : Array CpInfo := pool [(1, .fieldref 2 3), (0, .class_ 4), (0, .nameAndType 5 6), (0, u "com/example/intercept_rows/interceptrows/engine/Database"), (0, u "DEFAULT_LOCK_WAIT"), (0, u "Ljava/time/Duration;"), (0, .methodref 2 8), (0, .nameAndType 9 10), (0, u "<init>"), (0, u "(Ljava/time/Duration;)V"), (0, .methodref 12 13), (0, .class_ 14), (0, .nameAndType 9 15), (0, u "java/lang/Object"), (0, u "()V"), (0, .class_ 17), (0, u "java/util/HashMap"), (0, .methodref 16 13), (0, .fieldref 2 20), (0, .nameAndType 21 22), (0, u "relations"), (0, u "Ljava/util/Map;"), (0, .fieldref 2 24), (0, .nameAndType 25 22), (0, u "functions"), (0, .class_ 27), (0, u "com/example/intercept_rows/interceptrows/engine/DatabaseLock"), (0, .methodref 26 13), (0, .fieldref 2 30), (0, .nameAndType 31 32), (0, u "lock"), (0, u "Lcom/example/intercept_rows/interceptrows/engine/DatabaseLock;"), (0, .class_ 34), (0, u "com/example/intercept_rows/interceptrows/engine/TriggerNesting"), (0, .methodref 33 13), (0, .fieldref 2 37), (0, .nameAndType 38 39), (0, u "nesting"), (0, u "Lcom/example/intercept_rows/interceptrows/engine/TriggerNesting;"), (0, .methodref 41 42), (0, .class_ 43), (0, .nameAndType 44 45), (0, u "java/time/Duration"), (0, u "isNegative"), (0, u "()Z"), (15, .fieldref 2 62), (0, .nameAndType 63 6), (0, u "LONGEST_LOCK_WAIT"), (0, .methodref 41 65), (0, .nameAndType 66 67), (0, u "compareTo"), (0, u "(Ljava/time/Duration;)I"), (0, .methodref 41 69), (0, .nameAndType 70 71), (0, u "toNanos"), (0, u "()J"), (2, .long 9223372036854775807), (1, .fieldref 2 77), (0, .nameAndType 78 79), (0, u "lockWaitNanos"), (0, u "J"), (75, u "openedBy"), (0, u "Lcom/example/intercept_rows/interceptrows/engine/Session;"), (89, u "transaction"), (0, u "Lcom/example/intercept_rows/interceptrows/engine/UndoLog;"), (2, u "running"), (2, u "undo"), (2, u "ranOut"), (0, u "Ljava/lang/VirtualMachineError;"), (59, .class_ 319), (1, u "com/example/intercept_rows/interceptrows/engine/Database$1"), (80, u "unfinished"), (4, u "SETTLE_AFTER_RUNNING_OUT"), (0, u "Ljava/util/function/BiConsumer;"), (2, u "SETTLE"), (442, u "relationsTakenBack"), (0, u "I"), (48, u "TRANSACTION_CONTROL"), (0, u "Ljava/lang/String;")] 191

def k3c0 : Code := { maxStack := 2, maxLocals := 1, code := prog_30_method_1_code, exceptionTable := #[], attributes := #[] }
def k3m0 : Method := { name := "<init>", desc := "()V", sig := { parameters := [], returnType := none }, accessFlags := 1, code := some k3c0 }
def k3c1 : Code := { maxStack := 3, maxLocals := 2, code := prog_30_method_2_code, exceptionTable := #[], attributes := #[] }
def k3m1 : Method := { name := "<init>", desc := "(Ljava/time/Duration;)V", sig := { parameters := [(.object "java/time/Duration")], returnType := none }, accessFlags := 1, code := some k3c1 }
/-- com/example/intercept_rows/interceptrows/engine/Database -/
def k3 : Class := { plain "com/example/intercept_rows/interceptrows/engine/Database" (some 0) with
  accessFlags := 33
  interfaces := #[]
  cf := some (fileOf pool3 2 #[.nestMembers #[317]] #[{ accessFlags := 1, nameIndex := 9, descriptorIndex := 15, attributes := #[] }, { accessFlags := 1, nameIndex := 9, descriptorIndex := 10, attributes := #[] }] 33 12 #[] #[{ accessFlags := 25, nameIndex := 5, descriptorIndex := 6, attributes := #[] }, { accessFlags := 26, nameIndex := 63, descriptorIndex := 6, attributes := #[] }, { accessFlags := 26, nameIndex := 902, descriptorIndex := 903, attributes := #[] }, { accessFlags := 26, nameIndex := 409, descriptorIndex := 406, attributes := #[] }, { accessFlags := 26, nameIndex := 405, descriptorIndex := 406, attributes := #[] }, { accessFlags := 18, nameIndex := 21, descriptorIndex := 22, attributes := #[] }, { accessFlags := 18, nameIndex := 25, descriptorIndex := 22, attributes := #[] }, { accessFlags := 18, nameIndex := 31, descriptorIndex := 32, attributes := #[] }, { accessFlags := 18, nameIndex := 38, descriptorIndex := 39, attributes := #[] }, { accessFlags := 18, nameIndex := 78, descriptorIndex := 79, attributes := #[] }, { accessFlags := 2, nameIndex := 852, descriptorIndex := 853, attributes := #[] }, { accessFlags := 2, nameIndex := 155, descriptorIndex := 156, attributes := #[] }, { accessFlags := 2, nameIndex := 246, descriptorIndex := 247, attributes := #[] }, { accessFlags := 2, nameIndex := 400, descriptorIndex := 247, attributes := #[] }, { accessFlags := 2, nameIndex := 250, descriptorIndex := 156, attributes := #[] }, { accessFlags := 2, nameIndex := 253, descriptorIndex := 247, attributes := #[] }, { accessFlags := 2, nameIndex := 256, descriptorIndex := 257, attributes := #[] }])
  fields := #[{ name := "DEFAULT_LOCK_WAIT", type := (.object "java/time/Duration"), accessFlags := 25, slot := 0, constantValue := 0 }, { name := "LONGEST_LOCK_WAIT", type := (.object "java/time/Duration"), accessFlags := 26, slot := 1, constantValue := 0 }, { name := "TRANSACTION_CONTROL", type := (.object "java/lang/String"), accessFlags := 26, slot := 2, constantValue := 0 }, { name := "SETTLE", type := (.object "java/util/function/BiConsumer"), accessFlags := 26, slot := 3, constantValue := 0 }, { name := "SETTLE_AFTER_RUNNING_OUT", type := (.object "java/util/function/BiConsumer"), accessFlags := 26, slot := 4, constantValue := 0 }, { name := "relations", type := (.object "java/util/Map"), accessFlags := 18, slot := 0, constantValue := 0 }, { name := "functions", type := (.object "java/util/Map"), accessFlags := 18, slot := 1, constantValue := 0 }, { name := "lock", type := (.object "com/example/intercept_rows/interceptrows/engine/DatabaseLock"), accessFlags := 18, slot := 2, constantValue := 0 }, { name := "nesting", type := (.object "com/example/intercept_rows/interceptrows/engine/TriggerNesting"), accessFlags := 18, slot := 3, constantValue := 0 }, { name := "lockWaitNanos", type := .long, accessFlags := 18, slot := 4, constantValue := 0 }, { name := "relationsTakenBack", type := .int, accessFlags := 2, slot := 5, constantValue := 0 }, { name := "openedBy", type := (.object "com/example/intercept_rows/interceptrows/engine/Session"), accessFlags := 2, slot := 6, constantValue := 0 }, { name := "transaction", type := (.object "com/example/intercept_rows/interceptrows/engine/UndoLog"), accessFlags := 2, slot := 7, constantValue := 0 }, { name := "unfinished", type := (.object "com/example/intercept_rows/interceptrows/engine/UndoLog"), accessFlags := 2, slot := 8, constantValue := 0 }, { name := "running", type := (.object "com/example/intercept_rows/interceptrows/engine/Session"), accessFlags := 2, slot := 9, constantValue := 0 }, { name := "undo", type := (.object "com/example/intercept_rows/interceptrows/engine/UndoLog"), accessFlags := 2, slot := 10, constantValue := 0 }, { name := "ranOut", type := (.object "java/lang/VirtualMachineError"), accessFlags := 2, slot := 11, constantValue := 0 }]
  methods := #[k3m0, k3m1]
  instanceTypes := #[(.object "java/util/Map"), (.object "java/util/Map"), (.object "com/example/intercept_rows/interceptrows/engine/DatabaseLock"), (.object "com/example/intercept_rows/interceptrows/engine/TriggerNesting"), .long, .int, (.object "com/example/intercept_rows/interceptrows/engine/Session"), (.object "com/example/intercept_rows/interceptrows/engine/UndoLog"), (.object "com/example/intercept_rows/interceptrows/engine/UndoLog"), (.object "com/example/intercept_rows/interceptrows/engine/Session"), (.object "com/example/intercept_rows/interceptrows/engine/UndoLog"), (.object "java/lang/VirtualMachineError")]
  staticTypes := #[(.object "java/time/Duration"), (.object "java/time/Duration"), (.object "java/lang/String"), (.object "java/util/function/BiConsumer"), (.object "java/util/function/BiConsumer")]
  resolved := Array.replicate 1095 none
  statics := some 0 }

def pool4 : Array CpInfo := pool [(2, .class_ 4), (1, u "java/util/Map"), (31, .class_ 37), (0, u "java/util/Map$Entry"), (55, .class_ 94), (0, u "java/lang/Object")] 168

/-- java/util/Map -/
def k4 : Class := { plain "java/util/Map" (some 0) with
  accessFlags := 1537
  interfaces := #[]
  cf := some (fileOf pool4 2 #[.nestMembers #[36]] #[] 1537 93 #[] #[])
  fields := #[]
  methods := #[]
  instanceTypes := #[]
  staticTypes := #[]
  resolved := Array.replicate 263 none
  statics := none }

def pool5 : Array CpInfo := pool [(1, .methodref 2 3), (0, .class_ 4), (0, .nameAndType 5 6), (0, u "java/lang/Object"), (0, u "<init>"), (0, u "()V"), (1, .class_ 10), (1, u "java/util/AbstractMap"), (42, .class_ 54), (0, u "java/util/Map"), (9, u "keySet"), (0, u "Ljava/util/Set;"), (0, .class_ 67), (0, u "java/util/AbstractMap$1"), (5, u "values"), (0, u "Ljava/util/Collection;"), (0, .class_ 76), (0, u "java/util/AbstractMap$2"), (104, .class_ 182), (0, u "java/util/AbstractMap$ViewCollection"), (0, .class_ 184), (0, u "java/util/AbstractMap$SimpleImmutableEntry"), (0, .class_ 186), (0, u "java/util/AbstractMap$SimpleEntry"), (0, .class_ 188), (0, u "java/util/AbstractMap$2$1"), (0, .class_ 190), (0, u "java/util/AbstractMap$1$1")] 5

def k5c0 : Code := { maxStack := 1, maxLocals := 1, code := jdk_71_method_1_code, exceptionTable := #[], attributes := #[] }
def k5m0 : Method := { name := "<init>", desc := "()V", sig := { parameters := [], returnType := none }, accessFlags := 4, code := some k5c0 }
/-- java/util/AbstractMap -/
def k5 : Class := { plain "java/util/AbstractMap" (some 0) with
  accessFlags := 1057
  interfaces := #[4]
  cf := some (fileOf pool5 8 #[.nestMembers #[181, 183, 185, 75, 187, 66, 189]] #[{ accessFlags := 4, nameIndex := 5, descriptorIndex := 6, attributes := #[] }] 1057 2 #[53] #[{ accessFlags := 128, nameIndex := 64, descriptorIndex := 65, attributes := #[] }, { accessFlags := 128, nameIndex := 73, descriptorIndex := 74, attributes := #[] }])
  fields := #[{ name := "keySet", type := (.object "java/util/Set"), accessFlags := 128, slot := 0, constantValue := 0 }, { name := "values", type := (.object "java/util/Collection"), accessFlags := 128, slot := 1, constantValue := 0 }]
  methods := #[k5m0]
  instanceTypes := #[(.object "java/util/Set"), (.object "java/util/Collection")]
  staticTypes := #[]
  resolved := Array.replicate 196 none
  statics := none }

def pool6 : Array CpInfo := pool [(1, .class_ 2), (0, u "java/lang/Cloneable"), (0, .class_ 4), (0, u "java/lang/Object")] 2

/-- java/lang/Cloneable -/
def k6 : Class := { plain "java/lang/Cloneable" (some 0) with
  accessFlags := 1537
  interfaces := #[]
  cf := some (fileOf pool6 1 #[] #[] 1537 3 #[] #[])
  fields := #[]
  methods := #[]
  instanceTypes := #[]
  staticTypes := #[]
  resolved := Array.replicate 7 none
  statics := none }

def pool7 : Array CpInfo := pool [(1, .class_ 2), (0, u "java/io/Serializable"), (0, .class_ 4), (0, u "java/lang/Object")] 2

/-- java/io/Serializable -/
def k7 : Class := { plain "java/io/Serializable" (some 0) with
  accessFlags := 1537
  interfaces := #[]
  cf := some (fileOf pool7 1 #[] #[] 1537 3 #[] #[])
  fields := #[]
  methods := #[]
  instanceTypes := #[]
  staticTypes := #[]
  resolved := Array.replicate 7 none
  statics := none }

def pool8 : Array CpInfo := pool [(40, .class_ 41), (0, u "java/util/HashMap"), (1, .methodref 44 45), (0, .class_ 46), (0, .nameAndType 47 48), (0, u "java/util/AbstractMap"), (0, u "<init>"), (0, u "()V"), (32, .fieldref 40 82), (0, .nameAndType 83 84), (0, u "loadFactor"), (0, u "F"), (5, u "threshold"), (0, u "I"), (0, .float 1061158912), (8, .class_ 103), (1, u "java/util/Map"), (0, u "size"), (2, u "table"), (0, u "[Ljava/util/HashMap$Node;"), (14, u "entrySet"), (39, .class_ 165), (1, u "java/util/HashMap$Node"), (14, .class_ 181), (0, u "java/util/HashMap$TreeNode"), (22, u "modCount"), (37, u "Ljava/util/Set;"), (0, .class_ 244), (0, u "java/util/HashMap$KeySet"), (18, .class_ 264), (0, u "java/util/HashMap$Values"), (3, .class_ 269), (0, u "java/util/HashMap$EntrySet"), (76, .class_ 348), (1, u "java/util/HashMap$UnsafeHolder"), (43, .class_ 393), (0, u "java/lang/Cloneable"), (0, .class_ 395), (0, u "java/io/Serializable"), (0, u "serialVersionUID"), (0, u "J"), (3, u "DEFAULT_INITIAL_CAPACITY"), (1, u "MAXIMUM_CAPACITY"), (0, u "DEFAULT_LOAD_FACTOR"), (0, u "TREEIFY_THRESHOLD"), (1, u "UNTREEIFY_THRESHOLD"), (1, u "MIN_TREEIFY_CAPACITY"), (186, .class_ 597), (0, u "java/util/HashMap$EntrySpliterator"), (0, .class_ 599), (0, u "java/util/HashMap$ValueSpliterator"), (0, .class_ 601), (0, u "java/util/HashMap$KeySpliterator"), (0, .class_ 603), (0, u "java/util/HashMap$HashMapSpliterator"), (0, .class_ 605), (0, u "java/util/HashMap$EntryIterator"), (0, .class_ 607), (0, u "java/util/HashMap$ValueIterator"), (0, .class_ 609), (0, u "java/util/HashMap$KeyIterator"), (0, .class_ 611), (0, u "java/util/HashMap$HashIterator")] 17

def k8c0 : Code := { maxStack := 2, maxLocals := 1, code := jdk_69_method_7_code, exceptionTable := #[], attributes := #[] }
def k8m0 : Method := { name := "<init>", desc := "()V", sig := { parameters := [], returnType := none }, accessFlags := 1, code := some k8c0 }
/-- java/util/HashMap -/
def k8 : Class := { plain "java/util/HashMap" (some 5) with
  accessFlags := 33
  interfaces := #[4, 6, 7]
  cf := some (fileOf pool8 40 #[.nestMembers #[180, 596, 598, 600, 602, 604, 606, 608, 610, 346, 268, 263, 243, 163]] #[{ accessFlags := 1, nameIndex := 47, descriptorIndex := 48, attributes := #[] }] 33 44 #[101, 392, 394] #[{ accessFlags := 26, nameIndex := 396, descriptorIndex := 397, attributes := #[] }, { accessFlags := 24, nameIndex := 401, descriptorIndex := 91, attributes := #[] }, { accessFlags := 24, nameIndex := 403, descriptorIndex := 91, attributes := #[] }, { accessFlags := 24, nameIndex := 404, descriptorIndex := 84, attributes := #[] }, { accessFlags := 24, nameIndex := 405, descriptorIndex := 91, attributes := #[] }, { accessFlags := 24, nameIndex := 407, descriptorIndex := 91, attributes := #[] }, { accessFlags := 24, nameIndex := 409, descriptorIndex := 91, attributes := #[] }, { accessFlags := 128, nameIndex := 107, descriptorIndex := 108, attributes := #[] }, { accessFlags := 128, nameIndex := 123, descriptorIndex := 242, attributes := #[] }, { accessFlags := 128, nameIndex := 104, descriptorIndex := 91, attributes := #[] }, { accessFlags := 128, nameIndex := 204, descriptorIndex := 91, attributes := #[] }, { accessFlags := 0, nameIndex := 90, descriptorIndex := 91, attributes := #[] }, { accessFlags := 16, nameIndex := 83, descriptorIndex := 84, attributes := #[] }])
  fields := #[{ name := "serialVersionUID", type := .long, accessFlags := 26, slot := 0, constantValue := 0 }, { name := "DEFAULT_INITIAL_CAPACITY", type := .int, accessFlags := 24, slot := 1, constantValue := 0 }, { name := "MAXIMUM_CAPACITY", type := .int, accessFlags := 24, slot := 2, constantValue := 0 }, { name := "DEFAULT_LOAD_FACTOR", type := .float, accessFlags := 24, slot := 3, constantValue := 0 }, { name := "TREEIFY_THRESHOLD", type := .int, accessFlags := 24, slot := 4, constantValue := 0 }, { name := "UNTREEIFY_THRESHOLD", type := .int, accessFlags := 24, slot := 5, constantValue := 0 }, { name := "MIN_TREEIFY_CAPACITY", type := .int, accessFlags := 24, slot := 6, constantValue := 0 }, { name := "table", type := (.array (.object "java/util/HashMap$Node")), accessFlags := 128, slot := 2, constantValue := 0 }, { name := "entrySet", type := (.object "java/util/Set"), accessFlags := 128, slot := 3, constantValue := 0 }, { name := "size", type := .int, accessFlags := 128, slot := 4, constantValue := 0 }, { name := "modCount", type := .int, accessFlags := 128, slot := 5, constantValue := 0 }, { name := "threshold", type := .int, accessFlags := 0, slot := 6, constantValue := 0 }, { name := "loadFactor", type := .float, accessFlags := 16, slot := 7, constantValue := 0 }]
  methods := #[k8m0]
  instanceTypes := #[(.object "java/util/Set"), (.object "java/util/Collection"), (.array (.object "java/util/HashMap$Node")), (.object "java/util/Set"), .int, .int, .int, .float]
  staticTypes := #[.long, .int, .int, .float, .int, .int, .int]
  resolved := Array.replicate 629 none
  statics := none }

def pool9 : Array CpInfo := pool [(1, .methodref 2 3), (0, .class_ 4), (0, .nameAndType 5 6), (0, u "java/lang/Object"), (0, u "<init>"), (0, u "()V"), (7, .class_ 16), (1, u "com/example/intercept_rows/interceptrows/engine/DatabaseLock"), (0, u "holder"), (0, u "Ljava/lang/Thread;"), (2, u "AWAITED"), (0, u "Ljava/util/Map;"), (29, u "holds"), (0, u "I")] 55

def k9c0 : Code := { maxStack := 1, maxLocals := 1, code := prog_33_method_1_code, exceptionTable := #[], attributes := #[] }
def k9m0 : Method := { name := "<init>", desc := "()V", sig := { parameters := [], returnType := none }, accessFlags := 0, code := some k9c0 }
/-- com/example/intercept_rows/interceptrows/engine/DatabaseLock -/
def k9 : Class := { plain "com/example/intercept_rows/interceptrows/engine/DatabaseLock" (some 0) with
  accessFlags := 32
  interfaces := #[]
  cf := some (fileOf pool9 14 #[] #[{ accessFlags := 0, nameIndex := 5, descriptorIndex := 6, attributes := #[] }] 32 2 #[] #[{ accessFlags := 26, nameIndex := 21, descriptorIndex := 22, attributes := #[] }, { accessFlags := 66, nameIndex := 17, descriptorIndex := 18, attributes := #[] }, { accessFlags := 2, nameIndex := 52, descriptorIndex := 53, attributes := #[] }])
  fields := #[{ name := "AWAITED", type := (.object "java/util/Map"), accessFlags := 26, slot := 0, constantValue := 0 }, { name := "holder", type := (.object "java/lang/Thread"), accessFlags := 66, slot := 0, constantValue := 0 }, { name := "holds", type := .int, accessFlags := 2, slot := 1, constantValue := 0 }]
  methods := #[k9m0]
  instanceTypes := #[(.object "java/lang/Thread"), .int]
  staticTypes := #[(.object "java/util/Map")]
  resolved := Array.replicate 109 none
  statics := none }

def pool10 : Array CpInfo := pool [(1, .methodref 2 3), (0, .class_ 4), (0, .nameAndType 5 6), (0, u "java/lang/Object"), (0, u "<init>"), (0, u "()V"), (1, .class_ 10), (1, u "com/example/intercept_rows/interceptrows/engine/TriggerNesting"), (0, u "depth"), (0, u "I"), (15, u "deepest"), (18, u "MAX_DEPTH"), (2, u "DEEP_FROM")] 14

def k10c0 : Code := { maxStack := 1, maxLocals := 1, code := prog_114_method_1_code, exceptionTable := #[], attributes := #[] }
def k10m0 : Method := { name := "<init>", desc := "()V", sig := { parameters := [], returnType := none }, accessFlags := 0, code := some k10c0 }
/-- com/example/intercept_rows/interceptrows/engine/TriggerNesting -/
def k10 : Class := { plain "com/example/intercept_rows/interceptrows/engine/TriggerNesting" (some 0) with
  accessFlags := 32
  interfaces := #[]
  cf := some (fileOf pool10 8 #[] #[{ accessFlags := 0, nameIndex := 5, descriptorIndex := 6, attributes := #[] }] 32 2 #[] #[{ accessFlags := 24, nameIndex := 47, descriptorIndex := 12, attributes := #[] }, { accessFlags := 24, nameIndex := 50, descriptorIndex := 12, attributes := #[] }, { accessFlags := 2, nameIndex := 11, descriptorIndex := 12, attributes := #[] }, { accessFlags := 2, nameIndex := 28, descriptorIndex := 12, attributes := #[] }])
  fields := #[{ name := "MAX_DEPTH", type := .int, accessFlags := 24, slot := 0, constantValue := 0 }, { name := "DEEP_FROM", type := .int, accessFlags := 24, slot := 1, constantValue := 0 }, { name := "depth", type := .int, accessFlags := 2, slot := 0, constantValue := 0 }, { name := "deepest", type := .int, accessFlags := 2, slot := 1, constantValue := 0 }]
  methods := #[k10m0]
  instanceTypes := #[.int, .int]
  staticTypes := #[.int, .int]
  resolved := Array.replicate 65 none
  statics := none }

def pool11 : Array CpInfo := pool [(1, .class_ 2), (0, u "java/time/temporal/TemporalAmount"), (0, .class_ 4), (0, u "java/lang/Object")] 11

/-- java/time/temporal/TemporalAmount -/
def k11 : Class := { plain "java/time/temporal/TemporalAmount" (some 0) with
  accessFlags := 1537
  interfaces := #[]
  cf := some (fileOf pool11 1 #[] #[] 1537 3 #[] #[])
  fields := #[]
  methods := #[]
  instanceTypes := #[]
  staticTypes := #[]
  resolved := Array.replicate 16 none
  statics := none }

def pool12 : Array CpInfo := pool [(1, .class_ 2), (0, u "java/lang/Comparable"), (0, .class_ 4), (0, u "java/lang/Object")] 7

/-- java/lang/Comparable -/
def k12 : Class := { plain "java/lang/Comparable" (some 0) with
  accessFlags := 1537
  interfaces := #[]
  cf := some (fileOf pool12 1 #[] #[] 1537 3 #[] #[])
  fields := #[]
  methods := #[]
  instanceTypes := #[]
  staticTypes := #[]
  resolved := Array.replicate 12 none
  statics := none }

def pool13 : Array CpInfo := pool [(5, .class_ 7), (1, u "java/lang/Math"), (0, u "multiplyExact"), (2, .class_ 13), (1, u "java/time/Duration"), (2, .long 1000000000), (4, u "(JJ)J"), (0, .methodref 5 23), (0, .nameAndType 24 21), (0, u "addExact"), (9, u "ZERO"), (0, u "Ljava/time/Duration;"), (13, .class_ 51), (1, u "java/time/temporal/TemporalAmount"), (13, u "()Z"), (13, .class_ 81), (1, u "java/time/Duration$Lazy"), (35, u "seconds"), (29, .class_ 149), (1, u "java/lang/Long"), (69, .class_ 220), (0, u "java/lang/Object"), (0, .fieldref 11 222), (0, .nameAndType 117 223), (0, u "J"), (0, .fieldref 11 225), (0, .nameAndType 226 227), (0, u "nanos"), (0, u "I"), (11, .class_ 241), (1, u "java/time/Duration$DurationUnits"), (9, u "()J"), (17, .class_ 271), (1, u "java/time/Duration$1"), (17, .methodref 5 290), (0, .nameAndType 8 21), (72, u "BI_NANOS_PER_SECOND"), (0, u "Ljava/math/BigInteger;"), (21, u "isNegative"), (24, u "toNanos"), (4, .methodref 147 417), (0, .nameAndType 418 419), (0, u "compare"), (0, u "(JJ)I"), (60, u "compareTo"), (0, u "(Ljava/time/Duration;)I"), (3, .class_ 486), (0, u "java/lang/Comparable"), (0, .class_ 488), (0, u "java/io/Serializable"), (0, u "serialVersionUID")] 166

def k13c0 : Code := { maxStack := 4, maxLocals := 1, code := jdk_2316_method_22_code, exceptionTable := #[], attributes := #[] }
def k13m0 : Method := { name := "isNegative", desc := "()Z", sig := { parameters := [], returnType := some .boolean }, accessFlags := 1, code := some k13c0 }
def k13c1 : Code := { maxStack := 4, maxLocals := 7, code := jdk_2316_method_58_code, exceptionTable := #[], attributes := #[] }
def k13m1 : Method := { name := "toNanos", desc := "()J", sig := { parameters := [], returnType := some .long }, accessFlags := 1, code := some k13c1 }
def k13c2 : Code := { maxStack := 4, maxLocals := 3, code := jdk_2316_method_66_code, exceptionTable := #[], attributes := #[] }
def k13m2 : Method := { name := "compareTo", desc := "(Ljava/time/Duration;)I", sig := { parameters := [(.object "java/time/Duration")], returnType := some .int }, accessFlags := 1, code := some k13c2 }
/-- java/time/Duration -/
def k13 : Class := { plain "java/time/Duration" (some 0) with
  accessFlags := 49
  interfaces := #[11, 12, 7]
  cf := some (fileOf pool13 11 #[.nestMembers #[269, 239, 79]] #[{ accessFlags := 1, nameIndex := 386, descriptorIndex := 65, attributes := #[] }, { accessFlags := 1, nameIndex := 411, descriptorIndex := 251, attributes := #[] }, { accessFlags := 1, nameIndex := 480, descriptorIndex := 481, attributes := #[] }] 49 219 #[49, 485, 487] #[{ accessFlags := 25, nameIndex := 34, descriptorIndex := 35, attributes := #[] }, { accessFlags := 26, nameIndex := 489, descriptorIndex := 223, attributes := #[] }, { accessFlags := 26, nameIndex := 363, descriptorIndex := 364, attributes := #[] }, { accessFlags := 18, nameIndex := 117, descriptorIndex := 223, attributes := #[] }, { accessFlags := 18, nameIndex := 226, descriptorIndex := 227, attributes := #[] }])
  fields := #[{ name := "ZERO", type := (.object "java/time/Duration"), accessFlags := 25, slot := 0, constantValue := 0 }, { name := "serialVersionUID", type := .long, accessFlags := 26, slot := 1, constantValue := 0 }, { name := "BI_NANOS_PER_SECOND", type := (.object "java/math/BigInteger"), accessFlags := 26, slot := 2, constantValue := 0 }, { name := "seconds", type := .long, accessFlags := 18, slot := 0, constantValue := 0 }, { name := "nanos", type := .int, accessFlags := 18, slot := 1, constantValue := 0 }]
  methods := #[k13m0, k13m1, k13m2]
  instanceTypes := #[.long, .int]
  staticTypes := #[(.object "java/time/Duration"), .long, (.object "java/math/BigInteger")]
  resolved := Array.replicate 656 none
  statics := none }

def pool14 : Array CpInfo := pool [(2, .class_ 4), (1, u "java/lang/Object"), (0, u "<init>"), (0, u "()V"), (1, .class_ 10), (1, u "java/lang/Number"), (2, .class_ 14), (0, u "java/io/Serializable"), (0, u "serialVersionUID"), (0, u "J")] 20

def k14m0 : Method := { name := "<init>", desc := "()V", sig := { parameters := [], returnType := none }, accessFlags := 1, code := none }
/-- java/lang/Number -/
def k14 : Class := { plain "java/lang/Number" (some 0) with
  accessFlags := 1057
  interfaces := #[7]
  cf := some (fileOf pool14 8 #[] #[{ accessFlags := 1, nameIndex := 5, descriptorIndex := 6, attributes := #[] }] 1057 2 #[13] #[{ accessFlags := 26, nameIndex := 15, descriptorIndex := 16, attributes := #[] }])
  fields := #[{ name := "serialVersionUID", type := .long, accessFlags := 26, slot := 0, constantValue := 0 }]
  methods := #[k14m0]
  instanceTypes := #[]
  staticTypes := #[.long]
  resolved := Array.replicate 37 none
  statics := none }

def pool15 : Array CpInfo := pool [(1, .class_ 2), (0, u "java/lang/constant/Constable"), (0, .class_ 4), (0, u "java/lang/Object")] 6

/-- java/lang/constant/Constable -/
def k15 : Class := { plain "java/lang/constant/Constable" (some 0) with
  accessFlags := 1537
  interfaces := #[]
  cf := some (fileOf pool15 1 #[] #[] 1537 3 #[] #[])
  fields := #[]
  methods := #[]
  instanceTypes := #[]
  staticTypes := #[]
  resolved := Array.replicate 11 none
  statics := none }

def pool16 : Array CpInfo := pool [(1, .class_ 2), (0, u "java/lang/constant/ConstantDesc"), (0, .class_ 4), (0, u "java/lang/Object")] 32

/-- java/lang/constant/ConstantDesc -/
def k16 : Class := { plain "java/lang/constant/ConstantDesc" (some 0) with
  accessFlags := 1537
  interfaces := #[]
  cf := some (fileOf pool16 1 #[] #[] 1537 3 #[] #[])
  fields := #[]
  methods := #[]
  instanceTypes := #[]
  staticTypes := #[]
  resolved := Array.replicate 37 none
  statics := none }

def pool17 : Array CpInfo := pool [(1, .class_ 2), (0, u "java/lang/Long"), (232, .class_ 237), (1, u "java/lang/Long$LongCache"), (33, .class_ 272), (0, u "java/lang/Number"), (2, u "value"), (0, u "J"), (27, u "compare"), (0, u "(JJ)I"), (55, u "TYPE"), (0, u "Ljava/lang/Class;"), (0, .class_ 364), (0, u "java/lang/Comparable"), (0, .class_ 366), (0, u "java/lang/constant/Constable"), (0, .class_ 368), (0, u "java/lang/constant/ConstantDesc"), (0, u "MIN_VALUE"), (1, u "MAX_VALUE"), (4, u "SIZE"), (0, u "I"), (1, u "BYTES"), (1, u "serialVersionUID")] 142

def k17c0 : Code := { maxStack := 4, maxLocals := 4, code := jdk_35_method_42_code, exceptionTable := #[], attributes := #[] }
def k17m0 : Method := { name := "compare", desc := "(JJ)I", sig := { parameters := [.long, .long], returnType := some .int }, accessFlags := 9, code := some k17c0 }
/-- java/lang/Long -/
def k17 : Class := { plain "java/lang/Long" (some 14) with
  accessFlags := 49
  interfaces := #[12, 15, 16]
  cf := some (fileOf pool17 1 #[.nestMembers #[235]] #[{ accessFlags := 9, nameIndex := 304, descriptorIndex := 305, attributes := #[] }] 49 271 #[363, 365, 367] #[{ accessFlags := 25, nameIndex := 369, descriptorIndex := 276, attributes := #[] }, { accessFlags := 25, nameIndex := 371, descriptorIndex := 276, attributes := #[] }, { accessFlags := 25, nameIndex := 361, descriptorIndex := 362, attributes := #[] }, { accessFlags := 18, nameIndex := 275, descriptorIndex := 276, attributes := #[] }, { accessFlags := 25, nameIndex := 376, descriptorIndex := 377, attributes := #[] }, { accessFlags := 25, nameIndex := 379, descriptorIndex := 377, attributes := #[] }, { accessFlags := 26, nameIndex := 381, descriptorIndex := 276, attributes := #[] }])
  fields := #[{ name := "MIN_VALUE", type := .long, accessFlags := 25, slot := 0, constantValue := 0 }, { name := "MAX_VALUE", type := .long, accessFlags := 25, slot := 1, constantValue := 0 }, { name := "TYPE", type := (.object "java/lang/Class"), accessFlags := 25, slot := 2, constantValue := 0 }, { name := "value", type := .long, accessFlags := 18, slot := 0, constantValue := 0 }, { name := "SIZE", type := .int, accessFlags := 25, slot := 3, constantValue := 0 }, { name := "BYTES", type := .int, accessFlags := 25, slot := 4, constantValue := 0 }, { name := "serialVersionUID", type := .long, accessFlags := 26, slot := 5, constantValue := 0 }]
  methods := #[k17m0]
  instanceTypes := #[.long]
  staticTypes := #[.long, .long, (.object "java/lang/Class"), .int, .int, .long]
  resolved := Array.replicate 524 none
  statics := none }

def pool18 : Array CpInfo := pool [(1, .class_ 2), (0, u "java/lang/Math"), (1, .class_ 6), (1, u "java/lang/Object"), (0, u "<init>"), (0, u "()V"), (89, .class_ 100), (1, u "java/lang/Math$RandomNumberGeneratorHolder"), (19, u "multiplyExact"), (0, u "(JJ)J"), (0, .methodref 1 123), (0, .nameAndType 124 125), (0, u "abs"), (0, u "(J)J"), (46, u "negativeZeroFloatBits"), (0, u "J"), (2, u "negativeZeroDoubleBits"), (68, u "$assertionsDisabled"), (0, u "Z"), (91, u "twoToTheDoubleScaleDown"), (0, u "D"), (4, u "twoToTheDoubleScaleUp"), (9, u "E"), (3, u "PI"), (2, u "TAU"), (2, u "DEGREES_TO_RADIANS"), (0, u "RADIANS_TO_DEGREES"), (27, u "addExact")] 66

def k18m0 : Method := { name := "<init>", desc := "()V", sig := { parameters := [], returnType := none }, accessFlags := 2, code := none }
def k18c1 : Code := { maxStack := 6, maxLocals := 6, code := jdk_29_method_25_code, exceptionTable := #[], attributes := #[] }
def k18m1 : Method := { name := "addExact", desc := "(JJ)J", sig := { parameters := [.long, .long], returnType := some .long }, accessFlags := 9, code := some k18c1 }
def k18c2 : Code := { maxStack := 4, maxLocals := 10, code := jdk_29_method_30_code, exceptionTable := #[], attributes := #[] }
def k18m2 : Method := { name := "multiplyExact", desc := "(JJ)J", sig := { parameters := [.long, .long], returnType := some .long }, accessFlags := 9, code := some k18c2 }
def k18c3 : Code := { maxStack := 4, maxLocals := 2, code := jdk_29_method_61_code, exceptionTable := #[], attributes := #[] }
def k18m3 : Method := { name := "abs", desc := "(J)J", sig := { parameters := [.long], returnType := some .long }, accessFlags := 9, code := some k18c3 }
/-- java/lang/Math -/
def k18 : Class := { plain "java/lang/Math" (some 0) with
  accessFlags := 49
  interfaces := #[]
  cf := some (fileOf pool18 1 #[.nestMembers #[98]] #[{ accessFlags := 2, nameIndex := 7, descriptorIndex := 8, attributes := #[] }, { accessFlags := 9, nameIndex := 393, descriptorIndex := 121, attributes := #[] }, { accessFlags := 9, nameIndex := 120, descriptorIndex := 121, attributes := #[] }, { accessFlags := 9, nameIndex := 124, descriptorIndex := 125, attributes := #[] }] 49 4 #[] #[{ accessFlags := 25, nameIndex := 354, descriptorIndex := 339, attributes := #[] }, { accessFlags := 25, nameIndex := 358, descriptorIndex := 339, attributes := #[] }, { accessFlags := 25, nameIndex := 361, descriptorIndex := 339, attributes := #[] }, { accessFlags := 26, nameIndex := 364, descriptorIndex := 339, attributes := #[] }, { accessFlags := 26, nameIndex := 365, descriptorIndex := 339, attributes := #[] }, { accessFlags := 26, nameIndex := 172, descriptorIndex := 173, attributes := #[] }, { accessFlags := 26, nameIndex := 176, descriptorIndex := 173, attributes := #[] }, { accessFlags := 8, nameIndex := 344, descriptorIndex := 339, attributes := #[] }, { accessFlags := 8, nameIndex := 338, descriptorIndex := 339, attributes := #[] }, { accessFlags := 4120, nameIndex := 245, descriptorIndex := 246, attributes := #[] }])
  fields := #[{ name := "E", type := .double, accessFlags := 25, slot := 0, constantValue := 0 }, { name := "PI", type := .double, accessFlags := 25, slot := 1, constantValue := 0 }, { name := "TAU", type := .double, accessFlags := 25, slot := 2, constantValue := 0 }, { name := "DEGREES_TO_RADIANS", type := .double, accessFlags := 26, slot := 3, constantValue := 0 }, { name := "RADIANS_TO_DEGREES", type := .double, accessFlags := 26, slot := 4, constantValue := 0 }, { name := "negativeZeroFloatBits", type := .long, accessFlags := 26, slot := 5, constantValue := 0 }, { name := "negativeZeroDoubleBits", type := .long, accessFlags := 26, slot := 6, constantValue := 0 }, { name := "twoToTheDoubleScaleUp", type := .double, accessFlags := 8, slot := 7, constantValue := 0 }, { name := "twoToTheDoubleScaleDown", type := .double, accessFlags := 8, slot := 8, constantValue := 0 }, { name := "$assertionsDisabled", type := .boolean, accessFlags := 4120, slot := 9, constantValue := 0 }]
  methods := #[k18m0, k18m1, k18m2, k18m3]
  instanceTypes := #[]
  staticTypes := #[.double, .double, .double, .double, .double, .long, .long, .double, .double, .boolean]
  resolved := Array.replicate 460 none
  statics := none }

def pool19 : Array CpInfo := pool [(1, .methodref 2 3), (0, .class_ 4), (0, .nameAndType 5 6), (0, u "java/lang/Object"), (0, u "<init>"), (0, u "()V"), (0, .class_ 8), (0, u "java/util/HashMap"), (0, .methodref 7 3), (0, .fieldref 11 12), (0, .class_ 13), (0, .nameAndType 14 15), (0, u "com/example/intercept_rows/interceptrows/engine/UserVariables"), (0, u "byName"), (0, u "Ljava/util/Map;")] 42

def k19c0 : Code := { maxStack := 3, maxLocals := 1, code := prog_122_method_1_code, exceptionTable := #[], attributes := #[] }
def k19m0 : Method := { name := "<init>", desc := "()V", sig := { parameters := [], returnType := none }, accessFlags := 0, code := some k19c0 }
/-- com/example/intercept_rows/interceptrows/engine/UserVariables -/
def k19 : Class := { plain "com/example/intercept_rows/interceptrows/engine/UserVariables" (some 0) with
  accessFlags := 32
  interfaces := #[]
  cf := some (fileOf pool19 11 #[] #[{ accessFlags := 0, nameIndex := 5, descriptorIndex := 6, attributes := #[] }] 32 2 #[] #[{ accessFlags := 18, nameIndex := 14, descriptorIndex := 15, attributes := #[] }])
  fields := #[{ name := "byName", type := (.object "java/util/Map"), accessFlags := 18, slot := 0, constantValue := 0 }]
  methods := #[k19m0]
  instanceTypes := #[(.object "java/util/Map")]
  staticTypes := #[]
  resolved := Array.replicate 58 none
  statics := none }

def pool20 : Array CpInfo := pool [(2, .class_ 4), (1, u "java/lang/CharSequence"), (42, .class_ 48), (0, u "java/lang/CharSequence$1CodePointIterator"), (10, .class_ 60), (0, u "java/lang/CharSequence$1CharIterator"), (5, .class_ 67), (0, u "java/lang/Object")] 63

/-- java/lang/CharSequence -/
def k20 : Class := { plain "java/lang/CharSequence" (some 0) with
  accessFlags := 1537
  interfaces := #[]
  cf := some (fileOf pool20 2 #[.nestMembers #[47, 59]] #[] 1537 66 #[] #[])
  fields := #[]
  methods := #[]
  instanceTypes := #[]
  staticTypes := #[]
  resolved := Array.replicate 131 none
  statics := none }

def pool21 : Array CpInfo := pool [(2, .class_ 4), (1, u "java/lang/Object"), (0, u "<init>"), (0, u "()V"), (3, .class_ 12), (1, u "java/lang/String"), (0, u "value"), (0, u "[B"), (2, u "coder"), (0, u "B"), (2, u "hash"), (0, u "I"), (2, u "hashIsZero"), (0, u "Z"), (13, u "COMPACT_STRINGS"), (534, .class_ 576), (0, u "java/lang/CharSequence"), (22, u "CASE_INSENSITIVE_ORDER"), (0, u "Ljava/util/Comparator;"), (500, u "serialPersistentFields"), (0, u "[Ljava/io/ObjectStreamField;"), (0, .class_ 1104), (0, u "java/lang/String$CaseInsensitiveComparator"), (1, .class_ 1107), (0, u "java/io/Serializable"), (0, .class_ 1109), (0, u "java/lang/Comparable"), (0, .class_ 1111), (0, u "java/lang/constant/Constable"), (0, .class_ 1113), (0, u "java/lang/constant/ConstantDesc"), (2, u "serialVersionUID"), (0, u "J"), (3, u "REPL"), (0, u "C"), (2, u "LATIN1"), (1, u "UTF16")] 323

def k21m0 : Method := { name := "<init>", desc := "()V", sig := { parameters := [], returnType := none }, accessFlags := 1, code := none }
/-- java/lang/String -/
def k21 : Class := { plain "java/lang/String" (some 0) with
  accessFlags := 49
  interfaces := #[7, 12, 20, 15, 16]
  cf := some (fileOf pool21 10 #[.nestMembers #[1103]] #[{ accessFlags := 1, nameIndex := 5, descriptorIndex := 6, attributes := #[] }] 49 2 #[1106, 1108, 575, 1110, 1112] #[{ accessFlags := 18, nameIndex := 13, descriptorIndex := 14, attributes := #[] }, { accessFlags := 18, nameIndex := 17, descriptorIndex := 18, attributes := #[] }, { accessFlags := 2, nameIndex := 21, descriptorIndex := 22, attributes := #[] }, { accessFlags := 2, nameIndex := 25, descriptorIndex := 26, attributes := #[] }, { accessFlags := 26, nameIndex := 1116, descriptorIndex := 1117, attributes := #[] }, { accessFlags := 24, nameIndex := 40, descriptorIndex := 26, attributes := #[] }, { accessFlags := 26, nameIndex := 1101, descriptorIndex := 1102, attributes := #[] }, { accessFlags := 26, nameIndex := 1121, descriptorIndex := 1122, attributes := #[] }, { accessFlags := 25, nameIndex := 599, descriptorIndex := 600, attributes := #[] }, { accessFlags := 24, nameIndex := 1125, descriptorIndex := 18, attributes := #[] }, { accessFlags := 24, nameIndex := 1127, descriptorIndex := 18, attributes := #[] }])
  fields := #[{ name := "value", type := (.array .byte), accessFlags := 18, slot := 0, constantValue := 0 }, { name := "coder", type := .byte, accessFlags := 18, slot := 1, constantValue := 0 }, { name := "hash", type := .int, accessFlags := 2, slot := 2, constantValue := 0 }, { name := "hashIsZero", type := .boolean, accessFlags := 2, slot := 3, constantValue := 0 }, { name := "serialVersionUID", type := .long, accessFlags := 26, slot := 0, constantValue := 0 }, { name := "COMPACT_STRINGS", type := .boolean, accessFlags := 24, slot := 1, constantValue := 0 }, { name := "serialPersistentFields", type := (.array (.object "java/io/ObjectStreamField")), accessFlags := 26, slot := 2, constantValue := 0 }, { name := "REPL", type := .char, accessFlags := 26, slot := 3, constantValue := 0 }, { name := "CASE_INSENSITIVE_ORDER", type := (.object "java/util/Comparator"), accessFlags := 25, slot := 4, constantValue := 0 }, { name := "LATIN1", type := .byte, accessFlags := 24, slot := 5, constantValue := 0 }, { name := "UTF16", type := .byte, accessFlags := 24, slot := 6, constantValue := 0 }]
  methods := #[k21m0]
  instanceTypes := #[(.array .byte), .byte, .int, .boolean]
  staticTypes := #[.long, .boolean, (.array (.object "java/io/ObjectStreamField")), .char, (.object "java/util/Comparator"), .byte, .byte]
  resolved := Array.replicate 1451 none
  statics := none }

def pool22 : Array CpInfo := pool [(2, .class_ 4), (1, u "java/lang/Object"), (0, u "<init>"), (0, u "()V"), (35, .class_ 44), (1, u "java/util/Objects"), (0, u "requireNonNull"), (48, u "(Ljava/lang/Object;Ljava/lang/String;)Ljava/lang/Object;")] 89

def k22m0 : Method := { name := "<init>", desc := "()V", sig := { parameters := [], returnType := none }, accessFlags := 2, code := none }
def k22c1 : Code := { maxStack := 3, maxLocals := 2, code := jdk_31_method_11_code, exceptionTable := #[], attributes := #[] }
def k22m1 : Method := { name := "requireNonNull", desc := "(Ljava/lang/Object;Ljava/lang/String;)Ljava/lang/Object;", sig := { parameters := [(.object "java/lang/Object"), (.object "java/lang/String")], returnType := some (.object "java/lang/Object") }, accessFlags := 9, code := some k22c1 }
/-- java/util/Objects -/
def k22 : Class := { plain "java/util/Objects" (some 0) with
  accessFlags := 49
  interfaces := #[]
  cf := some (fileOf pool22 42 #[] #[{ accessFlags := 2, nameIndex := 5, descriptorIndex := 6, attributes := #[] }, { accessFlags := 9, nameIndex := 45, descriptorIndex := 94, attributes := #[] }] 49 2 #[] #[])
  fields := #[]
  methods := #[k22m0, k22m1]
  instanceTypes := #[]
  staticTypes := #[]
  resolved := Array.replicate 184 none
  statics := none }

/-- the primitive boolean -/
def k23 : Class := { plain "boolean" none with kind := .primitive 'Z', accessFlags := 0x411 }
/-- [Z -/
def k24 : Class := { plain "[Z" (some 0) with kind := .array 23 .boolean, interfaces := #[6, 7], accessFlags := 1041 }

/-- the primitive byte -/
def k25 : Class := { plain "byte" none with kind := .primitive 'B', accessFlags := 0x411 }
/-- [B -/
def k26 : Class := { plain "[B" (some 0) with kind := .array 25 .byte, interfaces := #[6, 7], accessFlags := 1041 }

/-- the primitive int -/
def k27 : Class := { plain "int" none with kind := .primitive 'I', accessFlags := 0x411 }
/-- [I -/
def k28 : Class := { plain "[I" (some 0) with kind := .array 27 .int, interfaces := #[6, 7], accessFlags := 1041 }

def heap : Heap := #[{ cls := 3, slots := #[.ref 1, .ref 2, .null, .null, .null], vm := .statics 3 },
  { cls := 13, slots := #[.long 10, .int 0], vm := .none },
  { cls := 13, slots := #[.long 9223372036, .int 0], vm := .none }]
def classes : Array Class := #[k0, k1, k2, k3, k4, k5, k6, k7, k8, k9, k10, k11, k12, k13, k14, k15, k16, k17, k18, k19, k20, k21, k22, k23, k24, k25, k26, k27, k28]
def interned : List (Array UInt16 × Addr) := []
def slotsUsed : Nat := 9
def theMethod : MethodId := ⟨1, 1⟩
def args0 : Array Value := #[.int 83]
def aboutOver (below : List Frame) : State where
  vm := { classes := classes, interned := interned.toArray }
  heap := heap
  slotsUsed := slotsUsed
  threads := #[{ frames := .invoking theMethod args0 :: below }]
def below0 : List Frame := [.native { method := ⟨0, 0⟩, args := #[] }]
def about1 : State := aboutOver below0
def p0 : Program := .bare "" "" ""
def e0 : Env := launch0.env 0 0 0
theorem w_frames : about1.frames = Frame.invoking theMethod args0 :: below0 := rfl
set_option maxRecDepth 65536 in
theorem w_args : argsFit about1.vm theMethod args0 = true := by decide +kernel
set_option maxRecDepth 65536 in
theorem w_heap : heapFits about1 = true := by decide +kernel
set_option maxRecDepth 65536 in
theorem w_runnable : about1.curStatus? = some .runnable := by decide +kernel
set_option maxRecDepth 65536 in
theorem w_alone : about1.alone = true := by decide +kernel
set_option maxRecDepth 65536 in
theorem w_named : about1.methodNamed? x = some theMethod := by decide +kernel
set_option maxRecDepth 65536 in
theorem w_hears : about1.hears theMethod below0 = true := by decide +kernel
set_option maxRecDepth 65536 in
theorem w_ripe : about1.ripe theMethod args0 below0 = true := by decide +kernel
theorem w_running : about1.status = .running := rfl
set_option maxRecDepth 65536 in
theorem w_room : about1.hasRoom e0.platform room_1 = true :=
  launch0.hasRoom_least _ room_1 (by decide +kernel) (by decide +kernel) (by decide +kernel) (by decide +kernel) (by decide +kernel) (by decide +kernel)
theorem allAtoms_all (ts : List Jvm.Cond) (a : Array Jvm.Value) (st : Jvm.State) : (allAtoms ts).before a st = ts.all (fun c => c.before a st) := by
  induction ts with
  | nil => rfl
  | cons c t ih =>
    show (Jvm.Cond.and c (allAtoms t)).before a st = _
    rw [Jvm.Cond.before_and, ih, List.all_cons]
def words1 : List Jvm.Cond := Jvm.Cond.code x code maxLocals ret :: tables_1
/-- a 'code' word, met by the world's own term for the bytes: nothing is compared byte by byte -/
theorem code_word {y : MethodName} {bytes : ByteArray} {mx : Nat} {rt : Option FieldType} {a : Array Value} {s : State} {m : MethodId} {meth : Method} {c : Code} (h1 : s.methodNamed? y = some m) (h2 : s.vm.method? m = some meth) (h3 : meth.code = some c) (h4 : c.code = bytes)
    (h5 : (c.maxLocals == mx && c.exceptionTable.isEmpty && decide (c.maxStack ≤ mostOperands) && decide (meth.sig.returnType = rt) && !meth.locks && decide (parseMethodDescriptor y.desc = some meth.sig)) = true) : (Jvm.Cond.code y bytes mx rt).before a s = true := by
  simp only [Bool.and_eq_true, beq_iff_eq, Bool.not_eq_true', decide_eq_true_eq] at h5
  obtain ⟨⟨⟨⟨⟨g1, g2⟩, g3⟩, g4⟩, g5⟩, g6⟩ := h5
  simp [Cond.before, Cond.holds, Cond.value, h1, h2, h3, h4, g1, g2, g3, g4, g5, g6]
def isCode : Jvm.Cond → Bool
  | .code _ _ _ _ => true
  | _ => false
theorem all_split {L : List Jvm.Cond} {P : Jvm.Cond → Bool} (h1 : L.all (fun c => isCode c || P c) = true) (h2 : ∀ c ∈ L.filter isCode, P c = true) : L.all P = true := by
  refine List.all_eq_true.mpr fun c hc => ?_
  have h := List.all_eq_true.mp h1 c hc
  rcases Bool.eq_false_or_eq_true (isCode c) with hi | hi
  · exact h2 c (List.mem_filter.mpr ⟨hc, hi⟩)
  · simpa [hi] using h
set_option maxRecDepth 65536 in
theorem w_c0 : (Jvm.Cond.code x code maxLocals ret).before args0 about1 = true := code_word (m := ⟨1, 1⟩) (meth := k1m1) (c := k1c1) (by decide +kernel) rfl rfl rfl (by decide +kernel)
set_option maxRecDepth 65536 in
theorem w_c1 : (Jvm.Cond.code ({ cls := "com/example/intercept_rows/interceptrows/engine/Database", name := "<init>", desc := "()V" } : Jvm.MethodName) prog_30_method_1_code (1 : Nat) (Option.none : Option Jvm.ClassFile.FieldType)).before args0 about1 = true := code_word (m := ⟨3, 0⟩) (meth := k3m0) (c := k3c0) (by decide +kernel) rfl rfl rfl (by decide +kernel)
set_option maxRecDepth 65536 in
theorem w_c2 : (Jvm.Cond.code ({ cls := "com/example/intercept_rows/interceptrows/engine/Database", name := "<init>", desc := "(Ljava/time/Duration;)V" } : Jvm.MethodName) prog_30_method_2_code (2 : Nat) (Option.none : Option Jvm.ClassFile.FieldType)).before args0 about1 = true := code_word (m := ⟨3, 1⟩) (meth := k3m1) (c := k3c1) (by decide +kernel) rfl rfl rfl (by decide +kernel)
set_option maxRecDepth 65536 in
theorem w_c3 : (Jvm.Cond.code ({ cls := "java/lang/Object", name := "<init>", desc := "()V" } : Jvm.MethodName) object_method_1_code (1 : Nat) (Option.none : Option Jvm.ClassFile.FieldType)).before args0 about1 = true := code_word (m := ⟨0, 0⟩) (meth := k0m0) (c := k0c0) (by decide +kernel) rfl rfl rfl (by decide +kernel)
set_option maxRecDepth 65536 in
theorem w_c4 : (Jvm.Cond.code ({ cls := "java/util/HashMap", name := "<init>", desc := "()V" } : Jvm.MethodName) jdk_69_method_7_code (1 : Nat) (Option.none : Option Jvm.ClassFile.FieldType)).before args0 about1 = true := code_word (m := ⟨8, 0⟩) (meth := k8m0) (c := k8c0) (by decide +kernel) rfl rfl rfl (by decide +kernel)
set_option maxRecDepth 65536 in
theorem w_c5 : (Jvm.Cond.code ({ cls := "java/util/AbstractMap", name := "<init>", desc := "()V" } : Jvm.MethodName) jdk_71_method_1_code (1 : Nat) (Option.none : Option Jvm.ClassFile.FieldType)).before args0 about1 = true := code_word (m := ⟨5, 0⟩) (meth := k5m0) (c := k5c0) (by decide +kernel) rfl rfl rfl (by decide +kernel)
set_option maxRecDepth 65536 in
theorem w_c6 : (Jvm.Cond.code ({ cls := "com/example/intercept_rows/interceptrows/engine/DatabaseLock", name := "<init>", desc := "()V" } : Jvm.MethodName) prog_33_method_1_code (1 : Nat) (Option.none : Option Jvm.ClassFile.FieldType)).before args0 about1 = true := code_word (m := ⟨9, 0⟩) (meth := k9m0) (c := k9c0) (by decide +kernel) rfl rfl rfl (by decide +kernel)
set_option maxRecDepth 65536 in
theorem w_c7 : (Jvm.Cond.code ({ cls := "com/example/intercept_rows/interceptrows/engine/TriggerNesting", name := "<init>", desc := "()V" } : Jvm.MethodName) prog_114_method_1_code (1 : Nat) (Option.none : Option Jvm.ClassFile.FieldType)).before args0 about1 = true := code_word (m := ⟨10, 0⟩) (meth := k10m0) (c := k10c0) (by decide +kernel) rfl rfl rfl (by decide +kernel)
set_option maxRecDepth 65536 in
theorem w_c8 : (Jvm.Cond.code ({ cls := "java/time/Duration", name := "isNegative", desc := "()Z" } : Jvm.MethodName) jdk_2316_method_22_code (1 : Nat) (Option.some Jvm.ClassFile.FieldType.boolean)).before args0 about1 = true := code_word (m := ⟨13, 0⟩) (meth := k13m0) (c := k13c0) (by decide +kernel) rfl rfl rfl (by decide +kernel)
set_option maxRecDepth 65536 in
theorem w_c9 : (Jvm.Cond.code ({ cls := "java/time/Duration", name := "compareTo", desc := "(Ljava/time/Duration;)I" } : Jvm.MethodName) jdk_2316_method_66_code (3 : Nat) (Option.some Jvm.ClassFile.FieldType.int)).before args0 about1 = true := code_word (m := ⟨13, 2⟩) (meth := k13m2) (c := k13c2) (by decide +kernel) rfl rfl rfl (by decide +kernel)
set_option maxRecDepth 65536 in
theorem w_c10 : (Jvm.Cond.code ({ cls := "java/lang/Long", name := "compare", desc := "(JJ)I" } : Jvm.MethodName) jdk_35_method_42_code (4 : Nat) (Option.some Jvm.ClassFile.FieldType.int)).before args0 about1 = true := code_word (m := ⟨17, 0⟩) (meth := k17m0) (c := k17c0) (by decide +kernel) rfl rfl rfl (by decide +kernel)
set_option maxRecDepth 65536 in
theorem w_c11 : (Jvm.Cond.code ({ cls := "java/time/Duration", name := "toNanos", desc := "()J" } : Jvm.MethodName) jdk_2316_method_58_code (7 : Nat) (Option.some Jvm.ClassFile.FieldType.long)).before args0 about1 = true := code_word (m := ⟨13, 1⟩) (meth := k13m1) (c := k13c1) (by decide +kernel) rfl rfl rfl (by decide +kernel)
set_option maxRecDepth 65536 in
theorem w_c12 : (Jvm.Cond.code ({ cls := "java/lang/Math", name := "multiplyExact", desc := "(JJ)J" } : Jvm.MethodName) jdk_29_method_30_code (10 : Nat) (Option.some Jvm.ClassFile.FieldType.long)).before args0 about1 = true := code_word (m := ⟨18, 2⟩) (meth := k18m2) (c := k18c2) (by decide +kernel) rfl rfl rfl (by decide +kernel)
set_option maxRecDepth 65536 in
theorem w_c13 : (Jvm.Cond.code ({ cls := "java/lang/Math", name := "abs", desc := "(J)J" } : Jvm.MethodName) jdk_29_method_61_code (2 : Nat) (Option.some Jvm.ClassFile.FieldType.long)).before args0 about1 = true := code_word (m := ⟨18, 3⟩) (meth := k18m3) (c := k18c3) (by decide +kernel) rfl rfl rfl (by decide +kernel)
set_option maxRecDepth 65536 in
theorem w_c14 : (Jvm.Cond.code ({ cls := "java/lang/Math", name := "addExact", desc := "(JJ)J" } : Jvm.MethodName) jdk_29_method_25_code (6 : Nat) (Option.some Jvm.ClassFile.FieldType.long)).before args0 about1 = true := code_word (m := ⟨18, 1⟩) (meth := k18m1) (c := k18c1) (by decide +kernel) rfl rfl rfl (by decide +kernel)
set_option maxRecDepth 65536 in
theorem w_c15 : (Jvm.Cond.code ({ cls := "com/example/intercept_rows/interceptrows/engine/Session", name := "<init>", desc := "(Lcom/example/intercept_rows/interceptrows/engine/Database;)V" } : Jvm.MethodName) prog_85_method_1_code (2 : Nat) (Option.none : Option Jvm.ClassFile.FieldType)).before args0 about1 = true := code_word (m := ⟨2, 0⟩) (meth := k2m0) (c := k2c0) (by decide +kernel) rfl rfl rfl (by decide +kernel)
set_option maxRecDepth 65536 in
theorem w_c16 : (Jvm.Cond.code ({ cls := "com/example/intercept_rows/interceptrows/engine/UserVariables", name := "<init>", desc := "()V" } : Jvm.MethodName) prog_122_method_1_code (1 : Nat) (Option.none : Option Jvm.ClassFile.FieldType)).before args0 about1 = true := code_word (m := ⟨19, 0⟩) (meth := k19m0) (c := k19c0) (by decide +kernel) rfl rfl rfl (by decide +kernel)
set_option maxRecDepth 65536 in
theorem w_c17 : (Jvm.Cond.code ({ cls := "java/util/Objects", name := "requireNonNull", desc := "(Ljava/lang/Object;Ljava/lang/String;)Ljava/lang/Object;" } : Jvm.MethodName) jdk_31_method_11_code (2 : Nat) (Option.some (Jvm.ClassFile.FieldType.object "java/lang/Object"))).before args0 about1 = true := code_word (m := ⟨22, 1⟩) (meth := k22m1) (c := k22c1) (by decide +kernel) rfl rfl rfl (by decide +kernel)
set_option maxRecDepth 65536 in
theorem w_c18 : (Jvm.Cond.code ({ cls := "com/example/intercept_rows/interceptrows/engine/Session", name := "inTransaction", desc := "()Z" } : Jvm.MethodName) prog_85_method_14_code (1 : Nat) (Option.some Jvm.ClassFile.FieldType.boolean)).before args0 about1 = true := code_word (m := ⟨2, 1⟩) (meth := k2m1) (c := k2c1) (by decide +kernel) rfl rfl rfl (by decide +kernel)
set_option maxRecDepth 65536 in
theorem w_c19 : (Jvm.Cond.code ({ cls := "com/example/intercept_rows/interceptrows/engine/SessionInTransactionPinLaw", name := "step", desc := "(Lcom/example/intercept_rows/interceptrows/engine/Session;[ZI)Z" } : Jvm.MethodName) method_3_code (7 : Nat) (Option.some Jvm.ClassFile.FieldType.boolean)).before args0 about1 = true := code_word (m := ⟨1, 2⟩) (meth := k1m2) (c := k1c2) (by decide +kernel) rfl rfl rfl (by decide +kernel)
set_option maxRecDepth 65536 in
theorem w_c20 : (Jvm.Cond.code ({ cls := "com/example/intercept_rows/interceptrows/engine/Session", name := "noteAutoCommit", desc := "(Z)V" } : Jvm.MethodName) prog_85_method_16_code (2 : Nat) (Option.none : Option Jvm.ClassFile.FieldType)).before args0 about1 = true := code_word (m := ⟨2, 2⟩) (meth := k2m2) (c := k2c2) (by decide +kernel) rfl rfl rfl (by decide +kernel)
set_option maxRecDepth 65536 in
theorem w_c21 : (Jvm.Cond.code ({ cls := "com/example/intercept_rows/interceptrows/engine/Session", name := "endTransaction", desc := "()V" } : Jvm.MethodName) prog_85_method_19_code (1 : Nat) (Option.none : Option Jvm.ClassFile.FieldType)).before args0 about1 = true := code_word (m := ⟨2, 5⟩) (meth := k2m5) (c := k2c5) (by decide +kernel) rfl rfl rfl (by decide +kernel)
set_option maxRecDepth 65536 in
theorem w_c22 : (Jvm.Cond.code ({ cls := "com/example/intercept_rows/interceptrows/engine/Session", name := "spoil", desc := "()V" } : Jvm.MethodName) prog_85_method_18_code (1 : Nat) (Option.none : Option Jvm.ClassFile.FieldType)).before args0 about1 = true := code_word (m := ⟨2, 4⟩) (meth := k2m4) (c := k2c4) (by decide +kernel) rfl rfl rfl (by decide +kernel)
set_option maxRecDepth 65536 in
theorem w_c23 : (Jvm.Cond.code ({ cls := "com/example/intercept_rows/interceptrows/engine/Session", name := "begin", desc := "()V" } : Jvm.MethodName) prog_85_method_17_code (1 : Nat) (Option.none : Option Jvm.ClassFile.FieldType)).before args0 about1 = true := code_word (m := ⟨2, 3⟩) (meth := k2m3) (c := k2c3) (by decide +kernel) rfl rfl rfl (by decide +kernel)
def codes1 : List Jvm.Cond := [Jvm.Cond.code x code maxLocals ret, Jvm.Cond.code ({ cls := "com/example/intercept_rows/interceptrows/engine/Database", name := "<init>", desc := "()V" } : Jvm.MethodName) prog_30_method_1_code (1 : Nat) (Option.none : Option Jvm.ClassFile.FieldType), Jvm.Cond.code ({ cls := "com/example/intercept_rows/interceptrows/engine/Database", name := "<init>", desc := "(Ljava/time/Duration;)V" } : Jvm.MethodName) prog_30_method_2_code (2 : Nat) (Option.none : Option Jvm.ClassFile.FieldType), Jvm.Cond.code ({ cls := "java/lang/Object", name := "<init>", desc := "()V" } : Jvm.MethodName) object_method_1_code (1 : Nat) (Option.none : Option Jvm.ClassFile.FieldType), Jvm.Cond.code ({ cls := "java/util/HashMap", name := "<init>", desc := "()V" } : Jvm.MethodName) jdk_69_method_7_code (1 : Nat) (Option.none : Option Jvm.ClassFile.FieldType), Jvm.Cond.code ({ cls := "java/util/AbstractMap", name := "<init>", desc := "()V" } : Jvm.MethodName) jdk_71_method_1_code (1 : Nat) (Option.none : Option Jvm.ClassFile.FieldType), Jvm.Cond.code ({ cls := "com/example/intercept_rows/interceptrows/engine/DatabaseLock", name := "<init>", desc := "()V" } : Jvm.MethodName) prog_33_method_1_code (1 : Nat) (Option.none : Option Jvm.ClassFile.FieldType), Jvm.Cond.code ({ cls := "com/example/intercept_rows/interceptrows/engine/TriggerNesting", name := "<init>", desc := "()V" } : Jvm.MethodName) prog_114_method_1_code (1 : Nat) (Option.none : Option Jvm.ClassFile.FieldType), Jvm.Cond.code ({ cls := "java/time/Duration", name := "isNegative", desc := "()Z" } : Jvm.MethodName) jdk_2316_method_22_code (1 : Nat) (Option.some Jvm.ClassFile.FieldType.boolean), Jvm.Cond.code ({ cls := "java/time/Duration", name := "compareTo", desc := "(Ljava/time/Duration;)I" } : Jvm.MethodName) jdk_2316_method_66_code (3 : Nat) (Option.some Jvm.ClassFile.FieldType.int), Jvm.Cond.code ({ cls := "java/lang/Long", name := "compare", desc := "(JJ)I" } : Jvm.MethodName) jdk_35_method_42_code (4 : Nat) (Option.some Jvm.ClassFile.FieldType.int), Jvm.Cond.code ({ cls := "java/time/Duration", name := "toNanos", desc := "()J" } : Jvm.MethodName) jdk_2316_method_58_code (7 : Nat) (Option.some Jvm.ClassFile.FieldType.long), Jvm.Cond.code ({ cls := "java/lang/Math", name := "multiplyExact", desc := "(JJ)J" } : Jvm.MethodName) jdk_29_method_30_code (10 : Nat) (Option.some Jvm.ClassFile.FieldType.long), Jvm.Cond.code ({ cls := "java/lang/Math", name := "abs", desc := "(J)J" } : Jvm.MethodName) jdk_29_method_61_code (2 : Nat) (Option.some Jvm.ClassFile.FieldType.long), Jvm.Cond.code ({ cls := "java/lang/Math", name := "addExact", desc := "(JJ)J" } : Jvm.MethodName) jdk_29_method_25_code (6 : Nat) (Option.some Jvm.ClassFile.FieldType.long), Jvm.Cond.code ({ cls := "com/example/intercept_rows/interceptrows/engine/Session", name := "<init>", desc := "(Lcom/example/intercept_rows/interceptrows/engine/Database;)V" } : Jvm.MethodName) prog_85_method_1_code (2 : Nat) (Option.none : Option Jvm.ClassFile.FieldType), Jvm.Cond.code ({ cls := "com/example/intercept_rows/interceptrows/engine/UserVariables", name := "<init>", desc := "()V" } : Jvm.MethodName) prog_122_method_1_code (1 : Nat) (Option.none : Option Jvm.ClassFile.FieldType), Jvm.Cond.code ({ cls := "java/util/Objects", name := "requireNonNull", desc := "(Ljava/lang/Object;Ljava/lang/String;)Ljava/lang/Object;" } : Jvm.MethodName) jdk_31_method_11_code (2 : Nat) (Option.some (Jvm.ClassFile.FieldType.object "java/lang/Object")), Jvm.Cond.code ({ cls := "com/example/intercept_rows/interceptrows/engine/Session", name := "inTransaction", desc := "()Z" } : Jvm.MethodName) prog_85_method_14_code (1 : Nat) (Option.some Jvm.ClassFile.FieldType.boolean), Jvm.Cond.code ({ cls := "com/example/intercept_rows/interceptrows/engine/SessionInTransactionPinLaw", name := "step", desc := "(Lcom/example/intercept_rows/interceptrows/engine/Session;[ZI)Z" } : Jvm.MethodName) method_3_code (7 : Nat) (Option.some Jvm.ClassFile.FieldType.boolean), Jvm.Cond.code ({ cls := "com/example/intercept_rows/interceptrows/engine/Session", name := "noteAutoCommit", desc := "(Z)V" } : Jvm.MethodName) prog_85_method_16_code (2 : Nat) (Option.none : Option Jvm.ClassFile.FieldType), Jvm.Cond.code ({ cls := "com/example/intercept_rows/interceptrows/engine/Session", name := "endTransaction", desc := "()V" } : Jvm.MethodName) prog_85_method_19_code (1 : Nat) (Option.none : Option Jvm.ClassFile.FieldType), Jvm.Cond.code ({ cls := "com/example/intercept_rows/interceptrows/engine/Session", name := "spoil", desc := "()V" } : Jvm.MethodName) prog_85_method_18_code (1 : Nat) (Option.none : Option Jvm.ClassFile.FieldType), Jvm.Cond.code ({ cls := "com/example/intercept_rows/interceptrows/engine/Session", name := "begin", desc := "()V" } : Jvm.MethodName) prog_85_method_17_code (1 : Nat) (Option.none : Option Jvm.ClassFile.FieldType)]
set_option maxRecDepth 65536 in
theorem codes_eq : words1.filter isCode = codes1 := rfl
theorem w_codes : ∀ c ∈ words1.filter isCode, c.before args0 about1 = true := by
  rw [codes_eq]
  intro c hc
  simp only [codes1, List.mem_cons, List.not_mem_nil, or_false] at hc
  rcases hc with rfl | rfl | rfl | rfl | rfl | rfl | rfl | rfl | rfl | rfl | rfl | rfl | rfl | rfl | rfl | rfl | rfl | rfl | rfl | rfl | rfl | rfl | rfl | rfl
  · exact w_c0
  · exact w_c1
  · exact w_c2
  · exact w_c3
  · exact w_c4
  · exact w_c5
  · exact w_c6
  · exact w_c7
  · exact w_c8
  · exact w_c9
  · exact w_c10
  · exact w_c11
  · exact w_c12
  · exact w_c13
  · exact w_c14
  · exact w_c15
  · exact w_c16
  · exact w_c17
  · exact w_c18
  · exact w_c19
  · exact w_c20
  · exact w_c21
  · exact w_c22
  · exact w_c23
set_option maxRecDepth 65536 in
theorem w_t1 : (words1.take 24).all (fun c => isCode c || c.before args0 about1) = true := by decide +kernel
set_option maxRecDepth 65536 in
theorem w_t2 : ((words1.drop 24).take 24).all (fun c => isCode c || c.before args0 about1) = true := by decide +kernel
set_option maxRecDepth 65536 in
theorem w_t3 : (((words1.drop 24).drop 24).take 24).all (fun c => isCode c || c.before args0 about1) = true := by decide +kernel
set_option maxRecDepth 65536 in
theorem w_t4 : ((((words1.drop 24).drop 24).drop 24).take 24).all (fun c => isCode c || c.before args0 about1) = true := by decide +kernel
set_option maxRecDepth 65536 in
theorem w_t5 : (((((words1.drop 24).drop 24).drop 24).drop 24).take 24).all (fun c => isCode c || c.before args0 about1) = true := by decide +kernel
set_option maxRecDepth 65536 in
theorem w_t6 : ((((((words1.drop 24).drop 24).drop 24).drop 24).drop 24).take 24).all (fun c => isCode c || c.before args0 about1) = true := by decide +kernel
set_option maxRecDepth 65536 in
theorem w_t7 : ((((((words1.drop 24).drop 24).drop 24).drop 24).drop 24).drop 24).all (fun c => isCode c || c.before args0 about1) = true := by decide +kernel
theorem w_tables : (allAtoms (Jvm.Cond.code x code maxLocals ret :: tables_1)).before args0 about1 = true := by
  rw [allAtoms_all]
  show words1.all (fun c => c.before args0 about1) = true
  refine all_split ?_ w_codes
  rw [← List.take_append_drop 24 words1, List.all_append, w_t1, ← List.take_append_drop 24 (words1.drop 24), List.all_append, w_t2, ← List.take_append_drop 24 ((words1.drop 24).drop 24), List.all_append, w_t3, ← List.take_append_drop 24 (((words1.drop 24).drop 24).drop 24), List.all_append, w_t4, ← List.take_append_drop 24 ((((words1.drop 24).drop 24).drop 24).drop 24), List.all_append, w_t5, ← List.take_append_drop 24 (((((words1.drop 24).drop 24).drop 24).drop 24).drop 24), List.all_append, w_t6, w_t7]
  rfl
set_option maxRecDepth 65536 in
theorem w_case : (Jvm.Cond.and given_1 narrow_1).before args0 about1 = true := by decide +kernel
theorem w_applies : (headSpec (Jvm.Cond.code x code maxLocals ret :: tables_1) room_1).applies x e0.platform about1 = true :=
  (Spec.applies_iff w_frames).mpr ⟨w_running, w_runnable, w_alone, w_named, w_hears, w_ripe, w_room, w_tables⟩
theorem atStart : AtStart classFile x code maxLocals ret World_1 tables_1 room_1 Calls_1 rest_1 Pre_1 launch0 p0 e0 about1 theMethod args0 below0 :=
  ⟨lists_1, trivial, launch0.admits_env _ _ _, launch0.least_env, fairChoices_fair.cas, fairChoices_fair.clock, w_frames, w_args, w_heap, w_applies, trivial, trivial, w_case⟩
end start1
theorem witness_1 : WitnessClaimed_1 := ⟨start1.p0, start1.e0, start1.about1, start1.theMethod, start1.args0, start1.below0, start1.atStart⟩
end Jvm.Pilot.@@N@@
