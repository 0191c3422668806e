import JvmDerived
import JvmDerived.Pilot.@@N@@Statement
import JvmDerived.Pilot.@@N@@Code
set_option linter.unusedVariables false
set_option linter.unusedSimpArgs false
namespace Jvm.RoadKit
open Sem ClassFile Op Lib Jvm.Stand Jvm.Free Jvm.LawKit
section OwnKit
variable {p : Program} {l : Launch} {e : Env} {R : Room} {s : State} {m : MethodId} {args : Array Value} {below : List Frame} {meth : Method} {c : Code} {T : State} {locs : List Loc} {cells slots : Nat}
/-- the run from U ends the invocation, and P holds there -/
def OGo (p : Program) (e : Env) (below : List Frame) (P : Outcome → State → Prop) (U : State) : Prop :=
  ∃ s₂ o, Steps p.tables e below U s₂ ∧ s₂.status = .running ∧ Ended s₂ below o ∧ P o s₂
theorem OGo.by_ {P : Outcome → State → Prop} {U U' : State} (h : ∀ t, Steps p.tables e below U' t → Steps p.tables e below U t) (g : OGo p e below P U') : OGo p e below P U := by
  obtain ⟨t, o, a, b⟩ := g
  exact ⟨t, o, h t a, b⟩
abbrev OEnd (s : State) (Q : Option Value → Heap → List Loc → Prop) (k n : Nat) (o : Outcome) (U' : State) : Prop :=
  ∃ v L, o = .returned v ∧ Q v U'.heap L ∧ FrameEnd s o U' L k n
theorem own_lt {a : Addr} {n : Nat} (h : a < n) : @LT.lt Nat instLTNat a n := h
theorem own_ne {a b : Addr} (h : @LT.lt Nat instLTNat a b) : a ≠ b := Nat.ne_of_lt h
theorem own_ne' {a b : Addr} (h : @LT.lt Nat instLTNat b a) : a ≠ b := Nat.ne_of_gt h
variable {Q : Option Value → Heap → List Loc → Prop} {k n : Nat} {pc : Nat} {Ls : Array Slot} {rest : List Value}
theorem own_retW (X : Stand p l e R s m args below meth c T locs cells slots) (hx : p.tables.exec = Jvm.exec) (hlk : meth.locks = false) {w : Value} {t : FieldType} {i : Instr} (hret : meth.sig.returnType = some t) (hn : narrow t w = w)
    (hi : (i = .ireturn ∧ (t = .int ∨ t = .boolean ∨ t = .byte ∨ t = .char ∨ t = .short) ∧ ∃ z, w = .int z) ∨ (i = .lreturn ∧ t = .long ∧ ∃ z, w = .long z) ∨ (i = .dreturn ∧ t = .double ∧ ∃ z, w = .double z) ∨ (i = .freturn ∧ t = .float ∧ ∃ z, w = .float z) ∨ (i = .areturn ∧ t.isReference = true ∧ w.isRef = true))
    (hd : decode c.code pc = .ok (i, 1)) (hk : cells ≤ k) (hs : slots ≤ n) (hQ : Q (some w) T.heap locs) : OGo p e below (OEnd s Q k n) (T.setTop (mkF m pc Ls (w :: rest))) := by
  obtain ⟨fs, hr, hrun, hended, hW, hsame⟩ := X.leave (v := some w) (fun h => by rw [hret] at h; cases h) hlk
  exact ⟨_, _, retOut X hx hret hn hi hd hr, hrun, hended, _, _, rfl, hQ, ⟨_, rfl⟩, hW, hsame.mono hk hs⟩
theorem own_retI (X : Stand p l e R s m args below meth c T locs cells slots) (hx : p.tables.exec = Jvm.exec) (hlk : meth.locks = false) {z : Int32} (hret : meth.sig.returnType = some .int)
    (hd : decode c.code pc = .ok (.ireturn, 1)) (hk : cells ≤ k) (hs : slots ≤ n) (hQ : Q (some (.int z)) T.heap locs) : OGo p e below (OEnd s Q k n) (T.setTop (mkF m pc Ls (.int z :: rest))) :=
  own_retW X hx hlk hret rfl (Or.inl ⟨rfl, Or.inl rfl, z, rfl⟩) hd hk hs hQ
theorem own_retJ (X : Stand p l e R s m args below meth c T locs cells slots) (hx : p.tables.exec = Jvm.exec) (hlk : meth.locks = false) {z : Int64} (hret : meth.sig.returnType = some .long)
    (hd : decode c.code pc = .ok (.lreturn, 1)) (hk : cells ≤ k) (hs : slots ≤ n) (hQ : Q (some (.long z)) T.heap locs) : OGo p e below (OEnd s Q k n) (T.setTop (mkF m pc Ls (.long z :: rest))) :=
  own_retW X hx hlk hret rfl (Or.inr (Or.inl ⟨rfl, rfl, z, rfl⟩)) hd hk hs hQ
theorem own_retA (X : Stand p l e R s m args below meth c T locs cells slots) (hx : p.tables.exec = Jvm.exec) (hlk : meth.locks = false) {w : Value} {t : FieldType} (hret : meth.sig.returnType = some t) (ht : t.isReference = true) (hw : w.isRef = true)
    (hd : decode c.code pc = .ok (.areturn, 1)) (hk : cells ≤ k) (hs : slots ≤ n) (hQ : Q (some w) T.heap locs) : OGo p e below (OEnd s Q k n) (T.setTop (mkF m pc Ls (w :: rest))) :=
  own_retW X hx hlk hret (by cases t <;> cases w <;> simp [FieldType.isReference, Value.isRef] at ht hw <;> rfl) (Or.inr (Or.inr (Or.inr (Or.inr ⟨rfl, ht, hw⟩)))) hd hk hs hQ
theorem own_retN (X : Stand p l e R s m args below meth c T locs cells slots) (hx : p.tables.exec = Jvm.exec) (hlk : meth.locks = false) {z : Int32} {t : FieldType} (hret : meth.sig.returnType = some t) (ht : t = .boolean ∨ t = .byte ∨ t = .char ∨ t = .short)
    (hd : decode c.code pc = .ok (.ireturn, 1)) (hk : cells ≤ k) (hs : slots ≤ n) (hQ : Q (some (.int (nar t z))) T.heap locs) : OGo p e below (OEnd s Q k n) (T.setTop (mkF m pc Ls (.int z :: rest))) := by
  obtain ⟨fs, hr, hrun, hended, hW, hsame⟩ := X.leave (v := some (.int (nar t z))) (fun h => by rw [hret] at h; cases h) hlk
  exact ⟨_, _, retN X hx hret ht hd hr, hrun, hended, _, _, rfl, hQ, ⟨_, rfl⟩, hW, hsame.mono hk hs⟩
theorem own_ret (X : Stand p l e R s m args below meth c T locs cells slots) (hx : p.tables.exec = Jvm.exec) (hlk : meth.locks = false) (hret : meth.sig.returnType = none)
    (hd : decode c.code pc = .ok (.return_, 1)) (hk : cells ≤ k) (hs : slots ≤ n) (hQ : Q none T.heap locs) : OGo p e below (OEnd s Q k n) (T.setTop (mkF m pc Ls [])) := by
  obtain ⟨fs, hr, hrun, hended, hW, hsame⟩ := X.leave (v := none) (fun _ => rfl) hlk
  exact ⟨_, _, X.returnOut hx hret hd hr, hrun, hended, _, _, rfl, hQ, ⟨_, rfl⟩, hW, hsame.mono hk hs⟩
abbrev OEndW (s : State) (Q : Option Value → Heap → List Loc → Prop) (k n : Nat) (o : Outcome) (U' : State) : Prop :=
  ∃ v L, o = .returned v ∧ Q v U'.heap L ∧ ReturnedEndW s o U' L k n
variable {vm₁ : Vm} {j : Nat}
theorem own_wretW (X : Stand p l e R (s.setVm vm₁) m args below meth c T locs cells slots) (hS : s.Since vm₁ j) (hj : j ≤ T.heap.size) (hx : p.tables.exec = Jvm.exec) (hlk : meth.locks = false) {w : Value} {t : FieldType} {i : Instr} (hret : meth.sig.returnType = some t) (hn : narrow t w = w)
    (hi : (i = .ireturn ∧ (t = .int ∨ t = .boolean ∨ t = .byte ∨ t = .char ∨ t = .short) ∧ ∃ z, w = .int z) ∨ (i = .lreturn ∧ t = .long ∧ ∃ z, w = .long z) ∨ (i = .dreturn ∧ t = .double ∧ ∃ z, w = .double z) ∨ (i = .freturn ∧ t = .float ∧ ∃ z, w = .float z) ∨ (i = .areturn ∧ t.isReference = true ∧ w.isRef = true))
    (hd : decode c.code pc = .ok (i, 1)) (hk : cells ≤ k) (hs : slots ≤ n) (hQ : Q (some w) T.heap locs) : OGo p e below (OEndW s Q k n) (T.setTop (mkF m pc Ls (w :: rest))) := by
  obtain ⟨fs, hr, hrun, hended, h1, h2, h3, h4⟩ := X.leaveW hS hj (v := some w) (fun h => by rw [hret] at h; cases h) hlk
  exact ⟨_, _, retOut X hx hret hn hi hd hr, hrun, hended, _, _, rfl, hQ, h1, h2, h3, h4.mono hk hs⟩
theorem own_wretI (X : Stand p l e R (s.setVm vm₁) m args below meth c T locs cells slots) (hS : s.Since vm₁ j) (hj : j ≤ T.heap.size) (hx : p.tables.exec = Jvm.exec) (hlk : meth.locks = false) {z : Int32} (hret : meth.sig.returnType = some .int)
    (hd : decode c.code pc = .ok (.ireturn, 1)) (hk : cells ≤ k) (hs : slots ≤ n) (hQ : Q (some (.int z)) T.heap locs) : OGo p e below (OEndW s Q k n) (T.setTop (mkF m pc Ls (.int z :: rest))) :=
  own_wretW X hS hj hx hlk hret rfl (Or.inl ⟨rfl, Or.inl rfl, z, rfl⟩) hd hk hs hQ
theorem own_wretA (X : Stand p l e R (s.setVm vm₁) m args below meth c T locs cells slots) (hS : s.Since vm₁ j) (hj : j ≤ T.heap.size) (hx : p.tables.exec = Jvm.exec) (hlk : meth.locks = false) {w : Value} {t : FieldType} (hret : meth.sig.returnType = some t) (ht : t.isReference = true) (hw : w.isRef = true)
    (hd : decode c.code pc = .ok (.areturn, 1)) (hk : cells ≤ k) (hs : slots ≤ n) (hQ : Q (some w) T.heap locs) : OGo p e below (OEndW s Q k n) (T.setTop (mkF m pc Ls (w :: rest))) :=
  own_wretW X hS hj hx hlk hret (by cases t <;> cases w <;> simp [FieldType.isReference, Value.isRef] at ht hw <;> rfl) (Or.inr (Or.inr (Or.inr (Or.inr ⟨rfl, ht, hw⟩)))) hd hk hs hQ
theorem own_wretN (X : Stand p l e R (s.setVm vm₁) m args below meth c T locs cells slots) (hS : s.Since vm₁ j) (hj : j ≤ T.heap.size) (hx : p.tables.exec = Jvm.exec) (hlk : meth.locks = false) {z : Int32} {t : FieldType} (hret : meth.sig.returnType = some t) (ht : t = .boolean ∨ t = .byte ∨ t = .char ∨ t = .short)
    (hd : decode c.code pc = .ok (.ireturn, 1)) (hk : cells ≤ k) (hs : slots ≤ n) (hQ : Q (some (.int (nar t z))) T.heap locs) : OGo p e below (OEndW s Q k n) (T.setTop (mkF m pc Ls (.int z :: rest))) := by
  obtain ⟨fs, hr, hrun, hended, h1, h2, h3, h4⟩ := X.leaveW hS hj (v := some (.int (nar t z))) (fun h => by rw [hret] at h; cases h) hlk
  exact ⟨_, _, retN X hx hret ht hd hr, hrun, hended, _, _, rfl, hQ, h1, h2, h3, h4.mono hk hs⟩
theorem own_wret (X : Stand p l e R (s.setVm vm₁) m args below meth c T locs cells slots) (hS : s.Since vm₁ j) (hj : j ≤ T.heap.size) (hx : p.tables.exec = Jvm.exec) (hlk : meth.locks = false) (hret : meth.sig.returnType = none)
    (hd : decode c.code pc = .ok (.return_, 1)) (hk : cells ≤ k) (hs : slots ≤ n) (hQ : Q none T.heap locs) : OGo p e below (OEndW s Q k n) (T.setTop (mkF m pc Ls [])) := by
  obtain ⟨fs, hr, hrun, hended, h1, h2, h3, h4⟩ := X.leaveW hS hj (v := none) (fun _ => rfl) hlk
  exact ⟨_, _, X.returnOut hx hret hd hr, hrun, hended, _, _, rfl, hQ, h1, h2, h3, h4.mono hk hs⟩
end OwnKit
end Jvm.RoadKit
namespace Jvm.Pilot.@@N@@
open Jvm Jvm.ClassFile Sem Op Lib Jvm.Free Jvm.Stand Jvm.LawKit Jvm.RoadKit Bundle Jvm.Pilot.@@N@@.Jvm.D
def own_IL (Z : State) (h : Heap) (a b : Addr) (n : Int32) : Prop := Exa Z h a "com/example/frigg/frigg/engine/IntList" ∧ Fld Z h a "com/example/frigg/frigg/engine/IntList" "size" "I" (.int n) ∧ Fld Z h a "com/example/frigg/frigg/engine/IntList" "elements" "[I" (.ref b) ∧ ∃ (k : ClassId) (vs : List Value), Arv Z h b k .int (16 : Int32) vs (.int (0 : Int32)) ∧ vs.length = 16
theorem own_IL_keep {Z : State} {h h' : Heap} {a b : Addr} {n : Int32} {ws : List Addr} (F : own_IL Z h a b n) (K : Keep h h' ws) (ha : a ∉ ws) (hb : b ∉ ws) : own_IL Z h' a b n := by
  obtain ⟨f1, f2, f3, k, vs, f4, f5⟩ := F
  exact ⟨f1.keep K, f2.keep K ha, f3.keep K ha, k, vs, f4.keep K hb, f5⟩
theorem own_IL_ext {Z : State} {h h' : Heap} {a b : Addr} {n : Int32} (F : own_IL Z h a b n) (E : Ext h h') : own_IL Z h' a b n := by
  obtain ⟨f1, f2, f3, k, vs, f4, f5⟩ := F
  exact ⟨f1.ext E, f2.ext E, f3.ext E, k, vs, f4.ext E, f5⟩
theorem own_IL_lt {Z : State} {h : Heap} {a b : Addr} {n : Int32} (F : own_IL Z h a b n) : h.size > a ∧ h.size > b := by
  obtain ⟨f1, f2, f3, k, vs, f4, f5⟩ := F
  exact ⟨f1.lt, f4.lt⟩
theorem own_nin1 {x y : Addr} (h : x ≠ y) : x ∉ [y] := ninS h nin0
theorem own_nin2 {x y z : Addr} (h : x ≠ y) (h' : x ≠ z) : x ∉ [y, z] := ninS h (ninS h' nin0)
theorem d_ini_0 : decode prog_17_method_1_code 0 = .ok (.aload_n 0, 1) := by decide +kernel
theorem d_ini_1 : decode prog_17_method_1_code 1 = .ok (.invokespecial 1, 3) := by decide +kernel
theorem d_ini_4 : decode prog_17_method_1_code 4 = .ok (.aload_n 0, 1) := by decide +kernel
theorem d_ini_5 : decode prog_17_method_1_code 5 = .ok (.bipush 16, 2) := by decide +kernel
theorem d_ini_7 : decode prog_17_method_1_code 7 = .ok (.newarray .int, 2) := by decide +kernel
theorem d_ini_9 : decode prog_17_method_1_code 9 = .ok (.putfield 7, 3) := by decide +kernel
theorem d_ini_12 : decode prog_17_method_1_code 12 = .ok (.return_, 1) := by decide +kernel
theorem pn_com_example_frigg_frigg_engine_IntList : plainName "com/example/frigg/frigg/engine/IntList" = true := by first | (simp [plainName, overriddenIn]; done) | decide +kernel
theorem ef_ini (m : MethodId) (x0 : Addr) : entryFrame m #[(.ref x0)] 1 = mkF m 0 #[.val (.ref x0)] [] := by first | (simp [entryFrame, mkF, argsToLocals, Value.category]; done) | rfl
def Q_ini (Z : State) (a : Addr) (h0 : Heap) (n0 : Nat) (v : Option Value) (h : Heap) (L : List Loc) : Prop := v = none ∧ Fr n0 L ∧ Keep h0 h [a] ∧ ∃ b, h0.size ≤ b ∧ own_IL Z h a b 0
set_option maxRecDepth 65536 in
set_option maxHeartbeats 40000000 in
theorem rm_ini (l : Launch) (Z : State) (a0 : Array Value) (hw : ∀ d ∈ tables_1, d.before a0 Z = true) (ws : List Jvm.Cond) (a : Addr) (h0 : Heap) (n0 : Nat) (Z0 : n0 ≤ h0.size) (Ex0 : Exa Z h0 a "com/example/frigg/frigg/engine/IntList") (F0 : Fld Z h0 a "com/example/frigg/frigg/engine/IntList" "size" "I" (.int (0 : Int32))) (F1 : Fld Z h0 a "com/example/frigg/frigg/engine/IntList" "elements" "[I" .null) (g : n0 ≤ a) :
    MetFree l (⟨"com/example/frigg/frigg/engine/IntList", "<init>", "()V"⟩ : MethodName) (head1 (Jvm.Cond.code (⟨"com/example/frigg/frigg/engine/IntList", "<init>", "()V"⟩ : MethodName) prog_17_method_1_code 1 none :: ws) ({ frames := 1, cells := 1, slots := 16, locals := 12 } : Room)) (fun a_ U => a_ = #[(.ref a)] ∧ Z.Warmed39 U.vm ∧ U.heap = h0) (fun _ _ _ _ _ => True) (fun _ U o U' => ∃ v L, o = .returned v ∧ Q_ini Z a h0 n0 v U'.heap L ∧ FrameEnd U o U' L ({ frames := 1, cells := 1, slots := 16, locals := 12 } : Room).cells ({ frames := 1, cells := 1, slots := 16, locals := 12 } : Room).slots) := by
  refine MetFree.of_bodySF (plainFor_of_name pn_com_example_frigg_frigg_engine_IntList) hisR ?_
  intro p e s m args below meth c s₁ Bd hml0 hP hK
  obtain ⟨rfl, hZ, hh⟩ := hP
  have hx := Bd.exec
  have hby := Bd.bytes
  have hml : c.maxLocals = 1 := hml0
  have hown : s.vm.findClass "com/example/frigg/frigg/engine/IntList" = some m.cls := findClass_of_methodNamed Bd.named
  have hnm := (name_of_methodNamed Bd.named Bd.method).1
  have X0 : Stand p l e ({ frames := 1, cells := 1, slots := 16, locals := 12 } : Room) s m #[(.ref a)] below meth c s₁ [] 0 0 := Stand.of_body Bd
  have e0 : s₁.heap = h0 := by rw [← hh, Bd.state]; rfl
  have N0 := Fr.nil n0
  have hlk := Bd.notSynchronized
  have hret := Bd.returns
  show OGo p e below (OEnd s (Q_ini Z a h0 n0) ({ frames := 1, cells := 1, slots := 16, locals := 12 } : Room).cells ({ frames := 1, cells := 1, slots := 16, locals := 12 } : Room).slots) (s₁.setTop (entryFrame m #[(.ref a)] 1))
  rw [ef_ini]
  show OGo p e below _ (s₁.setTop (mkF m 0 #[.val (.ref a)] []))
  refine OGo.by_ (fun t k => XS.aloadN X0.here hx rfl (hb hby d_ini_0) rfl rfl k) ?_
  show OGo p e below _ (s₁.setTop (mkF m 1 #[.val (.ref a)] [(.ref a)]))
  obtain ⟨T1, X1, e1, st1⟩ := initO X0 hx hZ hown (hw _ (List.mem_of_getElem? (i := 6) rfl)) (hw _ (List.mem_of_getElem? (i := 7) rfl)) (hw _ (List.mem_of_getElem? (i := 8) rfl)) e0 (g := (mkF m 1 #[.val (.ref a)] [(.ref a)])) rfl (by rw [hml]; rfl) rfl (hb hby d_ini_1) (by decide) (W := 0) (by show 2 * 0 + _ ≤ _; exact Nat.le_of_eq rfl) (by decide)
  refine OGo.by_ st1 ?_
  show OGo p e below _ (T1.setTop (mkF m 4 #[.val (.ref a)] []))
  refine OGo.by_ (fun t k => XS.aloadN X1.here hx rfl (hb hby d_ini_4) rfl rfl k) ?_
  show OGo p e below _ (T1.setTop (mkF m 5 #[.val (.ref a)] [(.ref a)]))
  refine OGo.by_ (fun t k => XS.bipush X1.here hx rfl (hb hby d_ini_5) k) ?_
  show OGo p e below _ (T1.setTop (mkF m 7 #[.val (.ref a)] [(.int (16 : Int32)), (.ref a)]))
  obtain ⟨T2, h2, k2, X2, e2, E2, A2, st2⟩ := newP X1 hx hZ (hw _ (List.mem_of_getElem? (i := 9) rfl)) e1 (g := (mkF m 7 #[.val (.ref a)] [(.int (16 : Int32)), (.ref a)])) rfl (hb hby d_ini_7) rfl (by decide) (cap := 16) (by decide) (by decide) (by decide) (by decide)
  obtain ⟨b, g_b⟩ : ∃ z, z = h0.size := ⟨_, rfl⟩
  rw [← g_b] at A2 st2
  have V_b := Arv.new A2 (by decide)
  have lt_b := own_lt V_b.lt
  refine OGo.by_ st2 ?_
  show OGo p e below _ (T2.setTop (mkF m 9 #[.val (.ref a)] [(.ref b), (.ref a)]))
  obtain ⟨T3, h3, X3, e3, W3, st3⟩ := putF X2 hx hZ hown (host := "") (Or.inl (hw _ (List.mem_of_getElem? (i := 10) rfl))) Via.refl e2 (F1.ext E2) (Ex0.ext E2) (Or.inl (hw _ (List.mem_of_getElem? (i := 11) rfl))) (hw _ (List.mem_of_getElem? (i := 1) rfl)) (ty := (.array .int)) (by decide) rfl rfl (g := (mkF m 9 #[.val (.ref a)] [(.ref b), (.ref a)])) rfl rfl (hb hby d_ini_9)
  refine OGo.by_ st3 ?_
  show OGo p e below _ (T3.setTop (mkF m 12 #[.val (.ref a)] []))
  have N3 := Fr.snoc X3 N0 g
  have hab : a ≠ b := own_ne (by have : h0.size > a := Ex0.lt; omega)
  have Vb := V_b.other W3 (Ne.symm hab)
  have KK : Keep h0 h3 [a] := ((Keep.refl h0 [a]).ext E2).wr W3 (Or.inl (List.mem_singleton.mpr rfl))
  have F0' := (F0.ext E2).other W3 (Or.inr (slot_ne (C := "com/example/frigg/frigg/engine/IntList") (Or.inl (hw _ (List.mem_of_getElem? (i := 18) rfl))) (Or.inl (hw _ (List.mem_of_getElem? (i := 11) rfl))) (by decide) (t := .int) (t' := (.array .int)) (by decide) (by decide)))
  exact own_ret X3 hx hlk hret (hb hby d_ini_12) (by decide) (by decide) (by rw [e3]; exact ⟨rfl, N3, KK, b, Nat.le_of_eq g_b.symm, ⟨(Ex0.ext E2).wr W3, F0', (F1.ext E2).same W3, k2, _, Vb.pad (pad_rep [] _ 16), by decide⟩⟩)
theorem own_lt16 {n : Int32} (h0 : ¬ n < 0) (h : n < 16) : n.toNatClampNeg < 16 := by
  rw [Int32.lt_iff_toInt_lt] at h0 h
  have e := nat_of (j := n) (by rw [Int32.lt_iff_toInt_lt]; exact h0)
  have e16 : (16 : Int32).toInt = 16 := rfl
  omega
theorem d_add_0 : decode prog_17_method_2_code 0 = .ok (.aload_n 0, 1) := by decide +kernel
theorem d_add_1 : decode prog_17_method_2_code 1 = .ok (.getfield 13, 3) := by decide +kernel
theorem d_add_4 : decode prog_17_method_2_code 4 = .ok (.aload_n 0, 1) := by decide +kernel
theorem d_add_5 : decode prog_17_method_2_code 5 = .ok (.getfield 7, 3) := by decide +kernel
theorem d_add_8 : decode prog_17_method_2_code 8 = .ok (.arraylength, 1) := by decide +kernel
theorem d_add_9 : decode prog_17_method_2_code 9 = .ok (.if_icmp .ne 20, 3) := by decide +kernel
theorem d_add_29 : decode prog_17_method_2_code 29 = .ok (.aload_n 0, 1) := by decide +kernel
theorem d_add_30 : decode prog_17_method_2_code 30 = .ok (.getfield 7, 3) := by decide +kernel
theorem d_add_33 : decode prog_17_method_2_code 33 = .ok (.aload_n 0, 1) := by decide +kernel
theorem d_add_34 : decode prog_17_method_2_code 34 = .ok (.getfield 13, 3) := by decide +kernel
theorem d_add_37 : decode prog_17_method_2_code 37 = .ok (.iload_n 1, 1) := by decide +kernel
theorem d_add_38 : decode prog_17_method_2_code 38 = .ok (.iastore, 1) := by decide +kernel
theorem d_add_39 : decode prog_17_method_2_code 39 = .ok (.aload_n 0, 1) := by decide +kernel
theorem d_add_40 : decode prog_17_method_2_code 40 = .ok (.dup, 1) := by decide +kernel
theorem d_add_41 : decode prog_17_method_2_code 41 = .ok (.getfield 13, 3) := by decide +kernel
theorem d_add_44 : decode prog_17_method_2_code 44 = .ok (.iconst 1, 1) := by decide +kernel
theorem d_add_45 : decode prog_17_method_2_code 45 = .ok (.iadd, 1) := by decide +kernel
theorem d_add_46 : decode prog_17_method_2_code 46 = .ok (.putfield 13, 3) := by decide +kernel
theorem d_add_49 : decode prog_17_method_2_code 49 = .ok (.return_, 1) := by decide +kernel
theorem ef_add (m : MethodId) (x0 : Addr) (x1 : Int32) : entryFrame m #[(.ref x0), (.int x1)] 2 = mkF m 0 #[.val (.ref x0), .val (.int x1)] [] := by first | (simp [entryFrame, mkF, argsToLocals, Value.category]; done) | rfl
def Q_add (Z : State) (a b : Addr) (p1 n : Int32) (h0 : Heap) (n0 : Nat) (v : Option Value) (h : Heap) (L : List Loc) : Prop := v = none ∧ Fr n0 L ∧ Keep h0 h [b, a] ∧ own_IL Z h a b (n + 1)
set_option maxRecDepth 65536 in
set_option maxHeartbeats 40000000 in
theorem rm_add (l : Launch) (Z : State) (a0 : Array Value) (hw : ∀ d ∈ tables_1, d.before a0 Z = true) (ws : List Jvm.Cond) (a b : Addr) (p1 n : Int32) (h0 : Heap) (n0 : Nat) (Z0 : n0 ≤ h0.size) (IL : own_IL Z h0 a b n) (hab : a ≠ b) (ga : n0 ≤ a) (gb : n0 ≤ b) (hn0 : ¬ n < 0) (hn : n < 16) (hn16 : ¬ n = (16 : Int32)) :
    MetFree l (⟨"com/example/frigg/frigg/engine/IntList", "add", "(I)V"⟩ : MethodName) (head1 (Jvm.Cond.code (⟨"com/example/frigg/frigg/engine/IntList", "add", "(I)V"⟩ : MethodName) prog_17_method_2_code 2 none :: ws) ({ frames := 0, cells := 0, slots := 0, locals := 0 } : Room)) (fun a_ U => a_ = #[(.ref a), (.int p1)] ∧ Z.Warmed39 U.vm ∧ U.heap = h0) (fun _ _ _ _ _ => True) (fun _ U o U' => ∃ v L, o = .returned v ∧ Q_add Z a b p1 n h0 n0 v U'.heap L ∧ FrameEnd U o U' L ({ frames := 0, cells := 0, slots := 0, locals := 0 } : Room).cells ({ frames := 0, cells := 0, slots := 0, locals := 0 } : Room).slots) := by
  refine MetFree.of_bodySF (plainFor_of_name pn_com_example_frigg_frigg_engine_IntList) hisR ?_
  intro p e s m args below meth c s₁ Bd hml0 hP hK
  obtain ⟨rfl, hZ, hh⟩ := hP
  have hx := Bd.exec
  have hby := Bd.bytes
  have hml : c.maxLocals = 2 := hml0
  have hown : s.vm.findClass "com/example/frigg/frigg/engine/IntList" = some m.cls := findClass_of_methodNamed Bd.named
  have hnm := (name_of_methodNamed Bd.named Bd.method).1
  have X0 : Stand p l e ({ frames := 0, cells := 0, slots := 0, locals := 0 } : Room) s m #[(.ref a), (.int p1)] below meth c s₁ [] 0 0 := Stand.of_body Bd
  have e0 : s₁.heap = h0 := by rw [← hh, Bd.state]; rfl
  have N0 := Fr.nil n0
  have hlk := Bd.notSynchronized
  have hret := Bd.returns
  show OGo p e below (OEnd s (Q_add Z a b p1 n h0 n0) ({ frames := 0, cells := 0, slots := 0, locals := 0 } : Room).cells ({ frames := 0, cells := 0, slots := 0, locals := 0 } : Room).slots) (s₁.setTop (entryFrame m #[(.ref a), (.int p1)] 2))
  rw [ef_add]
  show OGo p e below _ (s₁.setTop (mkF m 0 #[.val (.ref a), .val (.int p1)] []))
  obtain ⟨Ex, Fs, Fe, kk, vs, Vb, hvs⟩ := IL
  refine OGo.by_ (fun t k => XS.aloadN X0.here hx rfl (hb hby d_add_0) rfl rfl k) ?_
  show OGo p e below _ (s₁.setTop (mkF m 1 #[.val (.ref a), .val (.int p1)] [(.ref a)]))
  obtain ⟨T1, X1, e1, st1⟩ := getF X0 hx hZ hown (host := "") (Or.inl (hw _ (List.mem_of_getElem? (i := 17) rfl))) Via.refl e0 Fs (g := (mkF m 1 #[.val (.ref a), .val (.int p1)] [(.ref a)])) rfl rfl (hb hby d_add_1)
  refine OGo.by_ st1 ?_
  show OGo p e below _ (T1.setTop (mkF m 4 #[.val (.ref a), .val (.int p1)] [(.int n)]))
  refine OGo.by_ (fun t k => XS.aloadN X1.here hx rfl (hb hby d_add_4) rfl rfl k) ?_
  show OGo p e below _ (T1.setTop (mkF m 5 #[.val (.ref a), .val (.int p1)] [(.ref a), (.int n)]))
  obtain ⟨T2, X2, e2, st2⟩ := getF X1 hx hZ hown (host := "") (Or.inl (hw _ (List.mem_of_getElem? (i := 10) rfl))) Via.refl e1 Fe (g := (mkF m 5 #[.val (.ref a), .val (.int p1)] [(.ref a), (.int n)])) rfl rfl (hb hby d_add_5)
  refine OGo.by_ st2 ?_
  show OGo p e below _ (T2.setTop (mkF m 8 #[.val (.ref a), .val (.int p1)] [(.ref b), (.int n)]))
  obtain ⟨cl3, Ar3, q3, S3, Nn3, H3, G3⟩ := id Vb
  refine OGo.by_ (X2.arraylength hx (by rw [e2]; exact Ar3.1) (State.isArrayOf_alike hZ.alike Ar3.2.1) (g := (mkF m 8 #[.val (.ref a), .val (.int p1)] [(.ref b), (.int n)])) rfl rfl (hb hby d_add_8)) ?_
  rw [len_of S3 Nn3]
  show OGo p e below _ (T2.setTop (mkF m 9 #[.val (.ref a), .val (.int p1)] [(.int (16 : Int32)), (.int n)]))
  refine OGo.by_ (fun t k => XS.icmpYes X2.here hx rfl (pc0 := 9) (pc' := 29) rfl (hb hby d_add_9) rfl (feq hn16).2 (by decide) (by decide) k) ?_
  show OGo p e below _ (T2.setTop (mkF m 29 #[.val (.ref a), .val (.int p1)] []))
  refine OGo.by_ (fun t k => XS.aloadN X2.here hx rfl (hb hby d_add_29) rfl rfl k) ?_
  show OGo p e below _ (T2.setTop (mkF m 30 #[.val (.ref a), .val (.int p1)] [(.ref a)]))
  obtain ⟨T4, X4, e4, st4⟩ := getF X2 hx hZ hown (host := "") (Or.inl (hw _ (List.mem_of_getElem? (i := 10) rfl))) Via.refl e2 Fe (g := (mkF m 30 #[.val (.ref a), .val (.int p1)] [(.ref a)])) rfl rfl (hb hby d_add_30)
  refine OGo.by_ st4 ?_
  show OGo p e below _ (T4.setTop (mkF m 33 #[.val (.ref a), .val (.int p1)] [(.ref b)]))
  refine OGo.by_ (fun t k => XS.aloadN X4.here hx rfl (hb hby d_add_33) rfl rfl k) ?_
  show OGo p e below _ (T4.setTop (mkF m 34 #[.val (.ref a), .val (.int p1)] [(.ref a), (.ref b)]))
  obtain ⟨T5, X5, e5, st5⟩ := getF X4 hx hZ hown (host := "") (Or.inl (hw _ (List.mem_of_getElem? (i := 17) rfl))) Via.refl e4 Fs (g := (mkF m 34 #[.val (.ref a), .val (.int p1)] [(.ref a), (.ref b)])) rfl rfl (hb hby d_add_34)
  refine OGo.by_ st5 ?_
  show OGo p e below _ (T5.setTop (mkF m 37 #[.val (.ref a), .val (.int p1)] [(.int n), (.ref b)]))
  refine OGo.by_ (fun t k => XS.iloadN X5.here hx rfl (hb hby d_add_37) rfl k) ?_
  show OGo p e below _ (T5.setTop (mkF m 38 #[.val (.ref a), .val (.int p1)] [(.int p1), (.int n), (.ref b)]))
  obtain ⟨cl6, Ar6, q6, S6, Nn6, H6, G6⟩ := id Vb
  obtain ⟨T7, h7, X7, e7, W7, st7⟩ := stI X5 hx hZ e5 Ar6 (j := n) (inb_of S6 ⟨hn0, hn⟩) (g := (mkF m 38 #[.val (.ref a), .val (.int p1)] [(.int p1), (.int n), (.ref b)])) rfl rfl (hb hby d_add_38)
  refine OGo.by_ st7 ?_
  show OGo p e below _ (T7.setTop (mkF m 39 #[.val (.ref a), .val (.int p1)] []))
  have N7 := Fr.snoc X7 N0 gb
  have hlt : n.toNatClampNeg < vs.length := by rw [hvs]; exact own_lt16 hn0 hn
  have Vb2 := Arv.set Ar6 q6 S6 Nn6 H6 G6 (v := .int p1) rfl W7 _ rfl hlt
  have Ex2 := Ex.wr W7
  have Fs2 := Fs.other W7 (Or.inl hab)
  have Fe2 := Fe.other W7 (Or.inl hab)
  refine OGo.by_ (fun t k => XS.aloadN X7.here hx rfl (hb hby d_add_39) rfl rfl k) ?_
  show OGo p e below _ (T7.setTop (mkF m 40 #[.val (.ref a), .val (.int p1)] [(.ref a)]))
  refine OGo.by_ (fun t k => XS.dup X7.here hx rfl (hb hby d_add_40) rfl rfl k) ?_
  show OGo p e below _ (T7.setTop (mkF m 41 #[.val (.ref a), .val (.int p1)] [(.ref a), (.ref a)]))
  obtain ⟨T8, X8, e8, st8⟩ := getF X7 hx hZ hown (host := "") (Or.inl (hw _ (List.mem_of_getElem? (i := 17) rfl))) Via.refl e7 Fs2 (g := (mkF m 41 #[.val (.ref a), .val (.int p1)] [(.ref a), (.ref a)])) rfl rfl (hb hby d_add_41)
  refine OGo.by_ st8 ?_
  show OGo p e below _ (T8.setTop (mkF m 44 #[.val (.ref a), .val (.int p1)] [(.int n), (.ref a)]))
  refine OGo.by_ (fun t k => XS.iconst X8.here hx rfl (hb hby d_add_44) k) ?_
  show OGo p e below _ (T8.setTop (mkF m 45 #[.val (.ref a), .val (.int p1)] [(.int (1 : Int32)), (.int n), (.ref a)]))
  refine OGo.by_ (fun t k => XS.iadd X8.here hx rfl (hb hby d_add_45) rfl k) ?_
  show OGo p e below _ (T8.setTop (mkF m 46 #[.val (.ref a), .val (.int p1)] [(.int (n + (1 : Int32))), (.ref a)]))
  obtain ⟨T9, h9, X9, e9, W9, st9⟩ := putF X8 hx hZ hown (host := "") (Or.inl (hw _ (List.mem_of_getElem? (i := 17) rfl))) Via.refl e8 Fs2 Ex2 (Or.inl (hw _ (List.mem_of_getElem? (i := 18) rfl))) (hw _ (List.mem_of_getElem? (i := 1) rfl)) (ty := .int) (by decide) rfl rfl (g := (mkF m 46 #[.val (.ref a), .val (.int p1)] [(.int (n + (1 : Int32))), (.ref a)])) rfl rfl (hb hby d_add_46)
  refine OGo.by_ st9 ?_
  show OGo p e below _ (T9.setTop (mkF m 49 #[.val (.ref a), .val (.int p1)] []))
  have N9 := Fr.snoc X9 N7 ga
  have KK : Keep h0 h9 [b, a] := ((Keep.refl h0 [b, a]).wr W7 (Or.inl (List.mem_cons_self ..))).wr W9 (Or.inl (List.mem_cons_of_mem _ (List.mem_cons_self ..)))
  exact own_ret X9 hx hlk hret (hb hby d_add_49) (by decide) (by decide) (by rw [e9]; exact ⟨rfl, N9, KK, Ex2.wr W9, Fs2.same W9, Fe2.other W9 (Or.inr (slot_ne (C := "com/example/frigg/frigg/engine/IntList") (Or.inl (hw _ (List.mem_of_getElem? (i := 11) rfl))) (Or.inl (hw _ (List.mem_of_getElem? (i := 18) rfl))) (by decide) (t := (.array .int)) (t' := .int) (by decide) (by decide))), kk, _, Vb2.other W9 (Ne.symm hab), by rw [List.length_set]; exact hvs⟩)
theorem d_emp_0 : decode prog_17_method_6_code 0 = .ok (.aload_n 0, 1) := by decide +kernel
theorem d_emp_1 : decode prog_17_method_6_code 1 = .ok (.getfield 13, 3) := by decide +kernel
theorem d_emp_4 : decode prog_17_method_6_code 4 = .ok (.ifCond .ne 7, 3) := by decide +kernel
theorem d_emp_7 : decode prog_17_method_6_code 7 = .ok (.iconst 1, 1) := by decide +kernel
theorem d_emp_8 : decode prog_17_method_6_code 8 = .ok (.goto 4, 3) := by decide +kernel
theorem d_emp_11 : decode prog_17_method_6_code 11 = .ok (.iconst 0, 1) := by decide +kernel
theorem d_emp_12 : decode prog_17_method_6_code 12 = .ok (.ireturn, 1) := by decide +kernel
theorem ef_emp (m : MethodId) (x0 : Addr) : entryFrame m #[(.ref x0)] 1 = mkF m 0 #[.val (.ref x0)] [] := by first | (simp [entryFrame, mkF, argsToLocals, Value.category]; done) | rfl
def Q_emp (Z : State) (a b : Addr) (n : Int32) (h0 : Heap) (n0 : Nat) (v : Option Value) (h : Heap) (L : List Loc) : Prop := v = some (.int (nar .boolean (if n = (0 : Int32) then (1 : Int32) else (0 : Int32)))) ∧ Fr n0 L ∧ h = h0
set_option maxRecDepth 65536 in
set_option maxHeartbeats 40000000 in
theorem rm_emp (l : Launch) (Z : State) (a0 : Array Value) (hw : ∀ d ∈ tables_1, d.before a0 Z = true) (ws : List Jvm.Cond) (a b : Addr) (n : Int32) (h0 : Heap) (n0 : Nat) (Z0 : n0 ≤ h0.size) (IL : own_IL Z h0 a b n) :
    MetFree l (⟨"com/example/frigg/frigg/engine/IntList", "isEmpty", "()Z"⟩ : MethodName) (head1 (Jvm.Cond.code (⟨"com/example/frigg/frigg/engine/IntList", "isEmpty", "()Z"⟩ : MethodName) prog_17_method_6_code 1 (some .boolean) :: ws) ({ frames := 0, cells := 0, slots := 0, locals := 0 } : Room)) (fun a_ U => a_ = #[(.ref a)] ∧ Z.Warmed39 U.vm ∧ U.heap = h0) (fun _ _ _ _ _ => True) (fun _ U o U' => ∃ v L, o = .returned v ∧ Q_emp Z a b n h0 n0 v U'.heap L ∧ FrameEnd U o U' L ({ frames := 0, cells := 0, slots := 0, locals := 0 } : Room).cells ({ frames := 0, cells := 0, slots := 0, locals := 0 } : Room).slots) := by
  refine MetFree.of_bodySF (plainFor_of_name pn_com_example_frigg_frigg_engine_IntList) hisR ?_
  intro p e s m args below meth c s₁ Bd hml0 hP hK
  obtain ⟨rfl, hZ, hh⟩ := hP
  have hx := Bd.exec
  have hby := Bd.bytes
  have hml : c.maxLocals = 1 := hml0
  have hown : s.vm.findClass "com/example/frigg/frigg/engine/IntList" = some m.cls := findClass_of_methodNamed Bd.named
  have hnm := (name_of_methodNamed Bd.named Bd.method).1
  have X0 : Stand p l e ({ frames := 0, cells := 0, slots := 0, locals := 0 } : Room) s m #[(.ref a)] below meth c s₁ [] 0 0 := Stand.of_body Bd
  have e0 : s₁.heap = h0 := by rw [← hh, Bd.state]; rfl
  have N0 := Fr.nil n0
  have hlk := Bd.notSynchronized
  have hret := Bd.returns
  show OGo p e below (OEnd s (Q_emp Z a b n h0 n0) ({ frames := 0, cells := 0, slots := 0, locals := 0 } : Room).cells ({ frames := 0, cells := 0, slots := 0, locals := 0 } : Room).slots) (s₁.setTop (entryFrame m #[(.ref a)] 1))
  rw [ef_emp]
  show OGo p e below _ (s₁.setTop (mkF m 0 #[.val (.ref a)] []))
  obtain ⟨Ex, Fs, Fe, kk, vs, Vb, hvs⟩ := IL
  refine OGo.by_ (fun t k => XS.aloadN X0.here hx rfl (hb hby d_emp_0) rfl rfl k) ?_
  show OGo p e below _ (s₁.setTop (mkF m 1 #[.val (.ref a)] [(.ref a)]))
  obtain ⟨T1, X1, e1, st1⟩ := getF X0 hx hZ hown (host := "") (Or.inl (hw _ (List.mem_of_getElem? (i := 17) rfl))) Via.refl e0 Fs (g := (mkF m 1 #[.val (.ref a)] [(.ref a)])) rfl rfl (hb hby d_emp_1)
  refine OGo.by_ st1 ?_
  show OGo p e below _ (T1.setTop (mkF m 4 #[.val (.ref a)] [(.int n)]))
  have D2 : ∀ t, Steps p.tables e below (T1.setTop (mkF m 12 #[.val (.ref a)] [(.int (if n = (0 : Int32) then (1 : Int32) else (0 : Int32)))])) t → Steps p.tables e below (T1.setTop (mkF m 4 #[.val (.ref a)] [(.int n)])) t := by
    intro t k
    by_cases hc : n = (0 : Int32)
    · rw [show (if n = (0 : Int32) then (1 : Int32) else (0 : Int32)) = (1 : Int32) from if_pos hc] at k
      refine XS.ifNo X1.here hx rfl (hb hby d_emp_4) rfl ((if0 _ _).trans (teq hc).2) ?_
      show Steps p.tables e below (T1.setTop (mkF m 7 #[.val (.ref a)] [])) _
      refine XS.iconst X1.here hx rfl (hb hby d_emp_7) ?_
      show Steps p.tables e below (T1.setTop (mkF m 8 #[.val (.ref a)] [(.int (1 : Int32))])) _
      refine XS.goto X1.here hx rfl (pc0 := 8) (pc' := 12) rfl (hb hby d_emp_8) (by decide) (by decide) ?_
      show Steps p.tables e below (T1.setTop (mkF m 12 #[.val (.ref a)] [(.int (1 : Int32))])) _
      first | exact k | (simp only [if_pos hc]; exact k)
    · rw [show (if n = (0 : Int32) then (1 : Int32) else (0 : Int32)) = (0 : Int32) from if_neg hc] at k
      refine XS.ifYes X1.here hx rfl (pc0 := 4) (pc' := 11) rfl (hb hby d_emp_4) rfl ((if0 _ _).trans (feq hc).2) (by decide) (by decide) ?_
      show Steps p.tables e below (T1.setTop (mkF m 11 #[.val (.ref a)] [])) _
      refine XS.iconst X1.here hx rfl (hb hby d_emp_11) ?_
      show Steps p.tables e below (T1.setTop (mkF m 12 #[.val (.ref a)] [(.int (0 : Int32))])) _
      first | exact k | (simp only [if_neg hc]; exact k)
  refine OGo.by_ D2 ?_
  show OGo p e below _ (T1.setTop (mkF m 12 #[.val (.ref a)] [(.int (if n = (0 : Int32) then (1 : Int32) else (0 : Int32)))]))
  exact own_retN X1 hx hlk (t := .boolean) hret (by simp) (hb hby d_emp_12) (by decide) (by decide) (⟨rfl, N0, e1⟩)
theorem d_clr_0 : decode prog_17_method_7_code 0 = .ok (.aload_n 0, 1) := by decide +kernel
theorem d_clr_1 : decode prog_17_method_7_code 1 = .ok (.iconst 0, 1) := by decide +kernel
theorem d_clr_2 : decode prog_17_method_7_code 2 = .ok (.putfield 13, 3) := by decide +kernel
theorem d_clr_5 : decode prog_17_method_7_code 5 = .ok (.return_, 1) := by decide +kernel
theorem ef_clr (m : MethodId) (x0 : Addr) : entryFrame m #[(.ref x0)] 1 = mkF m 0 #[.val (.ref x0)] [] := by first | (simp [entryFrame, mkF, argsToLocals, Value.category]; done) | rfl
def Q_clr (Z : State) (a b : Addr) (n : Int32) (h0 : Heap) (n0 : Nat) (v : Option Value) (h : Heap) (L : List Loc) : Prop := v = none ∧ Fr n0 L ∧ Keep h0 h [a] ∧ own_IL Z h a b 0
set_option maxRecDepth 65536 in
set_option maxHeartbeats 40000000 in
theorem rm_clr (l : Launch) (Z : State) (a0 : Array Value) (hw : ∀ d ∈ tables_1, d.before a0 Z = true) (ws : List Jvm.Cond) (a b : Addr) (n : Int32) (h0 : Heap) (n0 : Nat) (Z0 : n0 ≤ h0.size) (IL : own_IL Z h0 a b n) (hab : a ≠ b) (ga : n0 ≤ a) :
    MetFree l (⟨"com/example/frigg/frigg/engine/IntList", "clear", "()V"⟩ : MethodName) (head1 (Jvm.Cond.code (⟨"com/example/frigg/frigg/engine/IntList", "clear", "()V"⟩ : MethodName) prog_17_method_7_code 1 none :: ws) ({ frames := 0, cells := 0, slots := 0, locals := 0 } : Room)) (fun a_ U => a_ = #[(.ref a)] ∧ Z.Warmed39 U.vm ∧ U.heap = h0) (fun _ _ _ _ _ => True) (fun _ U o U' => ∃ v L, o = .returned v ∧ Q_clr Z a b n h0 n0 v U'.heap L ∧ FrameEnd U o U' L ({ frames := 0, cells := 0, slots := 0, locals := 0 } : Room).cells ({ frames := 0, cells := 0, slots := 0, locals := 0 } : Room).slots) := by
  refine MetFree.of_bodySF (plainFor_of_name pn_com_example_frigg_frigg_engine_IntList) hisR ?_
  intro p e s m args below meth c s₁ Bd hml0 hP hK
  obtain ⟨rfl, hZ, hh⟩ := hP
  have hx := Bd.exec
  have hby := Bd.bytes
  have hml : c.maxLocals = 1 := hml0
  have hown : s.vm.findClass "com/example/frigg/frigg/engine/IntList" = some m.cls := findClass_of_methodNamed Bd.named
  have hnm := (name_of_methodNamed Bd.named Bd.method).1
  have X0 : Stand p l e ({ frames := 0, cells := 0, slots := 0, locals := 0 } : Room) s m #[(.ref a)] below meth c s₁ [] 0 0 := Stand.of_body Bd
  have e0 : s₁.heap = h0 := by rw [← hh, Bd.state]; rfl
  have N0 := Fr.nil n0
  have hlk := Bd.notSynchronized
  have hret := Bd.returns
  show OGo p e below (OEnd s (Q_clr Z a b n h0 n0) ({ frames := 0, cells := 0, slots := 0, locals := 0 } : Room).cells ({ frames := 0, cells := 0, slots := 0, locals := 0 } : Room).slots) (s₁.setTop (entryFrame m #[(.ref a)] 1))
  rw [ef_clr]
  show OGo p e below _ (s₁.setTop (mkF m 0 #[.val (.ref a)] []))
  obtain ⟨Ex, Fs, Fe, kk, vs, Vb, hvs⟩ := IL
  refine OGo.by_ (fun t k => XS.aloadN X0.here hx rfl (hb hby d_clr_0) rfl rfl k) ?_
  show OGo p e below _ (s₁.setTop (mkF m 1 #[.val (.ref a)] [(.ref a)]))
  refine OGo.by_ (fun t k => XS.iconst X0.here hx rfl (hb hby d_clr_1) k) ?_
  show OGo p e below _ (s₁.setTop (mkF m 2 #[.val (.ref a)] [(.int (0 : Int32)), (.ref a)]))
  obtain ⟨T1, h1, X1, e1, W1, st1⟩ := putF X0 hx hZ hown (host := "") (Or.inl (hw _ (List.mem_of_getElem? (i := 17) rfl))) Via.refl e0 Fs Ex (Or.inl (hw _ (List.mem_of_getElem? (i := 18) rfl))) (hw _ (List.mem_of_getElem? (i := 1) rfl)) (ty := .int) (by decide) rfl rfl (g := (mkF m 2 #[.val (.ref a)] [(.int (0 : Int32)), (.ref a)])) rfl rfl (hb hby d_clr_2)
  refine OGo.by_ st1 ?_
  show OGo p e below _ (T1.setTop (mkF m 5 #[.val (.ref a)] []))
  have N1 := Fr.snoc X1 N0 ga
  exact own_ret X1 hx hlk hret (hb hby d_clr_5) (by decide) (by decide) (by rw [e1]; exact ⟨rfl, N1, Keep.of_wr W1, Ex.wr W1, Fs.same W1, Fe.other W1 (Or.inr (slot_ne (C := "com/example/frigg/frigg/engine/IntList") (Or.inl (hw _ (List.mem_of_getElem? (i := 11) rfl))) (Or.inl (hw _ (List.mem_of_getElem? (i := 18) rfl))) (by decide) (t := (.array .int)) (t' := .int) (by decide) (by decide))), kk, vs, Vb.other W1 (Ne.symm hab), hvs⟩)
theorem own_len16 {vs : List Value} {d n : Nat} {f : Nat → Value} (hv : vs.length = 16) (h : d + n ≤ (16 : Int32).toNatClampNeg) : (vs.take d ++ (List.range n).map f ++ vs.drop (d + n)).length = 16 := by
  have e : (16 : Int32).toNatClampNeg = 16 := by decide
  rw [e] at h
  simp only [List.length_append, List.length_take, List.length_map, List.length_range, List.length_drop, hv]
  omega
theorem d_all_0 : decode prog_17_method_3_code 0 = .ok (.aload_n 0, 1) := by decide +kernel
theorem d_all_1 : decode prog_17_method_3_code 1 = .ok (.getfield 13, 3) := by decide +kernel
theorem d_all_4 : decode prog_17_method_3_code 4 = .ok (.aload_n 1, 1) := by decide +kernel
theorem d_all_5 : decode prog_17_method_3_code 5 = .ok (.getfield 13, 3) := by decide +kernel
theorem d_all_8 : decode prog_17_method_3_code 8 = .ok (.iadd, 1) := by decide +kernel
theorem d_all_9 : decode prog_17_method_3_code 9 = .ok (.aload_n 0, 1) := by decide +kernel
theorem d_all_10 : decode prog_17_method_3_code 10 = .ok (.getfield 7, 3) := by decide +kernel
theorem d_all_13 : decode prog_17_method_3_code 13 = .ok (.arraylength, 1) := by decide +kernel
theorem d_all_14 : decode prog_17_method_3_code 14 = .ok (.if_icmp .le 33, 3) := by decide +kernel
theorem d_all_47 : decode prog_17_method_3_code 47 = .ok (.aload_n 1, 1) := by decide +kernel
theorem d_all_48 : decode prog_17_method_3_code 48 = .ok (.getfield 7, 3) := by decide +kernel
theorem d_all_51 : decode prog_17_method_3_code 51 = .ok (.iconst 0, 1) := by decide +kernel
theorem d_all_52 : decode prog_17_method_3_code 52 = .ok (.aload_n 0, 1) := by decide +kernel
theorem d_all_53 : decode prog_17_method_3_code 53 = .ok (.getfield 7, 3) := by decide +kernel
theorem d_all_56 : decode prog_17_method_3_code 56 = .ok (.aload_n 0, 1) := by decide +kernel
theorem d_all_57 : decode prog_17_method_3_code 57 = .ok (.getfield 13, 3) := by decide +kernel
theorem d_all_60 : decode prog_17_method_3_code 60 = .ok (.aload_n 1, 1) := by decide +kernel
theorem d_all_61 : decode prog_17_method_3_code 61 = .ok (.getfield 13, 3) := by decide +kernel
theorem d_all_64 : decode prog_17_method_3_code 64 = .ok (.invokestatic 29, 3) := by decide +kernel
theorem d_all_67 : decode prog_17_method_3_code 67 = .ok (.aload_n 0, 1) := by decide +kernel
theorem d_all_68 : decode prog_17_method_3_code 68 = .ok (.dup, 1) := by decide +kernel
theorem d_all_69 : decode prog_17_method_3_code 69 = .ok (.getfield 13, 3) := by decide +kernel
theorem d_all_72 : decode prog_17_method_3_code 72 = .ok (.aload_n 1, 1) := by decide +kernel
theorem d_all_73 : decode prog_17_method_3_code 73 = .ok (.getfield 13, 3) := by decide +kernel
theorem d_all_76 : decode prog_17_method_3_code 76 = .ok (.iadd, 1) := by decide +kernel
theorem d_all_77 : decode prog_17_method_3_code 77 = .ok (.putfield 13, 3) := by decide +kernel
theorem d_all_80 : decode prog_17_method_3_code 80 = .ok (.return_, 1) := by decide +kernel
theorem ef_all (m : MethodId) (x0 : Addr) (x1 : Addr) : entryFrame m #[(.ref x0), (.ref x1)] 2 = mkF m 0 #[.val (.ref x0), .val (.ref x1)] [] := by first | (simp [entryFrame, mkF, argsToLocals, Value.category]; done) | rfl
def Q_all (Z : State) (a b a2 b2 : Addr) (n n2 : Int32) (h0 : Heap) (n0 : Nat) (v : Option Value) (h : Heap) (L : List Loc) : Prop := v = none ∧ Fr n0 L ∧ Keep h0 h [b, a] ∧ own_IL Z h a b (n + n2)
set_option maxRecDepth 65536 in
set_option maxHeartbeats 40000000 in
theorem rm_all (l : Launch) (Z : State) (a0 : Array Value) (hw : ∀ d ∈ tables_1, d.before a0 Z = true) (ws : List Jvm.Cond) (a b a2 b2 : Addr) (n n2 : Int32) (h0 : Heap) (n0 : Nat) (Z0 : n0 ≤ h0.size) (IL : own_IL Z h0 a b n) (IL2 : own_IL Z h0 a2 b2 n2) (hab : a ≠ b) (ha2b : a2 ≠ b) (ga : n0 ≤ a) (gb : n0 ≤ b) (hn0 : ¬ n < 0) (hm0 : ¬ n2 < 0) (hsum : ¬ (16 : Int32) < (n + n2)) (hs1 : (0 : Int32).toNatClampNeg + n2.toNatClampNeg ≤ (16 : Int32).toNatClampNeg) (hs2 : n.toNatClampNeg + n2.toNatClampNeg ≤ (16 : Int32).toNatClampNeg) :
    MetFree l (⟨"com/example/frigg/frigg/engine/IntList", "addAll", "(Lcom/example/frigg/frigg/engine/IntList;)V"⟩ : MethodName) (head1 (Jvm.Cond.code (⟨"com/example/frigg/frigg/engine/IntList", "addAll", "(Lcom/example/frigg/frigg/engine/IntList;)V"⟩ : MethodName) prog_17_method_3_code 2 none :: ws) ({ frames := 1, cells := 0, slots := 0, locals := 40 } : Room)) (fun a_ U => a_ = #[(.ref a), (.ref a2)] ∧ Z.Warmed39 U.vm ∧ U.heap = h0) (fun _ _ _ _ _ => True) (fun _ U o U' => ∃ v L, o = .returned v ∧ Q_all Z a b a2 b2 n n2 h0 n0 v U'.heap L ∧ FrameEnd U o U' L ({ frames := 1, cells := 0, slots := 0, locals := 40 } : Room).cells ({ frames := 1, cells := 0, slots := 0, locals := 40 } : Room).slots) := by
  refine MetFree.of_bodySF (plainFor_of_name pn_com_example_frigg_frigg_engine_IntList) hisR ?_
  intro p e s m args below meth c s₁ Bd hml0 hP hK
  obtain ⟨rfl, hZ, hh⟩ := hP
  have hx := Bd.exec
  have hby := Bd.bytes
  have hml : c.maxLocals = 2 := hml0
  have hown : s.vm.findClass "com/example/frigg/frigg/engine/IntList" = some m.cls := findClass_of_methodNamed Bd.named
  have hnm := (name_of_methodNamed Bd.named Bd.method).1
  have X0 : Stand p l e ({ frames := 1, cells := 0, slots := 0, locals := 40 } : Room) s m #[(.ref a), (.ref a2)] below meth c s₁ [] 0 0 := Stand.of_body Bd
  have e0 : s₁.heap = h0 := by rw [← hh, Bd.state]; rfl
  have N0 := Fr.nil n0
  have hlk := Bd.notSynchronized
  have hret := Bd.returns
  show OGo p e below (OEnd s (Q_all Z a b a2 b2 n n2 h0 n0) ({ frames := 1, cells := 0, slots := 0, locals := 40 } : Room).cells ({ frames := 1, cells := 0, slots := 0, locals := 40 } : Room).slots) (s₁.setTop (entryFrame m #[(.ref a), (.ref a2)] 2))
  rw [ef_all]
  show OGo p e below _ (s₁.setTop (mkF m 0 #[.val (.ref a), .val (.ref a2)] []))
  obtain ⟨Ex, Fs, Fe, kk, vs, Vb, hvs⟩ := IL
  obtain ⟨Ex2, Gs, Ge, kk2, vs2, Vb2, hvs2⟩ := IL2
  refine OGo.by_ (fun t k => XS.aloadN X0.here hx rfl (hb hby d_all_0) rfl rfl k) ?_
  show OGo p e below _ (s₁.setTop (mkF m 1 #[.val (.ref a), .val (.ref a2)] [(.ref a)]))
  obtain ⟨T1, X1, e1, st1⟩ := getF X0 hx hZ hown (host := "") (Or.inl (hw _ (List.mem_of_getElem? (i := 17) rfl))) Via.refl e0 Fs (g := (mkF m 1 #[.val (.ref a), .val (.ref a2)] [(.ref a)])) rfl rfl (hb hby d_all_1)
  refine OGo.by_ st1 ?_
  show OGo p e below _ (T1.setTop (mkF m 4 #[.val (.ref a), .val (.ref a2)] [(.int n)]))
  refine OGo.by_ (fun t k => XS.aloadN X1.here hx rfl (hb hby d_all_4) rfl rfl k) ?_
  show OGo p e below _ (T1.setTop (mkF m 5 #[.val (.ref a), .val (.ref a2)] [(.ref a2), (.int n)]))
  obtain ⟨T2, X2, e2, st2⟩ := getF X1 hx hZ hown (host := "") (Or.inl (hw _ (List.mem_of_getElem? (i := 17) rfl))) Via.refl e1 Gs (g := (mkF m 5 #[.val (.ref a), .val (.ref a2)] [(.ref a2), (.int n)])) rfl rfl (hb hby d_all_5)
  refine OGo.by_ st2 ?_
  show OGo p e below _ (T2.setTop (mkF m 8 #[.val (.ref a), .val (.ref a2)] [(.int n2), (.int n)]))
  refine OGo.by_ (fun t k => XS.iadd X2.here hx rfl (hb hby d_all_8) rfl k) ?_
  show OGo p e below _ (T2.setTop (mkF m 9 #[.val (.ref a), .val (.ref a2)] [(.int (n + n2))]))
  refine OGo.by_ (fun t k => XS.aloadN X2.here hx rfl (hb hby d_all_9) rfl rfl k) ?_
  show OGo p e below _ (T2.setTop (mkF m 10 #[.val (.ref a), .val (.ref a2)] [(.ref a), (.int (n + n2))]))
  obtain ⟨T3, X3, e3, st3⟩ := getF X2 hx hZ hown (host := "") (Or.inl (hw _ (List.mem_of_getElem? (i := 10) rfl))) Via.refl e2 Fe (g := (mkF m 10 #[.val (.ref a), .val (.ref a2)] [(.ref a), (.int (n + n2))])) rfl rfl (hb hby d_all_10)
  refine OGo.by_ st3 ?_
  show OGo p e below _ (T3.setTop (mkF m 13 #[.val (.ref a), .val (.ref a2)] [(.ref b), (.int (n + n2))]))
  obtain ⟨cl4, Ar4, q4, S4, Nn4, H4, G4⟩ := id Vb
  refine OGo.by_ (X3.arraylength hx (by rw [e3]; exact Ar4.1) (State.isArrayOf_alike hZ.alike Ar4.2.1) (g := (mkF m 13 #[.val (.ref a), .val (.ref a2)] [(.ref b), (.int (n + n2))])) rfl rfl (hb hby d_all_13)) ?_
  rw [len_of S4 Nn4]
  show OGo p e below _ (T3.setTop (mkF m 14 #[.val (.ref a), .val (.ref a2)] [(.int (16 : Int32)), (.int (n + n2))]))
  refine OGo.by_ (fun t k => XS.icmpYes X3.here hx rfl (pc0 := 14) (pc' := 47) rfl (hb hby d_all_14) rfl (flt hsum).2.2.2 (by decide) (by decide) k) ?_
  show OGo p e below _ (T3.setTop (mkF m 47 #[.val (.ref a), .val (.ref a2)] []))
  refine OGo.by_ (fun t k => XS.aloadN X3.here hx rfl (hb hby d_all_47) rfl rfl k) ?_
  show OGo p e below _ (T3.setTop (mkF m 48 #[.val (.ref a), .val (.ref a2)] [(.ref a2)]))
  obtain ⟨T5, X5, e5, st5⟩ := getF X3 hx hZ hown (host := "") (Or.inl (hw _ (List.mem_of_getElem? (i := 10) rfl))) Via.refl e3 Ge (g := (mkF m 48 #[.val (.ref a), .val (.ref a2)] [(.ref a2)])) rfl rfl (hb hby d_all_48)
  refine OGo.by_ st5 ?_
  show OGo p e below _ (T5.setTop (mkF m 51 #[.val (.ref a), .val (.ref a2)] [(.ref b2)]))
  refine OGo.by_ (fun t k => XS.iconst X5.here hx rfl (hb hby d_all_51) k) ?_
  show OGo p e below _ (T5.setTop (mkF m 52 #[.val (.ref a), .val (.ref a2)] [(.int (0 : Int32)), (.ref b2)]))
  refine OGo.by_ (fun t k => XS.aloadN X5.here hx rfl (hb hby d_all_52) rfl rfl k) ?_
  show OGo p e below _ (T5.setTop (mkF m 53 #[.val (.ref a), .val (.ref a2)] [(.ref a), (.int (0 : Int32)), (.ref b2)]))
  obtain ⟨T6, X6, e6, st6⟩ := getF X5 hx hZ hown (host := "") (Or.inl (hw _ (List.mem_of_getElem? (i := 10) rfl))) Via.refl e5 Fe (g := (mkF m 53 #[.val (.ref a), .val (.ref a2)] [(.ref a), (.int (0 : Int32)), (.ref b2)])) rfl rfl (hb hby d_all_53)
  refine OGo.by_ st6 ?_
  show OGo p e below _ (T6.setTop (mkF m 56 #[.val (.ref a), .val (.ref a2)] [(.ref b), (.int (0 : Int32)), (.ref b2)]))
  refine OGo.by_ (fun t k => XS.aloadN X6.here hx rfl (hb hby d_all_56) rfl rfl k) ?_
  show OGo p e below _ (T6.setTop (mkF m 57 #[.val (.ref a), .val (.ref a2)] [(.ref a), (.ref b), (.int (0 : Int32)), (.ref b2)]))
  obtain ⟨T7, X7, e7, st7⟩ := getF X6 hx hZ hown (host := "") (Or.inl (hw _ (List.mem_of_getElem? (i := 17) rfl))) Via.refl e6 Fs (g := (mkF m 57 #[.val (.ref a), .val (.ref a2)] [(.ref a), (.ref b), (.int (0 : Int32)), (.ref b2)])) rfl rfl (hb hby d_all_57)
  refine OGo.by_ st7 ?_
  show OGo p e below _ (T7.setTop (mkF m 60 #[.val (.ref a), .val (.ref a2)] [(.int n), (.ref b), (.int (0 : Int32)), (.ref b2)]))
  refine OGo.by_ (fun t k => XS.aloadN X7.here hx rfl (hb hby d_all_60) rfl rfl k) ?_
  show OGo p e below _ (T7.setTop (mkF m 61 #[.val (.ref a), .val (.ref a2)] [(.ref a2), (.int n), (.ref b), (.int (0 : Int32)), (.ref b2)]))
  obtain ⟨T8, X8, e8, st8⟩ := getF X7 hx hZ hown (host := "") (Or.inl (hw _ (List.mem_of_getElem? (i := 17) rfl))) Via.refl e7 Gs (g := (mkF m 61 #[.val (.ref a), .val (.ref a2)] [(.ref a2), (.int n), (.ref b), (.int (0 : Int32)), (.ref b2)])) rfl rfl (hb hby d_all_61)
  refine OGo.by_ st8 ?_
  show OGo p e below _ (T8.setTop (mkF m 64 #[.val (.ref a), .val (.ref a2)] [(.int n2), (.int n), (.ref b), (.int (0 : Int32)), (.ref b2)]))
  obtain ⟨T9, h9, L9, X9, e9, N9, K9, Vc9, st9⟩ := cpA X8 hx hZ hown (hw _ (List.mem_of_getElem? (i := 29) rfl)) (hw _ (List.mem_of_getElem? (i := 32) rfl)) (hw _ (List.mem_of_getElem? (i := 30) rfl)) (hw _ (List.mem_of_getElem? (i := 31) rfl)) e8 Vb2 Vb (Or.inl ⟨rfl, rfl⟩) (sp := (0 : Int32)) (dp := n) (nn := n2) (by decide) hn0 hm0 hs1 hs2 rfl (by rw [hvs]; exact hs2) N0 gb (g := (mkF m 64 #[.val (.ref a), .val (.ref a2)] [(.int n2), (.int n), (.ref b), (.int (0 : Int32)), (.ref b2)])) rfl (by rw [hml]; rfl) rfl (hb hby d_all_64) (by decide) (W := 0) (by show 2 * 0 + _ ≤ _; exact Nat.le_of_eq rfl) (by decide)
  refine OGo.by_ st9 ?_
  show OGo p e below _ (T9.setTop (mkF m 67 #[.val (.ref a), .val (.ref a2)] []))
  have Exb := Ex.keep K9
  have Fsb := Fs.keep K9 (own_nin1 hab)
  have Feb := Fe.keep K9 (own_nin1 hab)
  have Gsb := Gs.keep K9 (own_nin1 ha2b)
  refine OGo.by_ (fun t k => XS.aloadN X9.here hx rfl (hb hby d_all_67) rfl rfl k) ?_
  show OGo p e below _ (T9.setTop (mkF m 68 #[.val (.ref a), .val (.ref a2)] [(.ref a)]))
  refine OGo.by_ (fun t k => XS.dup X9.here hx rfl (hb hby d_all_68) rfl rfl k) ?_
  show OGo p e below _ (T9.setTop (mkF m 69 #[.val (.ref a), .val (.ref a2)] [(.ref a), (.ref a)]))
  obtain ⟨T10, X10, e10, st10⟩ := getF X9 hx hZ hown (host := "") (Or.inl (hw _ (List.mem_of_getElem? (i := 17) rfl))) Via.refl e9 Fsb (g := (mkF m 69 #[.val (.ref a), .val (.ref a2)] [(.ref a), (.ref a)])) rfl rfl (hb hby d_all_69)
  refine OGo.by_ st10 ?_
  show OGo p e below _ (T10.setTop (mkF m 72 #[.val (.ref a), .val (.ref a2)] [(.int n), (.ref a)]))
  refine OGo.by_ (fun t k => XS.aloadN X10.here hx rfl (hb hby d_all_72) rfl rfl k) ?_
  show OGo p e below _ (T10.setTop (mkF m 73 #[.val (.ref a), .val (.ref a2)] [(.ref a2), (.int n), (.ref a)]))
  obtain ⟨T11, X11, e11, st11⟩ := getF X10 hx hZ hown (host := "") (Or.inl (hw _ (List.mem_of_getElem? (i := 17) rfl))) Via.refl e10 Gsb (g := (mkF m 73 #[.val (.ref a), .val (.ref a2)] [(.ref a2), (.int n), (.ref a)])) rfl rfl (hb hby d_all_73)
  refine OGo.by_ st11 ?_
  show OGo p e below _ (T11.setTop (mkF m 76 #[.val (.ref a), .val (.ref a2)] [(.int n2), (.int n), (.ref a)]))
  refine OGo.by_ (fun t k => XS.iadd X11.here hx rfl (hb hby d_all_76) rfl k) ?_
  show OGo p e below _ (T11.setTop (mkF m 77 #[.val (.ref a), .val (.ref a2)] [(.int (n + n2)), (.ref a)]))
  obtain ⟨T12, h12, X12, e12, W12, st12⟩ := putF X11 hx hZ hown (host := "") (Or.inl (hw _ (List.mem_of_getElem? (i := 17) rfl))) Via.refl e11 Fsb Exb (Or.inl (hw _ (List.mem_of_getElem? (i := 18) rfl))) (hw _ (List.mem_of_getElem? (i := 1) rfl)) (ty := .int) (by decide) rfl rfl (g := (mkF m 77 #[.val (.ref a), .val (.ref a2)] [(.int (n + n2)), (.ref a)])) rfl rfl (hb hby d_all_77)
  refine OGo.by_ st12 ?_
  show OGo p e below _ (T12.setTop (mkF m 80 #[.val (.ref a), .val (.ref a2)] []))
  have N12 := Fr.snoc X12 N9 ga
  have KK : Keep h0 h12 [b, a] := (Keep.trans (Keep.refl h0 [b, a]) K9 (fun x hx => Or.inl (by cases List.mem_singleton.mp hx; exact List.mem_cons_self ..))).wr W12 (Or.inl (List.mem_cons_of_mem _ (List.mem_cons_self ..)))
  exact own_ret X12 hx hlk hret (hb hby d_all_80) (by decide) (by decide) (by rw [e12]; exact ⟨rfl, N12, KK, Exb.wr W12, Fsb.same W12, Feb.other W12 (Or.inr (slot_ne (C := "com/example/frigg/frigg/engine/IntList") (Or.inl (hw _ (List.mem_of_getElem? (i := 11) rfl))) (Or.inl (hw _ (List.mem_of_getElem? (i := 18) rfl))) (by decide) (t := (.array .int)) (t' := .int) (by decide) (by decide))), kk, _, Vc9.other W12 (Ne.symm hab), own_len16 hvs (by have := hs2; exact this)⟩)
theorem own_nb {n : Int32} : nar .boolean (if n = (0 : Int32) then (1 : Int32) else (0 : Int32)) = (if n = (0 : Int32) then (1 : Int32) else (0 : Int32)) := by split <;> rfl
theorem pd_ocZ : parseMethodDescriptor "()Z" = some ⟨[], some .boolean⟩ := by decide +kernel
set_option maxRecDepth 65536 in
set_option maxHeartbeats 40000000 in
theorem sg_k161 {p : Program} {l : Launch} {e : Env} {s : State} {m : MethodId} {args : Array Value} {below : List Frame} {meth : Method} {c : Code} {T0 : State} {locs : List Loc} {Z : State} {a0 : Array Value} {h0 : Heap} {n0 : Nat} {p1 p2 p3 p4 p5 c8 d8 : Int32} {la b mb b2 : Addr}
    (X0 : Stand p l e room_1 s m args below meth c T0 locs 4 36) (hx : p.tables.exec = Jvm.exec) (hZ : Z.Warmed39 s.vm) (hw : ∀ d ∈ tables_1, d.before a0 Z = true) (hby : c.code = code) (hml : c.maxLocals = 12) (hown : s.vm.findClass "com/example/frigg/frigg/engine/IntListIsEmptyPinLaw" = some m.cls) (hnm : meth.name = "law") (hlk : meth.locks = false) (hret : meth.sig.returnType = some .boolean) (e0 : T0.heap = h0) (N0 : Fr n0 locs) (Z0 : n0 ≤ h0.size) (IL1 : own_IL Z h0 la b c8) (IL2 : own_IL Z h0 mb b2 d8) (far : la ≠ b ∧ mb ≠ b2 ∧ la ≠ mb ∧ la ≠ b2 ∧ mb ≠ b ∧ b ≠ b2) (gs : n0 ≤ la ∧ n0 ≤ b ∧ n0 ≤ mb ∧ n0 ≤ b2)  :
    OGo p e below (OEnd s (fun v h L => v = some (.int 1) ∧ Fr n0 L) room_1.cells room_1.slots) (T0.setTop (mkF m 161 #[.val (.int p1), .val (.int p2), .val (.int p3), .val (.int p4), .val (.int p5), .val (.ref la), .val (.ref mb), .val (.int c8), .val (.int d8), .val (.int (1 : Int32)), .val (.int (1 : Int32)), .unset] [])) := by
  refine OGo.by_ (fun t k => XS.aload X0.here hx rfl (hb hby at_161) rfl rfl k) ?_
  show OGo p e below _ (T0.setTop (mkF m 163 #[.val (.int p1), .val (.int p2), .val (.int p3), .val (.int p4), .val (.int p5), .val (.ref la), .val (.ref mb), .val (.int c8), .val (.int d8), .val (.int (1 : Int32)), .val (.int (1 : Int32)), .unset] [(.ref la)]))
  obtain ⟨cq2, kq2, qa2, qb2, qc2⟩ := isOf hZ e0 IL1.1
  obtain ⟨_, _, ⟨T1, L1, k1, n1⟩, -, X1, ⟨Lc1, hQ1, l1, y1, z1⟩, st1⟩ := X0.virtualBack hx (y := (⟨"com/example/frigg/frigg/engine/IntList", "isEmpty", "()Z"⟩ : MethodName)) (z := (⟨"com/example/frigg/frigg/engine/IntList", "isEmpty", "()Z"⟩ : MethodName)) hown (mvT hZ (hw _ (List.mem_of_getElem? (i := 19) rfl))) (mvT hZ (hw _ (List.mem_of_getElem? (i := 20) rfl))) (notFace_of_selects (args := #[]) (mvT hZ (hw _ (List.mem_of_getElem? (i := 22) rfl)))) (mvT hZ (hw _ (List.mem_of_getElem? (i := 22) rfl))) (mvT hZ (hw _ (List.mem_of_getElem? (i := 21) rfl))) (by decide) (backOf (W := 0) (rm_emp l Z a0 hw [] la b c8 h0 n0 Z0 IL1) hZ (hw _ (List.mem_of_getElem? (i := 23) rfl)) (hw _ (List.mem_of_getElem? (i := 2) rfl)) (by decide) (by decide)) qa2 qc2 (g := (mkF m 163 #[.val (.int p1), .val (.int p2), .val (.int p3), .val (.int p4), .val (.int p5), .val (.ref la), .val (.ref mb), .val (.int c8), .val (.int d8), .val (.int (1 : Int32)), .val (.int (1 : Int32)), .unset] [(.ref la)])) rfl (by rw [hml]; rfl) (Steps.refl _) (argsL := []) (rest := []) (lenOf pd_ocZ rfl) rfl (by show 2 * 0 + _ ≤ _; exact Nat.le_of_eq rfl) (hb hby at_163) (fun _ _ => ⟨rfl, e0, (by decide : 4 + 0 ≤ _), (by decide : 36 + 0 ≤ _)⟩)
  dsimp only [Pt.U, Pt.locs, Pt.cells, Pt.slots] at X1 l1 y1 z1 st1 hQ1
  subst l1 y1 z1
  obtain ⟨rfl, Nq1, eq1⟩ := hQ1
  have N1 := Fr.app N0 Nq1
  refine OGo.by_ (fun t k => st1.trans k) ?_
  show OGo p e below _ (T1.setTop (mkF m 166 #[.val (.int p1), .val (.int p2), .val (.int p3), .val (.int p4), .val (.int p5), .val (.ref la), .val (.ref mb), .val (.int c8), .val (.int d8), .val (.int (1 : Int32)), .val (.int (1 : Int32)), .unset] [(.int (nar .boolean (if c8 = (0 : Int32) then (1 : Int32) else (0 : Int32))))]))
  refine OGo.by_ (fun t k => XS.iload X1.here hx rfl (hb hby at_166) rfl k) ?_
  show OGo p e below _ (T1.setTop (mkF m 168 #[.val (.int p1), .val (.int p2), .val (.int p3), .val (.int p4), .val (.int p5), .val (.ref la), .val (.ref mb), .val (.int c8), .val (.int d8), .val (.int (1 : Int32)), .val (.int (1 : Int32)), .unset] [(.int c8), (.int (nar .boolean (if c8 = (0 : Int32) then (1 : Int32) else (0 : Int32))))]))
  have D3 : ∀ t, Steps p.tables e below (T1.setTop (mkF m 176 #[.val (.int p1), .val (.int p2), .val (.int p3), .val (.int p4), .val (.int p5), .val (.ref la), .val (.ref mb), .val (.int c8), .val (.int d8), .val (.int (1 : Int32)), .val (.int (1 : Int32)), .unset] [(.int (if c8 = (0 : Int32) then (1 : Int32) else (0 : Int32))), (.int (nar .boolean (if c8 = (0 : Int32) then (1 : Int32) else (0 : Int32))))])) t → Steps p.tables e below (T1.setTop (mkF m 168 #[.val (.int p1), .val (.int p2), .val (.int p3), .val (.int p4), .val (.int p5), .val (.ref la), .val (.ref mb), .val (.int c8), .val (.int d8), .val (.int (1 : Int32)), .val (.int (1 : Int32)), .unset] [(.int c8), (.int (nar .boolean (if c8 = (0 : Int32) then (1 : Int32) else (0 : Int32))))])) t := by
    intro t k
    by_cases hc : c8 = (0 : Int32)
    · rw [show (if c8 = (0 : Int32) then (1 : Int32) else (0 : Int32)) = (1 : Int32) from if_pos hc] at k
      refine XS.ifNo X1.here hx rfl (hb hby at_168) rfl ((if0 _ _).trans (teq hc).2) ?_
      show Steps p.tables e below (T1.setTop (mkF m 171 #[.val (.int p1), .val (.int p2), .val (.int p3), .val (.int p4), .val (.int p5), .val (.ref la), .val (.ref mb), .val (.int c8), .val (.int d8), .val (.int (1 : Int32)), .val (.int (1 : Int32)), .unset] [(.int (nar .boolean (if c8 = (0 : Int32) then (1 : Int32) else (0 : Int32))))])) _
      refine XS.iconst X1.here hx rfl (hb hby at_171) ?_
      show Steps p.tables e below (T1.setTop (mkF m 172 #[.val (.int p1), .val (.int p2), .val (.int p3), .val (.int p4), .val (.int p5), .val (.ref la), .val (.ref mb), .val (.int c8), .val (.int d8), .val (.int (1 : Int32)), .val (.int (1 : Int32)), .unset] [(.int (1 : Int32)), (.int (nar .boolean (if c8 = (0 : Int32) then (1 : Int32) else (0 : Int32))))])) _
      refine XS.goto X1.here hx rfl (pc0 := 172) (pc' := 176) rfl (hb hby at_172) (by decide) (by decide) ?_
      show Steps p.tables e below (T1.setTop (mkF m 176 #[.val (.int p1), .val (.int p2), .val (.int p3), .val (.int p4), .val (.int p5), .val (.ref la), .val (.ref mb), .val (.int c8), .val (.int d8), .val (.int (1 : Int32)), .val (.int (1 : Int32)), .unset] [(.int (1 : Int32)), (.int (nar .boolean (if c8 = (0 : Int32) then (1 : Int32) else (0 : Int32))))])) _
      first | exact k | (simp only [if_pos hc]; exact k)
    · rw [show (if c8 = (0 : Int32) then (1 : Int32) else (0 : Int32)) = (0 : Int32) from if_neg hc] at k
      refine XS.ifYes X1.here hx rfl (pc0 := 168) (pc' := 175) rfl (hb hby at_168) rfl ((if0 _ _).trans (feq hc).2) (by decide) (by decide) ?_
      show Steps p.tables e below (T1.setTop (mkF m 175 #[.val (.int p1), .val (.int p2), .val (.int p3), .val (.int p4), .val (.int p5), .val (.ref la), .val (.ref mb), .val (.int c8), .val (.int d8), .val (.int (1 : Int32)), .val (.int (1 : Int32)), .unset] [(.int (nar .boolean (if c8 = (0 : Int32) then (1 : Int32) else (0 : Int32))))])) _
      refine XS.iconst X1.here hx rfl (hb hby at_175) ?_
      show Steps p.tables e below (T1.setTop (mkF m 176 #[.val (.int p1), .val (.int p2), .val (.int p3), .val (.int p4), .val (.int p5), .val (.ref la), .val (.ref mb), .val (.int c8), .val (.int d8), .val (.int (1 : Int32)), .val (.int (1 : Int32)), .unset] [(.int (0 : Int32)), (.int (nar .boolean (if c8 = (0 : Int32) then (1 : Int32) else (0 : Int32))))])) _
      first | exact k | (simp only [if_neg hc]; exact k)
  refine OGo.by_ D3 ?_
  show OGo p e below _ (T1.setTop (mkF m 176 #[.val (.int p1), .val (.int p2), .val (.int p3), .val (.int p4), .val (.int p5), .val (.ref la), .val (.ref mb), .val (.int c8), .val (.int d8), .val (.int (1 : Int32)), .val (.int (1 : Int32)), .unset] [(.int (if c8 = (0 : Int32) then (1 : Int32) else (0 : Int32))), (.int (nar .boolean (if c8 = (0 : Int32) then (1 : Int32) else (0 : Int32))))]))
  refine OGo.by_ (fun t k => XS.icmpNo X1.here hx rfl (hb hby at_176) rfl (teq own_nb).2 k) ?_
  show OGo p e below _ (T1.setTop (mkF m 179 #[.val (.int p1), .val (.int p2), .val (.int p3), .val (.int p4), .val (.int p5), .val (.ref la), .val (.ref mb), .val (.int c8), .val (.int d8), .val (.int (1 : Int32)), .val (.int (1 : Int32)), .unset] []))
  refine OGo.by_ (fun t k => XS.iconst X1.here hx rfl (hb hby at_179) k) ?_
  show OGo p e below _ (T1.setTop (mkF m 180 #[.val (.int p1), .val (.int p2), .val (.int p3), .val (.int p4), .val (.int p5), .val (.ref la), .val (.ref mb), .val (.int c8), .val (.int d8), .val (.int (1 : Int32)), .val (.int (1 : Int32)), .unset] [(.int (1 : Int32))]))
  refine OGo.by_ (fun t k => XS.goto X1.here hx rfl (pc0 := 180) (pc' := 184) rfl (hb hby at_180) (by decide) (by decide) k) ?_
  show OGo p e below _ (T1.setTop (mkF m 184 #[.val (.int p1), .val (.int p2), .val (.int p3), .val (.int p4), .val (.int p5), .val (.ref la), .val (.ref mb), .val (.int c8), .val (.int d8), .val (.int (1 : Int32)), .val (.int (1 : Int32)), .unset] [(.int (1 : Int32))]))
  refine OGo.by_ (fun t k => XS.istore X1.here hx rfl (hb hby at_184) rfl (l' := #[.val (.int p1), .val (.int p2), .val (.int p3), .val (.int p4), .val (.int p5), .val (.ref la), .val (.ref mb), .val (.int c8), .val (.int d8), .val (.int (1 : Int32)), .val (.int (1 : Int32)), .val (.int (1 : Int32))]) rfl k) ?_
  show OGo p e below _ (T1.setTop (mkF m 186 #[.val (.int p1), .val (.int p2), .val (.int p3), .val (.int p4), .val (.int p5), .val (.ref la), .val (.ref mb), .val (.int c8), .val (.int d8), .val (.int (1 : Int32)), .val (.int (1 : Int32)), .val (.int (1 : Int32))] []))
  refine OGo.by_ (fun t k => XS.iload X1.here hx rfl (hb hby at_186) rfl k) ?_
  show OGo p e below _ (T1.setTop (mkF m 188 #[.val (.int p1), .val (.int p2), .val (.int p3), .val (.int p4), .val (.int p5), .val (.ref la), .val (.ref mb), .val (.int c8), .val (.int d8), .val (.int (1 : Int32)), .val (.int (1 : Int32)), .val (.int (1 : Int32))] [(.int (1 : Int32))]))
  refine OGo.by_ (fun t k => XS.ifNo X1.here hx rfl (hb hby at_188) rfl ((if0 _ _).trans (feq (by decide)).1) k) ?_
  show OGo p e below _ (T1.setTop (mkF m 191 #[.val (.int p1), .val (.int p2), .val (.int p3), .val (.int p4), .val (.int p5), .val (.ref la), .val (.ref mb), .val (.int c8), .val (.int d8), .val (.int (1 : Int32)), .val (.int (1 : Int32)), .val (.int (1 : Int32))] []))
  refine OGo.by_ (fun t k => XS.iload X1.here hx rfl (hb hby at_191) rfl k) ?_
  show OGo p e below _ (T1.setTop (mkF m 193 #[.val (.int p1), .val (.int p2), .val (.int p3), .val (.int p4), .val (.int p5), .val (.ref la), .val (.ref mb), .val (.int c8), .val (.int d8), .val (.int (1 : Int32)), .val (.int (1 : Int32)), .val (.int (1 : Int32))] [(.int (1 : Int32))]))
  refine OGo.by_ (fun t k => XS.ifNo X1.here hx rfl (hb hby at_193) rfl ((if0 _ _).trans (feq (by decide)).1) k) ?_
  show OGo p e below _ (T1.setTop (mkF m 196 #[.val (.int p1), .val (.int p2), .val (.int p3), .val (.int p4), .val (.int p5), .val (.ref la), .val (.ref mb), .val (.int c8), .val (.int d8), .val (.int (1 : Int32)), .val (.int (1 : Int32)), .val (.int (1 : Int32))] []))
  refine OGo.by_ (fun t k => XS.iload X1.here hx rfl (hb hby at_196) rfl k) ?_
  show OGo p e below _ (T1.setTop (mkF m 198 #[.val (.int p1), .val (.int p2), .val (.int p3), .val (.int p4), .val (.int p5), .val (.ref la), .val (.ref mb), .val (.int c8), .val (.int d8), .val (.int (1 : Int32)), .val (.int (1 : Int32)), .val (.int (1 : Int32))] [(.int (1 : Int32))]))
  refine OGo.by_ (fun t k => XS.ifNo X1.here hx rfl (hb hby at_198) rfl ((if0 _ _).trans (feq (by decide)).1) k) ?_
  show OGo p e below _ (T1.setTop (mkF m 201 #[.val (.int p1), .val (.int p2), .val (.int p3), .val (.int p4), .val (.int p5), .val (.ref la), .val (.ref mb), .val (.int c8), .val (.int d8), .val (.int (1 : Int32)), .val (.int (1 : Int32)), .val (.int (1 : Int32))] []))
  refine OGo.by_ (fun t k => XS.iconst X1.here hx rfl (hb hby at_201) k) ?_
  show OGo p e below _ (T1.setTop (mkF m 202 #[.val (.int p1), .val (.int p2), .val (.int p3), .val (.int p4), .val (.int p5), .val (.ref la), .val (.ref mb), .val (.int c8), .val (.int d8), .val (.int (1 : Int32)), .val (.int (1 : Int32)), .val (.int (1 : Int32))] [(.int (1 : Int32))]))
  refine OGo.by_ (fun t k => XS.goto X1.here hx rfl (pc0 := 202) (pc' := 206) rfl (hb hby at_202) (by decide) (by decide) k) ?_
  show OGo p e below _ (T1.setTop (mkF m 206 #[.val (.int p1), .val (.int p2), .val (.int p3), .val (.int p4), .val (.int p5), .val (.ref la), .val (.ref mb), .val (.int c8), .val (.int d8), .val (.int (1 : Int32)), .val (.int (1 : Int32)), .val (.int (1 : Int32))] [(.int (1 : Int32))]))
  exact own_retN X1 hx hlk (t := .boolean) hret (by simp) (hb hby at_206) (by decide) (by decide) (⟨rfl, N1⟩)
theorem pd_ocV : parseMethodDescriptor "()V" = some ⟨[], none⟩ := by decide +kernel
set_option maxRecDepth 65536 in
set_option maxHeartbeats 40000000 in
theorem sg_k146 {p : Program} {l : Launch} {e : Env} {s : State} {m : MethodId} {args : Array Value} {below : List Frame} {meth : Method} {c : Code} {T0 : State} {locs : List Loc} {Z : State} {a0 : Array Value} {h0 : Heap} {n0 : Nat} {p1 p2 p3 p4 p5 c8 d8 : Int32} {la b mb b2 : Addr}
    (X0 : Stand p l e room_1 s m args below meth c T0 locs 4 36) (hx : p.tables.exec = Jvm.exec) (hZ : Z.Warmed39 s.vm) (hw : ∀ d ∈ tables_1, d.before a0 Z = true) (hby : c.code = code) (hml : c.maxLocals = 12) (hown : s.vm.findClass "com/example/frigg/frigg/engine/IntListIsEmptyPinLaw" = some m.cls) (hnm : meth.name = "law") (hlk : meth.locks = false) (hret : meth.sig.returnType = some .boolean) (e0 : T0.heap = h0) (N0 : Fr n0 locs) (Z0 : n0 ≤ h0.size) (IL1 : own_IL Z h0 la b c8) (IL2 : own_IL Z h0 mb b2 d8) (far : la ≠ b ∧ mb ≠ b2 ∧ la ≠ mb ∧ la ≠ b2 ∧ mb ≠ b ∧ b ≠ b2) (gs : n0 ≤ la ∧ n0 ≤ b ∧ n0 ≤ mb ∧ n0 ≤ b2)  :
    OGo p e below (OEnd s (fun v h L => v = some (.int 1) ∧ Fr n0 L) room_1.cells room_1.slots) (T0.setTop (mkF m 146 #[.val (.int p1), .val (.int p2), .val (.int p3), .val (.int p4), .val (.int p5), .val (.ref la), .val (.ref mb), .val (.int c8), .val (.int d8), .val (.int (1 : Int32)), .val (.int (1 : Int32)), .unset] [])) := by
  refine OGo.by_ (fun t k => XS.iload X0.here hx rfl (hb hby at_146) rfl k) ?_
  show OGo p e below _ (T0.setTop (mkF m 148 #[.val (.int p1), .val (.int p2), .val (.int p3), .val (.int p4), .val (.int p5), .val (.ref la), .val (.ref mb), .val (.int c8), .val (.int d8), .val (.int (1 : Int32)), .val (.int (1 : Int32)), .unset] [(.int p5)]))
  refine OGo.by_ (fun t k => XS.iconst X0.here hx rfl (hb hby at_148) k) ?_
  show OGo p e below _ (T0.setTop (mkF m 149 #[.val (.int p1), .val (.int p2), .val (.int p3), .val (.int p4), .val (.int p5), .val (.ref la), .val (.ref mb), .val (.int c8), .val (.int d8), .val (.int (1 : Int32)), .val (.int (1 : Int32)), .unset] [(.int (2 : Int32)), (.int p5)]))
  refine OGo.by_ (fun t k => XS.iand X0.here hx rfl (hb hby at_149) rfl k) ?_
  show OGo p e below _ (T0.setTop (mkF m 150 #[.val (.int p1), .val (.int p2), .val (.int p3), .val (.int p4), .val (.int p5), .val (.ref la), .val (.ref mb), .val (.int c8), .val (.int d8), .val (.int (1 : Int32)), .val (.int (1 : Int32)), .unset] [(.int (p5 &&& (2 : Int32)))]))
  by_cases hc150 : (p5 &&& (2 : Int32)) = (0 : Int32)
  · refine OGo.by_ (fun t k => XS.ifYes X0.here hx rfl (pc0 := 150) (pc' := 161) rfl (hb hby at_150) rfl ((if0 _ _).trans (teq hc150).1) (by decide) (by decide) k) ?_
    show OGo p e below _ (T0.setTop (mkF m 161 #[.val (.int p1), .val (.int p2), .val (.int p3), .val (.int p4), .val (.int p5), .val (.ref la), .val (.ref mb), .val (.int c8), .val (.int d8), .val (.int (1 : Int32)), .val (.int (1 : Int32)), .unset] []))
    exact sg_k161 X0 hx hZ hw hby hml hown hnm hlk hret e0 N0 Z0 IL1 IL2 far gs
  · refine OGo.by_ (fun t k => XS.ifNo X0.here hx rfl (hb hby at_150) rfl ((if0 _ _).trans (feq hc150).1) k) ?_
    show OGo p e below _ (T0.setTop (mkF m 153 #[.val (.int p1), .val (.int p2), .val (.int p3), .val (.int p4), .val (.int p5), .val (.ref la), .val (.ref mb), .val (.int c8), .val (.int d8), .val (.int (1 : Int32)), .val (.int (1 : Int32)), .unset] []))
    refine OGo.by_ (fun t k => XS.aload X0.here hx rfl (hb hby at_153) rfl rfl k) ?_
    show OGo p e below _ (T0.setTop (mkF m 155 #[.val (.int p1), .val (.int p2), .val (.int p3), .val (.int p4), .val (.int p5), .val (.ref la), .val (.ref mb), .val (.int c8), .val (.int d8), .val (.int (1 : Int32)), .val (.int (1 : Int32)), .unset] [(.ref la)]))
    obtain ⟨cq2, kq2, qa2, qb2, qc2⟩ := isOf hZ e0 IL1.1
    obtain ⟨_, _, ⟨T1, L1, k1, n1⟩, -, X1, ⟨Lc1, hQ1, l1, y1, z1⟩, st1⟩ := X0.virtualBack hx (y := (⟨"com/example/frigg/frigg/engine/IntList", "clear", "()V"⟩ : MethodName)) (z := (⟨"com/example/frigg/frigg/engine/IntList", "clear", "()V"⟩ : MethodName)) hown (mvT hZ (hw _ (List.mem_of_getElem? (i := 33) rfl))) (mvT hZ (hw _ (List.mem_of_getElem? (i := 34) rfl))) (notFace_of_selects (args := #[]) (mvT hZ (hw _ (List.mem_of_getElem? (i := 36) rfl)))) (mvT hZ (hw _ (List.mem_of_getElem? (i := 36) rfl))) (mvT hZ (hw _ (List.mem_of_getElem? (i := 35) rfl))) (by decide) (backOf (W := 0) (rm_clr l Z a0 hw [] la b c8 h0 n0 Z0 IL1 far.1 gs.1) hZ (hw _ (List.mem_of_getElem? (i := 37) rfl)) (hw _ (List.mem_of_getElem? (i := 2) rfl)) (by decide) (by decide)) qa2 qc2 (g := (mkF m 155 #[.val (.int p1), .val (.int p2), .val (.int p3), .val (.int p4), .val (.int p5), .val (.ref la), .val (.ref mb), .val (.int c8), .val (.int d8), .val (.int (1 : Int32)), .val (.int (1 : Int32)), .unset] [(.ref la)])) rfl (by rw [hml]; rfl) (Steps.refl _) (argsL := []) (rest := []) (lenOf pd_ocV rfl) rfl (by show 2 * 0 + _ ≤ _; exact Nat.le_of_eq rfl) (hb hby at_155) (fun _ _ => ⟨rfl, e0, (by decide : 4 + 0 ≤ _), (by decide : 36 + 0 ≤ _)⟩)
    dsimp only [Pt.U, Pt.locs, Pt.cells, Pt.slots] at X1 l1 y1 z1 st1 hQ1
    subst l1 y1 z1
    obtain ⟨rfl, Nq1, K1, IQ1⟩ := hQ1
    have N1 := Fr.app N0 Nq1
    refine OGo.by_ (fun t k => st1.trans k) ?_
    show OGo p e below _ (T1.setTop (mkF m 158 #[.val (.int p1), .val (.int p2), .val (.int p3), .val (.int p4), .val (.int p5), .val (.ref la), .val (.ref mb), .val (.int c8), .val (.int d8), .val (.int (1 : Int32)), .val (.int (1 : Int32)), .unset] []))
    refine OGo.by_ (fun t k => XS.iconst X1.here hx rfl (hb hby at_158) k) ?_
    show OGo p e below _ (T1.setTop (mkF m 159 #[.val (.int p1), .val (.int p2), .val (.int p3), .val (.int p4), .val (.int p5), .val (.ref la), .val (.ref mb), .val (.int c8), .val (.int d8), .val (.int (1 : Int32)), .val (.int (1 : Int32)), .unset] [(.int (0 : Int32))]))
    refine OGo.by_ (fun t k => XS.istore X1.here hx rfl (hb hby at_159) rfl (l' := #[.val (.int p1), .val (.int p2), .val (.int p3), .val (.int p4), .val (.int p5), .val (.ref la), .val (.ref mb), .val (.int (0 : Int32)), .val (.int d8), .val (.int (1 : Int32)), .val (.int (1 : Int32)), .unset]) rfl k) ?_
    show OGo p e below _ (T1.setTop (mkF m 161 #[.val (.int p1), .val (.int p2), .val (.int p3), .val (.int p4), .val (.int p5), .val (.ref la), .val (.ref mb), .val (.int (0 : Int32)), .val (.int d8), .val (.int (1 : Int32)), .val (.int (1 : Int32)), .unset] []))
    exact sg_k161 X1 hx hZ hw hby hml hown hnm hlk hret rfl N1 (Nat.le_trans Z0 K1.1) IQ1 (own_IL_keep IL2 K1 (own_nin1 far.2.2.1.symm) (own_nin1 far.2.2.2.1.symm)) far gs
theorem own_b1 {c : Int32} (h : c = 0 ∨ c = 1 ∨ c = 2) : ¬ c < 0 := by rcases h with rfl | rfl | rfl <;> decide
theorem own_b1' {c : Int32} (h : c = 0 ∨ c = 1 ∨ c = 2) : c < 16 := by rcases h with rfl | rfl | rfl <;> decide
theorem own_b1n {c : Int32} (h : c = 0 ∨ c = 1 ∨ c = 2) : ¬ c = 16 := by rcases h with rfl | rfl | rfl <;> decide
theorem own_b2 {d : Int32} (h : d = 0 ∨ d = 1) : ¬ d < 0 := by rcases h with rfl | rfl <;> decide
theorem own_b3 {c d : Int32} (h : c = 0 ∨ c = 1 ∨ c = 2) (h' : d = 0 ∨ d = 1) : ¬ (16 : Int32) < (c + d) := by rcases h with rfl | rfl | rfl <;> rcases h' with rfl | rfl <;> decide
theorem own_b4 {d : Int32} (h : d = 0 ∨ d = 1) : (0 : Int32).toNatClampNeg + d.toNatClampNeg ≤ (16 : Int32).toNatClampNeg := by rcases h with rfl | rfl <;> decide
theorem own_b5 {c d : Int32} (h : c = 0 ∨ c = 1 ∨ c = 2) (h' : d = 0 ∨ d = 1) : c.toNatClampNeg + d.toNatClampNeg ≤ (16 : Int32).toNatClampNeg := by rcases h with rfl | rfl | rfl <;> rcases h' with rfl | rfl <;> decide
theorem pd_oLcom_example_frigg_frigg_engine_IntList_cV : parseMethodDescriptor "(Lcom/example/frigg/frigg/engine/IntList;)V" = some ⟨[(.object "com/example/frigg/frigg/engine/IntList")], none⟩ := by decide +kernel
set_option maxRecDepth 65536 in
set_option maxHeartbeats 40000000 in
theorem sg_k125 {p : Program} {l : Launch} {e : Env} {s : State} {m : MethodId} {args : Array Value} {below : List Frame} {meth : Method} {c : Code} {T0 : State} {locs : List Loc} {Z : State} {a0 : Array Value} {h0 : Heap} {n0 : Nat} {p1 p2 p3 p4 p5 c8 d8 : Int32} {la b mb b2 : Addr}
    (X0 : Stand p l e room_1 s m args below meth c T0 locs 4 36) (hx : p.tables.exec = Jvm.exec) (hZ : Z.Warmed39 s.vm) (hw : ∀ d ∈ tables_1, d.before a0 Z = true) (hby : c.code = code) (hml : c.maxLocals = 12) (hown : s.vm.findClass "com/example/frigg/frigg/engine/IntListIsEmptyPinLaw" = some m.cls) (hnm : meth.name = "law") (hlk : meth.locks = false) (hret : meth.sig.returnType = some .boolean) (e0 : T0.heap = h0) (N0 : Fr n0 locs) (Z0 : n0 ≤ h0.size) (IL1 : own_IL Z h0 la b c8) (IL2 : own_IL Z h0 mb b2 d8) (far : la ≠ b ∧ mb ≠ b2 ∧ la ≠ mb ∧ la ≠ b2 ∧ mb ≠ b ∧ b ≠ b2) (gs : n0 ≤ la ∧ n0 ≤ b ∧ n0 ≤ mb ∧ n0 ≤ b2) (hc8 : c8 = 0 ∨ c8 = 1 ∨ c8 = 2) (hd8 : d8 = 0 ∨ d8 = 1) :
    OGo p e below (OEnd s (fun v h L => v = some (.int 1) ∧ Fr n0 L) room_1.cells room_1.slots) (T0.setTop (mkF m 125 #[.val (.int p1), .val (.int p2), .val (.int p3), .val (.int p4), .val (.int p5), .val (.ref la), .val (.ref mb), .val (.int c8), .val (.int d8), .val (.int (1 : Int32)), .val (.int (1 : Int32)), .unset] [])) := by
  refine OGo.by_ (fun t k => XS.iload X0.here hx rfl (hb hby at_125) rfl k) ?_
  show OGo p e below _ (T0.setTop (mkF m 127 #[.val (.int p1), .val (.int p2), .val (.int p3), .val (.int p4), .val (.int p5), .val (.ref la), .val (.ref mb), .val (.int c8), .val (.int d8), .val (.int (1 : Int32)), .val (.int (1 : Int32)), .unset] [(.int p5)]))
  refine OGo.by_ (fun t k => XS.iconst X0.here hx rfl (hb hby at_127) k) ?_
  show OGo p e below _ (T0.setTop (mkF m 128 #[.val (.int p1), .val (.int p2), .val (.int p3), .val (.int p4), .val (.int p5), .val (.ref la), .val (.ref mb), .val (.int c8), .val (.int d8), .val (.int (1 : Int32)), .val (.int (1 : Int32)), .unset] [(.int (1 : Int32)), (.int p5)]))
  refine OGo.by_ (fun t k => XS.iand X0.here hx rfl (hb hby at_128) rfl k) ?_
  show OGo p e below _ (T0.setTop (mkF m 129 #[.val (.int p1), .val (.int p2), .val (.int p3), .val (.int p4), .val (.int p5), .val (.ref la), .val (.ref mb), .val (.int c8), .val (.int d8), .val (.int (1 : Int32)), .val (.int (1 : Int32)), .unset] [(.int (p5 &&& (1 : Int32)))]))
  by_cases hc129 : (p5 &&& (1 : Int32)) = (0 : Int32)
  · refine OGo.by_ (fun t k => XS.ifYes X0.here hx rfl (pc0 := 129) (pc' := 146) rfl (hb hby at_129) rfl ((if0 _ _).trans (teq hc129).1) (by decide) (by decide) k) ?_
    show OGo p e below _ (T0.setTop (mkF m 146 #[.val (.int p1), .val (.int p2), .val (.int p3), .val (.int p4), .val (.int p5), .val (.ref la), .val (.ref mb), .val (.int c8), .val (.int d8), .val (.int (1 : Int32)), .val (.int (1 : Int32)), .unset] []))
    exact sg_k146 X0 hx hZ hw hby hml hown hnm hlk hret e0 N0 Z0 IL1 IL2 far gs
  · refine OGo.by_ (fun t k => XS.ifNo X0.here hx rfl (hb hby at_129) rfl ((if0 _ _).trans (feq hc129).1) k) ?_
    show OGo p e below _ (T0.setTop (mkF m 132 #[.val (.int p1), .val (.int p2), .val (.int p3), .val (.int p4), .val (.int p5), .val (.ref la), .val (.ref mb), .val (.int c8), .val (.int d8), .val (.int (1 : Int32)), .val (.int (1 : Int32)), .unset] []))
    refine OGo.by_ (fun t k => XS.aload X0.here hx rfl (hb hby at_132) rfl rfl k) ?_
    show OGo p e below _ (T0.setTop (mkF m 134 #[.val (.int p1), .val (.int p2), .val (.int p3), .val (.int p4), .val (.int p5), .val (.ref la), .val (.ref mb), .val (.int c8), .val (.int d8), .val (.int (1 : Int32)), .val (.int (1 : Int32)), .unset] [(.ref la)]))
    refine OGo.by_ (fun t k => XS.aload X0.here hx rfl (hb hby at_134) rfl rfl k) ?_
    show OGo p e below _ (T0.setTop (mkF m 136 #[.val (.int p1), .val (.int p2), .val (.int p3), .val (.int p4), .val (.int p5), .val (.ref la), .val (.ref mb), .val (.int c8), .val (.int d8), .val (.int (1 : Int32)), .val (.int (1 : Int32)), .unset] [(.ref mb), (.ref la)]))
    obtain ⟨cq2, kq2, qa2, qb2, qc2⟩ := isOf hZ e0 IL1.1
    obtain ⟨_, _, ⟨T1, L1, k1, n1⟩, -, X1, ⟨Lc1, hQ1, l1, y1, z1⟩, st1⟩ := X0.virtualBack hx (y := (⟨"com/example/frigg/frigg/engine/IntList", "addAll", "(Lcom/example/frigg/frigg/engine/IntList;)V"⟩ : MethodName)) (z := (⟨"com/example/frigg/frigg/engine/IntList", "addAll", "(Lcom/example/frigg/frigg/engine/IntList;)V"⟩ : MethodName)) hown (mvT hZ (hw _ (List.mem_of_getElem? (i := 24) rfl))) (mvT hZ (hw _ (List.mem_of_getElem? (i := 25) rfl))) (notFace_of_selects (args := #[]) (mvT hZ (hw _ (List.mem_of_getElem? (i := 27) rfl)))) (mvT hZ (hw _ (List.mem_of_getElem? (i := 27) rfl))) (mvT hZ (hw _ (List.mem_of_getElem? (i := 26) rfl))) (by decide) (backOf (W := 0) (rm_all l Z a0 hw [] la b mb b2 c8 d8 h0 n0 Z0 IL1 IL2 far.1 far.2.2.2.2.1 gs.1 gs.2.1 (own_b1 hc8) (own_b2 hd8) (own_b3 hc8 hd8) (own_b4 hd8) (own_b5 hc8 hd8)) hZ (hw _ (List.mem_of_getElem? (i := 28) rfl)) (hw _ (List.mem_of_getElem? (i := 2) rfl)) (by decide) (by decide)) qa2 qc2 (g := (mkF m 136 #[.val (.int p1), .val (.int p2), .val (.int p3), .val (.int p4), .val (.int p5), .val (.ref la), .val (.ref mb), .val (.int c8), .val (.int d8), .val (.int (1 : Int32)), .val (.int (1 : Int32)), .unset] [(.ref mb), (.ref la)])) rfl (by rw [hml]; rfl) (Steps.refl _) (argsL := [(.ref mb)]) (rest := []) (lenOf pd_oLcom_example_frigg_frigg_engine_IntList_cV rfl) rfl (by show 2 * 0 + _ ≤ _; exact Nat.le_of_eq rfl) (hb hby at_136) (fun _ _ => ⟨rfl, e0, (by decide : 4 + 0 ≤ _), (by decide : 36 + 0 ≤ _)⟩)
    dsimp only [Pt.U, Pt.locs, Pt.cells, Pt.slots] at X1 l1 y1 z1 st1 hQ1
    subst l1 y1 z1
    obtain ⟨rfl, Nq1, K1, IQ1⟩ := hQ1
    have N1 := Fr.app N0 Nq1
    refine OGo.by_ (fun t k => st1.trans k) ?_
    show OGo p e below _ (T1.setTop (mkF m 139 #[.val (.int p1), .val (.int p2), .val (.int p3), .val (.int p4), .val (.int p5), .val (.ref la), .val (.ref mb), .val (.int c8), .val (.int d8), .val (.int (1 : Int32)), .val (.int (1 : Int32)), .unset] []))
    refine OGo.by_ (fun t k => XS.iload X1.here hx rfl (hb hby at_139) rfl k) ?_
    show OGo p e below _ (T1.setTop (mkF m 141 #[.val (.int p1), .val (.int p2), .val (.int p3), .val (.int p4), .val (.int p5), .val (.ref la), .val (.ref mb), .val (.int c8), .val (.int d8), .val (.int (1 : Int32)), .val (.int (1 : Int32)), .unset] [(.int c8)]))
    refine OGo.by_ (fun t k => XS.iload X1.here hx rfl (hb hby at_141) rfl k) ?_
    show OGo p e below _ (T1.setTop (mkF m 143 #[.val (.int p1), .val (.int p2), .val (.int p3), .val (.int p4), .val (.int p5), .val (.ref la), .val (.ref mb), .val (.int c8), .val (.int d8), .val (.int (1 : Int32)), .val (.int (1 : Int32)), .unset] [(.int d8), (.int c8)]))
    refine OGo.by_ (fun t k => XS.iadd X1.here hx rfl (hb hby at_143) rfl k) ?_
    show OGo p e below _ (T1.setTop (mkF m 144 #[.val (.int p1), .val (.int p2), .val (.int p3), .val (.int p4), .val (.int p5), .val (.ref la), .val (.ref mb), .val (.int c8), .val (.int d8), .val (.int (1 : Int32)), .val (.int (1 : Int32)), .unset] [(.int (c8 + d8))]))
    refine OGo.by_ (fun t k => XS.istore X1.here hx rfl (hb hby at_144) rfl (l' := #[.val (.int p1), .val (.int p2), .val (.int p3), .val (.int p4), .val (.int p5), .val (.ref la), .val (.ref mb), .val (.int (c8 + d8)), .val (.int d8), .val (.int (1 : Int32)), .val (.int (1 : Int32)), .unset]) rfl k) ?_
    show OGo p e below _ (T1.setTop (mkF m 146 #[.val (.int p1), .val (.int p2), .val (.int p3), .val (.int p4), .val (.int p5), .val (.ref la), .val (.ref mb), .val (.int (c8 + d8)), .val (.int d8), .val (.int (1 : Int32)), .val (.int (1 : Int32)), .unset] []))
    exact sg_k146 X1 hx hZ hw hby hml hown hnm hlk hret rfl N1 (Nat.le_trans Z0 K1.1) IQ1 (own_IL_keep IL2 K1 (own_nin2 far.2.2.2.2.1 far.2.2.1.symm) (own_nin2 far.2.2.2.2.2.symm far.2.2.2.1.symm)) far gs
set_option maxRecDepth 65536 in
set_option maxHeartbeats 40000000 in
theorem sg_k75 {p : Program} {l : Launch} {e : Env} {s : State} {m : MethodId} {args : Array Value} {below : List Frame} {meth : Method} {c : Code} {T0 : State} {locs : List Loc} {Z : State} {a0 : Array Value} {h0 : Heap} {n0 : Nat} {p1 p2 p3 p4 p5 c8 d8 : Int32} {la b mb b2 : Addr}
    (X0 : Stand p l e room_1 s m args below meth c T0 locs 4 36) (hx : p.tables.exec = Jvm.exec) (hZ : Z.Warmed39 s.vm) (hw : ∀ d ∈ tables_1, d.before a0 Z = true) (hby : c.code = code) (hml : c.maxLocals = 12) (hown : s.vm.findClass "com/example/frigg/frigg/engine/IntListIsEmptyPinLaw" = some m.cls) (hnm : meth.name = "law") (hlk : meth.locks = false) (hret : meth.sig.returnType = some .boolean) (e0 : T0.heap = h0) (N0 : Fr n0 locs) (Z0 : n0 ≤ h0.size) (IL1 : own_IL Z h0 la b c8) (IL2 : own_IL Z h0 mb b2 d8) (far : la ≠ b ∧ mb ≠ b2 ∧ la ≠ mb ∧ la ≠ b2 ∧ mb ≠ b ∧ b ≠ b2) (gs : n0 ≤ la ∧ n0 ≤ b ∧ n0 ≤ mb ∧ n0 ≤ b2) (hc8 : c8 = 0 ∨ c8 = 1 ∨ c8 = 2) (hd8 : d8 = 0 ∨ d8 = 1) :
    OGo p e below (OEnd s (fun v h L => v = some (.int 1) ∧ Fr n0 L) room_1.cells room_1.slots) (T0.setTop (mkF m 75 #[.val (.int p1), .val (.int p2), .val (.int p3), .val (.int p4), .val (.int p5), .val (.ref la), .val (.ref mb), .val (.int c8), .val (.int d8), .unset, .unset, .unset] [])) := by
  refine OGo.by_ (fun t k => XS.aload X0.here hx rfl (hb hby at_75) rfl rfl k) ?_
  show OGo p e below _ (T0.setTop (mkF m 77 #[.val (.int p1), .val (.int p2), .val (.int p3), .val (.int p4), .val (.int p5), .val (.ref la), .val (.ref mb), .val (.int c8), .val (.int d8), .unset, .unset, .unset] [(.ref la)]))
  obtain ⟨cq2, kq2, qa2, qb2, qc2⟩ := isOf hZ e0 IL1.1
  obtain ⟨_, _, ⟨T1, L1, k1, n1⟩, -, X1, ⟨Lc1, hQ1, l1, y1, z1⟩, st1⟩ := X0.virtualBack hx (y := (⟨"com/example/frigg/frigg/engine/IntList", "isEmpty", "()Z"⟩ : MethodName)) (z := (⟨"com/example/frigg/frigg/engine/IntList", "isEmpty", "()Z"⟩ : MethodName)) hown (mvT hZ (hw _ (List.mem_of_getElem? (i := 19) rfl))) (mvT hZ (hw _ (List.mem_of_getElem? (i := 20) rfl))) (notFace_of_selects (args := #[]) (mvT hZ (hw _ (List.mem_of_getElem? (i := 22) rfl)))) (mvT hZ (hw _ (List.mem_of_getElem? (i := 22) rfl))) (mvT hZ (hw _ (List.mem_of_getElem? (i := 21) rfl))) (by decide) (backOf (W := 0) (rm_emp l Z a0 hw [] la b c8 h0 n0 Z0 IL1) hZ (hw _ (List.mem_of_getElem? (i := 23) rfl)) (hw _ (List.mem_of_getElem? (i := 2) rfl)) (by decide) (by decide)) qa2 qc2 (g := (mkF m 77 #[.val (.int p1), .val (.int p2), .val (.int p3), .val (.int p4), .val (.int p5), .val (.ref la), .val (.ref mb), .val (.int c8), .val (.int d8), .unset, .unset, .unset] [(.ref la)])) rfl (by rw [hml]; rfl) (Steps.refl _) (argsL := []) (rest := []) (lenOf pd_ocZ rfl) rfl (by show 2 * 0 + _ ≤ _; exact Nat.le_of_eq rfl) (hb hby at_77) (fun _ _ => ⟨rfl, e0, (by decide : 4 + 0 ≤ _), (by decide : 36 + 0 ≤ _)⟩)
  dsimp only [Pt.U, Pt.locs, Pt.cells, Pt.slots] at X1 l1 y1 z1 st1 hQ1
  subst l1 y1 z1
  obtain ⟨rfl, Nq1, eq1⟩ := hQ1
  have N1 := Fr.app N0 Nq1
  refine OGo.by_ (fun t k => st1.trans k) ?_
  show OGo p e below _ (T1.setTop (mkF m 80 #[.val (.int p1), .val (.int p2), .val (.int p3), .val (.int p4), .val (.int p5), .val (.ref la), .val (.ref mb), .val (.int c8), .val (.int d8), .unset, .unset, .unset] [(.int (nar .boolean (if c8 = (0 : Int32) then (1 : Int32) else (0 : Int32))))]))
  refine OGo.by_ (fun t k => XS.iload X1.here hx rfl (hb hby at_80) rfl k) ?_
  show OGo p e below _ (T1.setTop (mkF m 82 #[.val (.int p1), .val (.int p2), .val (.int p3), .val (.int p4), .val (.int p5), .val (.ref la), .val (.ref mb), .val (.int c8), .val (.int d8), .unset, .unset, .unset] [(.int c8), (.int (nar .boolean (if c8 = (0 : Int32) then (1 : Int32) else (0 : Int32))))]))
  have D3 : ∀ t, Steps p.tables e below (T1.setTop (mkF m 90 #[.val (.int p1), .val (.int p2), .val (.int p3), .val (.int p4), .val (.int p5), .val (.ref la), .val (.ref mb), .val (.int c8), .val (.int d8), .unset, .unset, .unset] [(.int (if c8 = (0 : Int32) then (1 : Int32) else (0 : Int32))), (.int (nar .boolean (if c8 = (0 : Int32) then (1 : Int32) else (0 : Int32))))])) t → Steps p.tables e below (T1.setTop (mkF m 82 #[.val (.int p1), .val (.int p2), .val (.int p3), .val (.int p4), .val (.int p5), .val (.ref la), .val (.ref mb), .val (.int c8), .val (.int d8), .unset, .unset, .unset] [(.int c8), (.int (nar .boolean (if c8 = (0 : Int32) then (1 : Int32) else (0 : Int32))))])) t := by
    intro t k
    by_cases hc : c8 = (0 : Int32)
    · rw [show (if c8 = (0 : Int32) then (1 : Int32) else (0 : Int32)) = (1 : Int32) from if_pos hc] at k
      refine XS.ifNo X1.here hx rfl (hb hby at_82) rfl ((if0 _ _).trans (teq hc).2) ?_
      show Steps p.tables e below (T1.setTop (mkF m 85 #[.val (.int p1), .val (.int p2), .val (.int p3), .val (.int p4), .val (.int p5), .val (.ref la), .val (.ref mb), .val (.int c8), .val (.int d8), .unset, .unset, .unset] [(.int (nar .boolean (if c8 = (0 : Int32) then (1 : Int32) else (0 : Int32))))])) _
      refine XS.iconst X1.here hx rfl (hb hby at_85) ?_
      show Steps p.tables e below (T1.setTop (mkF m 86 #[.val (.int p1), .val (.int p2), .val (.int p3), .val (.int p4), .val (.int p5), .val (.ref la), .val (.ref mb), .val (.int c8), .val (.int d8), .unset, .unset, .unset] [(.int (1 : Int32)), (.int (nar .boolean (if c8 = (0 : Int32) then (1 : Int32) else (0 : Int32))))])) _
      refine XS.goto X1.here hx rfl (pc0 := 86) (pc' := 90) rfl (hb hby at_86) (by decide) (by decide) ?_
      show Steps p.tables e below (T1.setTop (mkF m 90 #[.val (.int p1), .val (.int p2), .val (.int p3), .val (.int p4), .val (.int p5), .val (.ref la), .val (.ref mb), .val (.int c8), .val (.int d8), .unset, .unset, .unset] [(.int (1 : Int32)), (.int (nar .boolean (if c8 = (0 : Int32) then (1 : Int32) else (0 : Int32))))])) _
      first | exact k | (simp only [if_pos hc]; exact k)
    · rw [show (if c8 = (0 : Int32) then (1 : Int32) else (0 : Int32)) = (0 : Int32) from if_neg hc] at k
      refine XS.ifYes X1.here hx rfl (pc0 := 82) (pc' := 89) rfl (hb hby at_82) rfl ((if0 _ _).trans (feq hc).2) (by decide) (by decide) ?_
      show Steps p.tables e below (T1.setTop (mkF m 89 #[.val (.int p1), .val (.int p2), .val (.int p3), .val (.int p4), .val (.int p5), .val (.ref la), .val (.ref mb), .val (.int c8), .val (.int d8), .unset, .unset, .unset] [(.int (nar .boolean (if c8 = (0 : Int32) then (1 : Int32) else (0 : Int32))))])) _
      refine XS.iconst X1.here hx rfl (hb hby at_89) ?_
      show Steps p.tables e below (T1.setTop (mkF m 90 #[.val (.int p1), .val (.int p2), .val (.int p3), .val (.int p4), .val (.int p5), .val (.ref la), .val (.ref mb), .val (.int c8), .val (.int d8), .unset, .unset, .unset] [(.int (0 : Int32)), (.int (nar .boolean (if c8 = (0 : Int32) then (1 : Int32) else (0 : Int32))))])) _
      first | exact k | (simp only [if_neg hc]; exact k)
  refine OGo.by_ D3 ?_
  show OGo p e below _ (T1.setTop (mkF m 90 #[.val (.int p1), .val (.int p2), .val (.int p3), .val (.int p4), .val (.int p5), .val (.ref la), .val (.ref mb), .val (.int c8), .val (.int d8), .unset, .unset, .unset] [(.int (if c8 = (0 : Int32) then (1 : Int32) else (0 : Int32))), (.int (nar .boolean (if c8 = (0 : Int32) then (1 : Int32) else (0 : Int32))))]))
  refine OGo.by_ (fun t k => XS.icmpNo X1.here hx rfl (hb hby at_90) rfl (teq own_nb).2 k) ?_
  show OGo p e below _ (T1.setTop (mkF m 93 #[.val (.int p1), .val (.int p2), .val (.int p3), .val (.int p4), .val (.int p5), .val (.ref la), .val (.ref mb), .val (.int c8), .val (.int d8), .unset, .unset, .unset] []))
  refine OGo.by_ (fun t k => XS.iconst X1.here hx rfl (hb hby at_93) k) ?_
  show OGo p e below _ (T1.setTop (mkF m 94 #[.val (.int p1), .val (.int p2), .val (.int p3), .val (.int p4), .val (.int p5), .val (.ref la), .val (.ref mb), .val (.int c8), .val (.int d8), .unset, .unset, .unset] [(.int (1 : Int32))]))
  refine OGo.by_ (fun t k => XS.goto X1.here hx rfl (pc0 := 94) (pc' := 98) rfl (hb hby at_94) (by decide) (by decide) k) ?_
  show OGo p e below _ (T1.setTop (mkF m 98 #[.val (.int p1), .val (.int p2), .val (.int p3), .val (.int p4), .val (.int p5), .val (.ref la), .val (.ref mb), .val (.int c8), .val (.int d8), .unset, .unset, .unset] [(.int (1 : Int32))]))
  refine OGo.by_ (fun t k => XS.istore X1.here hx rfl (hb hby at_98) rfl (l' := #[.val (.int p1), .val (.int p2), .val (.int p3), .val (.int p4), .val (.int p5), .val (.ref la), .val (.ref mb), .val (.int c8), .val (.int d8), .val (.int (1 : Int32)), .unset, .unset]) rfl k) ?_
  show OGo p e below _ (T1.setTop (mkF m 100 #[.val (.int p1), .val (.int p2), .val (.int p3), .val (.int p4), .val (.int p5), .val (.ref la), .val (.ref mb), .val (.int c8), .val (.int d8), .val (.int (1 : Int32)), .unset, .unset] []))
  refine OGo.by_ (fun t k => XS.aload X1.here hx rfl (hb hby at_100) rfl rfl k) ?_
  show OGo p e below _ (T1.setTop (mkF m 102 #[.val (.int p1), .val (.int p2), .val (.int p3), .val (.int p4), .val (.int p5), .val (.ref la), .val (.ref mb), .val (.int c8), .val (.int d8), .val (.int (1 : Int32)), .unset, .unset] [(.ref mb)]))
  obtain ⟨cq5, kq5, qa5, qb5, qc5⟩ := isOf hZ eq1 IL2.1
  obtain ⟨_, _, ⟨T4, L4, k4, n4⟩, -, X4, ⟨Lc4, hQ4, l4, y4, z4⟩, st4⟩ := X1.virtualBack hx (y := (⟨"com/example/frigg/frigg/engine/IntList", "isEmpty", "()Z"⟩ : MethodName)) (z := (⟨"com/example/frigg/frigg/engine/IntList", "isEmpty", "()Z"⟩ : MethodName)) hown (mvT hZ (hw _ (List.mem_of_getElem? (i := 19) rfl))) (mvT hZ (hw _ (List.mem_of_getElem? (i := 20) rfl))) (notFace_of_selects (args := #[]) (mvT hZ (hw _ (List.mem_of_getElem? (i := 22) rfl)))) (mvT hZ (hw _ (List.mem_of_getElem? (i := 22) rfl))) (mvT hZ (hw _ (List.mem_of_getElem? (i := 21) rfl))) (by decide) (backOf (W := 0) (rm_emp l Z a0 hw [] mb b2 d8 h0 n0 Z0 IL2) hZ (hw _ (List.mem_of_getElem? (i := 23) rfl)) (hw _ (List.mem_of_getElem? (i := 2) rfl)) (by decide) (by decide)) qa5 qc5 (g := (mkF m 102 #[.val (.int p1), .val (.int p2), .val (.int p3), .val (.int p4), .val (.int p5), .val (.ref la), .val (.ref mb), .val (.int c8), .val (.int d8), .val (.int (1 : Int32)), .unset, .unset] [(.ref mb)])) rfl (by rw [hml]; rfl) (Steps.refl _) (argsL := []) (rest := []) (lenOf pd_ocZ rfl) rfl (by show 2 * 0 + _ ≤ _; exact Nat.le_of_eq rfl) (hb hby at_102) (fun _ _ => ⟨rfl, eq1, (by decide : 4 + 0 ≤ _), (by decide : 36 + 0 ≤ _)⟩)
  dsimp only [Pt.U, Pt.locs, Pt.cells, Pt.slots] at X4 l4 y4 z4 st4 hQ4
  subst l4 y4 z4
  obtain ⟨rfl, Nq4, eq4⟩ := hQ4
  have N4 := Fr.app N1 Nq4
  refine OGo.by_ (fun t k => st4.trans k) ?_
  show OGo p e below _ (T4.setTop (mkF m 105 #[.val (.int p1), .val (.int p2), .val (.int p3), .val (.int p4), .val (.int p5), .val (.ref la), .val (.ref mb), .val (.int c8), .val (.int d8), .val (.int (1 : Int32)), .unset, .unset] [(.int (nar .boolean (if d8 = (0 : Int32) then (1 : Int32) else (0 : Int32))))]))
  refine OGo.by_ (fun t k => XS.iload X4.here hx rfl (hb hby at_105) rfl k) ?_
  show OGo p e below _ (T4.setTop (mkF m 107 #[.val (.int p1), .val (.int p2), .val (.int p3), .val (.int p4), .val (.int p5), .val (.ref la), .val (.ref mb), .val (.int c8), .val (.int d8), .val (.int (1 : Int32)), .unset, .unset] [(.int d8), (.int (nar .boolean (if d8 = (0 : Int32) then (1 : Int32) else (0 : Int32))))]))
  have D6 : ∀ t, Steps p.tables e below (T4.setTop (mkF m 115 #[.val (.int p1), .val (.int p2), .val (.int p3), .val (.int p4), .val (.int p5), .val (.ref la), .val (.ref mb), .val (.int c8), .val (.int d8), .val (.int (1 : Int32)), .unset, .unset] [(.int (if d8 = (0 : Int32) then (1 : Int32) else (0 : Int32))), (.int (nar .boolean (if d8 = (0 : Int32) then (1 : Int32) else (0 : Int32))))])) t → Steps p.tables e below (T4.setTop (mkF m 107 #[.val (.int p1), .val (.int p2), .val (.int p3), .val (.int p4), .val (.int p5), .val (.ref la), .val (.ref mb), .val (.int c8), .val (.int d8), .val (.int (1 : Int32)), .unset, .unset] [(.int d8), (.int (nar .boolean (if d8 = (0 : Int32) then (1 : Int32) else (0 : Int32))))])) t := by
    intro t k
    by_cases hc : d8 = (0 : Int32)
    · rw [show (if d8 = (0 : Int32) then (1 : Int32) else (0 : Int32)) = (1 : Int32) from if_pos hc] at k
      refine XS.ifNo X4.here hx rfl (hb hby at_107) rfl ((if0 _ _).trans (teq hc).2) ?_
      show Steps p.tables e below (T4.setTop (mkF m 110 #[.val (.int p1), .val (.int p2), .val (.int p3), .val (.int p4), .val (.int p5), .val (.ref la), .val (.ref mb), .val (.int c8), .val (.int d8), .val (.int (1 : Int32)), .unset, .unset] [(.int (nar .boolean (if d8 = (0 : Int32) then (1 : Int32) else (0 : Int32))))])) _
      refine XS.iconst X4.here hx rfl (hb hby at_110) ?_
      show Steps p.tables e below (T4.setTop (mkF m 111 #[.val (.int p1), .val (.int p2), .val (.int p3), .val (.int p4), .val (.int p5), .val (.ref la), .val (.ref mb), .val (.int c8), .val (.int d8), .val (.int (1 : Int32)), .unset, .unset] [(.int (1 : Int32)), (.int (nar .boolean (if d8 = (0 : Int32) then (1 : Int32) else (0 : Int32))))])) _
      refine XS.goto X4.here hx rfl (pc0 := 111) (pc' := 115) rfl (hb hby at_111) (by decide) (by decide) ?_
      show Steps p.tables e below (T4.setTop (mkF m 115 #[.val (.int p1), .val (.int p2), .val (.int p3), .val (.int p4), .val (.int p5), .val (.ref la), .val (.ref mb), .val (.int c8), .val (.int d8), .val (.int (1 : Int32)), .unset, .unset] [(.int (1 : Int32)), (.int (nar .boolean (if d8 = (0 : Int32) then (1 : Int32) else (0 : Int32))))])) _
      first | exact k | (simp only [if_pos hc]; exact k)
    · rw [show (if d8 = (0 : Int32) then (1 : Int32) else (0 : Int32)) = (0 : Int32) from if_neg hc] at k
      refine XS.ifYes X4.here hx rfl (pc0 := 107) (pc' := 114) rfl (hb hby at_107) rfl ((if0 _ _).trans (feq hc).2) (by decide) (by decide) ?_
      show Steps p.tables e below (T4.setTop (mkF m 114 #[.val (.int p1), .val (.int p2), .val (.int p3), .val (.int p4), .val (.int p5), .val (.ref la), .val (.ref mb), .val (.int c8), .val (.int d8), .val (.int (1 : Int32)), .unset, .unset] [(.int (nar .boolean (if d8 = (0 : Int32) then (1 : Int32) else (0 : Int32))))])) _
      refine XS.iconst X4.here hx rfl (hb hby at_114) ?_
      show Steps p.tables e below (T4.setTop (mkF m 115 #[.val (.int p1), .val (.int p2), .val (.int p3), .val (.int p4), .val (.int p5), .val (.ref la), .val (.ref mb), .val (.int c8), .val (.int d8), .val (.int (1 : Int32)), .unset, .unset] [(.int (0 : Int32)), (.int (nar .boolean (if d8 = (0 : Int32) then (1 : Int32) else (0 : Int32))))])) _
      first | exact k | (simp only [if_neg hc]; exact k)
  refine OGo.by_ D6 ?_
  show OGo p e below _ (T4.setTop (mkF m 115 #[.val (.int p1), .val (.int p2), .val (.int p3), .val (.int p4), .val (.int p5), .val (.ref la), .val (.ref mb), .val (.int c8), .val (.int d8), .val (.int (1 : Int32)), .unset, .unset] [(.int (if d8 = (0 : Int32) then (1 : Int32) else (0 : Int32))), (.int (nar .boolean (if d8 = (0 : Int32) then (1 : Int32) else (0 : Int32))))]))
  refine OGo.by_ (fun t k => XS.icmpNo X4.here hx rfl (hb hby at_115) rfl (teq own_nb).2 k) ?_
  show OGo p e below _ (T4.setTop (mkF m 118 #[.val (.int p1), .val (.int p2), .val (.int p3), .val (.int p4), .val (.int p5), .val (.ref la), .val (.ref mb), .val (.int c8), .val (.int d8), .val (.int (1 : Int32)), .unset, .unset] []))
  refine OGo.by_ (fun t k => XS.iconst X4.here hx rfl (hb hby at_118) k) ?_
  show OGo p e below _ (T4.setTop (mkF m 119 #[.val (.int p1), .val (.int p2), .val (.int p3), .val (.int p4), .val (.int p5), .val (.ref la), .val (.ref mb), .val (.int c8), .val (.int d8), .val (.int (1 : Int32)), .unset, .unset] [(.int (1 : Int32))]))
  refine OGo.by_ (fun t k => XS.goto X4.here hx rfl (pc0 := 119) (pc' := 123) rfl (hb hby at_119) (by decide) (by decide) k) ?_
  show OGo p e below _ (T4.setTop (mkF m 123 #[.val (.int p1), .val (.int p2), .val (.int p3), .val (.int p4), .val (.int p5), .val (.ref la), .val (.ref mb), .val (.int c8), .val (.int d8), .val (.int (1 : Int32)), .unset, .unset] [(.int (1 : Int32))]))
  refine OGo.by_ (fun t k => XS.istore X4.here hx rfl (hb hby at_123) rfl (l' := #[.val (.int p1), .val (.int p2), .val (.int p3), .val (.int p4), .val (.int p5), .val (.ref la), .val (.ref mb), .val (.int c8), .val (.int d8), .val (.int (1 : Int32)), .val (.int (1 : Int32)), .unset]) rfl k) ?_
  show OGo p e below _ (T4.setTop (mkF m 125 #[.val (.int p1), .val (.int p2), .val (.int p3), .val (.int p4), .val (.int p5), .val (.ref la), .val (.ref mb), .val (.int c8), .val (.int d8), .val (.int (1 : Int32)), .val (.int (1 : Int32)), .unset] []))
  exact sg_k125 X4 hx hZ hw hby hml hown hnm hlk hret eq4 N4 Z0 IL1 IL2 far gs hc8 hd8
theorem pd_oIcV : parseMethodDescriptor "(I)V" = some ⟨[.int], none⟩ := by decide +kernel
set_option maxRecDepth 65536 in
set_option maxHeartbeats 40000000 in
theorem sg_k57 {p : Program} {l : Launch} {e : Env} {s : State} {m : MethodId} {args : Array Value} {below : List Frame} {meth : Method} {c : Code} {T0 : State} {locs : List Loc} {Z : State} {a0 : Array Value} {h0 : Heap} {n0 : Nat} {p1 p2 p3 p4 p5 c8 : Int32} {la b mb b2 : Addr}
    (X0 : Stand p l e room_1 s m args below meth c T0 locs 4 36) (hx : p.tables.exec = Jvm.exec) (hZ : Z.Warmed39 s.vm) (hw : ∀ d ∈ tables_1, d.before a0 Z = true) (hby : c.code = code) (hml : c.maxLocals = 12) (hown : s.vm.findClass "com/example/frigg/frigg/engine/IntListIsEmptyPinLaw" = some m.cls) (hnm : meth.name = "law") (hlk : meth.locks = false) (hret : meth.sig.returnType = some .boolean) (e0 : T0.heap = h0) (N0 : Fr n0 locs) (Z0 : n0 ≤ h0.size) (IL1 : own_IL Z h0 la b c8) (IL2 : own_IL Z h0 mb b2 0) (far : la ≠ b ∧ mb ≠ b2 ∧ la ≠ mb ∧ la ≠ b2 ∧ mb ≠ b ∧ b ≠ b2) (gs : n0 ≤ la ∧ n0 ≤ b ∧ n0 ≤ mb ∧ n0 ≤ b2) (hc8 : c8 = 0 ∨ c8 = 1 ∨ c8 = 2) :
    OGo p e below (OEnd s (fun v h L => v = some (.int 1) ∧ Fr n0 L) room_1.cells room_1.slots) (T0.setTop (mkF m 57 #[.val (.int p1), .val (.int p2), .val (.int p3), .val (.int p4), .val (.int p5), .val (.ref la), .val (.ref mb), .val (.int c8), .unset, .unset, .unset, .unset] [])) := by
  refine OGo.by_ (fun t k => XS.iconst X0.here hx rfl (hb hby at_57) k) ?_
  show OGo p e below _ (T0.setTop (mkF m 58 #[.val (.int p1), .val (.int p2), .val (.int p3), .val (.int p4), .val (.int p5), .val (.ref la), .val (.ref mb), .val (.int c8), .unset, .unset, .unset, .unset] [(.int (0 : Int32))]))
  refine OGo.by_ (fun t k => XS.istore X0.here hx rfl (hb hby at_58) rfl (l' := #[.val (.int p1), .val (.int p2), .val (.int p3), .val (.int p4), .val (.int p5), .val (.ref la), .val (.ref mb), .val (.int c8), .val (.int (0 : Int32)), .unset, .unset, .unset]) rfl k) ?_
  show OGo p e below _ (T0.setTop (mkF m 60 #[.val (.int p1), .val (.int p2), .val (.int p3), .val (.int p4), .val (.int p5), .val (.ref la), .val (.ref mb), .val (.int c8), .val (.int (0 : Int32)), .unset, .unset, .unset] []))
  refine OGo.by_ (fun t k => XS.iloadN X0.here hx rfl (hb hby at_60) rfl k) ?_
  show OGo p e below _ (T0.setTop (mkF m 61 #[.val (.int p1), .val (.int p2), .val (.int p3), .val (.int p4), .val (.int p5), .val (.ref la), .val (.ref mb), .val (.int c8), .val (.int (0 : Int32)), .unset, .unset, .unset] [(.int p2)]))
  refine OGo.by_ (fun t k => XS.iconst X0.here hx rfl (hb hby at_61) k) ?_
  show OGo p e below _ (T0.setTop (mkF m 62 #[.val (.int p1), .val (.int p2), .val (.int p3), .val (.int p4), .val (.int p5), .val (.ref la), .val (.ref mb), .val (.int c8), .val (.int (0 : Int32)), .unset, .unset, .unset] [(.int (1 : Int32)), (.int p2)]))
  refine OGo.by_ (fun t k => XS.iand X0.here hx rfl (hb hby at_62) rfl k) ?_
  show OGo p e below _ (T0.setTop (mkF m 63 #[.val (.int p1), .val (.int p2), .val (.int p3), .val (.int p4), .val (.int p5), .val (.ref la), .val (.ref mb), .val (.int c8), .val (.int (0 : Int32)), .unset, .unset, .unset] [(.int (p2 &&& (1 : Int32)))]))
  by_cases hc63 : (p2 &&& (1 : Int32)) = (0 : Int32)
  · refine OGo.by_ (fun t k => XS.ifYes X0.here hx rfl (pc0 := 63) (pc' := 75) rfl (hb hby at_63) rfl ((if0 _ _).trans (teq hc63).1) (by decide) (by decide) k) ?_
    show OGo p e below _ (T0.setTop (mkF m 75 #[.val (.int p1), .val (.int p2), .val (.int p3), .val (.int p4), .val (.int p5), .val (.ref la), .val (.ref mb), .val (.int c8), .val (.int (0 : Int32)), .unset, .unset, .unset] []))
    exact sg_k75 X0 hx hZ hw hby hml hown hnm hlk hret e0 N0 Z0 IL1 IL2 far gs hc8 (Or.inl rfl)
  · refine OGo.by_ (fun t k => XS.ifNo X0.here hx rfl (hb hby at_63) rfl ((if0 _ _).trans (feq hc63).1) k) ?_
    show OGo p e below _ (T0.setTop (mkF m 66 #[.val (.int p1), .val (.int p2), .val (.int p3), .val (.int p4), .val (.int p5), .val (.ref la), .val (.ref mb), .val (.int c8), .val (.int (0 : Int32)), .unset, .unset, .unset] []))
    refine OGo.by_ (fun t k => XS.aload X0.here hx rfl (hb hby at_66) rfl rfl k) ?_
    show OGo p e below _ (T0.setTop (mkF m 68 #[.val (.int p1), .val (.int p2), .val (.int p3), .val (.int p4), .val (.int p5), .val (.ref la), .val (.ref mb), .val (.int c8), .val (.int (0 : Int32)), .unset, .unset, .unset] [(.ref mb)]))
    refine OGo.by_ (fun t k => XS.iloadN X0.here hx rfl (hb hby at_68) rfl k) ?_
    show OGo p e below _ (T0.setTop (mkF m 69 #[.val (.int p1), .val (.int p2), .val (.int p3), .val (.int p4), .val (.int p5), .val (.ref la), .val (.ref mb), .val (.int c8), .val (.int (0 : Int32)), .unset, .unset, .unset] [(.int p4), (.ref mb)]))
    obtain ⟨cq2, kq2, qa2, qb2, qc2⟩ := isOf hZ e0 IL2.1
    obtain ⟨_, _, ⟨T1, L1, k1, n1⟩, -, X1, ⟨Lc1, hQ1, l1, y1, z1⟩, st1⟩ := X0.virtualBack hx (y := (⟨"com/example/frigg/frigg/engine/IntList", "add", "(I)V"⟩ : MethodName)) (z := (⟨"com/example/frigg/frigg/engine/IntList", "add", "(I)V"⟩ : MethodName)) hown (mvT hZ (hw _ (List.mem_of_getElem? (i := 12) rfl))) (mvT hZ (hw _ (List.mem_of_getElem? (i := 13) rfl))) (notFace_of_selects (args := #[]) (mvT hZ (hw _ (List.mem_of_getElem? (i := 15) rfl)))) (mvT hZ (hw _ (List.mem_of_getElem? (i := 15) rfl))) (mvT hZ (hw _ (List.mem_of_getElem? (i := 14) rfl))) (by decide) (backOf (W := 0) (rm_add l Z a0 hw [] mb b2 p4 0 h0 n0 Z0 IL2 far.2.1 gs.2.2.1 gs.2.2.2 (by decide) (by decide) (by decide)) hZ (hw _ (List.mem_of_getElem? (i := 16) rfl)) (hw _ (List.mem_of_getElem? (i := 2) rfl)) (by decide) (by decide)) qa2 qc2 (g := (mkF m 69 #[.val (.int p1), .val (.int p2), .val (.int p3), .val (.int p4), .val (.int p5), .val (.ref la), .val (.ref mb), .val (.int c8), .val (.int (0 : Int32)), .unset, .unset, .unset] [(.int p4), (.ref mb)])) rfl (by rw [hml]; rfl) (Steps.refl _) (argsL := [(.int p4)]) (rest := []) (lenOf pd_oIcV rfl) rfl (by show 2 * 0 + _ ≤ _; exact Nat.le_of_eq rfl) (hb hby at_69) (fun _ _ => ⟨rfl, e0, (by decide : 4 + 0 ≤ _), (by decide : 36 + 0 ≤ _)⟩)
    dsimp only [Pt.U, Pt.locs, Pt.cells, Pt.slots] at X1 l1 y1 z1 st1 hQ1
    subst l1 y1 z1
    obtain ⟨rfl, Nq1, K1, IQ1⟩ := hQ1
    have N1 := Fr.app N0 Nq1
    refine OGo.by_ (fun t k => st1.trans k) ?_
    show OGo p e below _ (T1.setTop (mkF m 72 #[.val (.int p1), .val (.int p2), .val (.int p3), .val (.int p4), .val (.int p5), .val (.ref la), .val (.ref mb), .val (.int c8), .val (.int (0 : Int32)), .unset, .unset, .unset] []))
    refine OGo.by_ (fun t k => XS.iconst X1.here hx rfl (hb hby at_72) k) ?_
    show OGo p e below _ (T1.setTop (mkF m 73 #[.val (.int p1), .val (.int p2), .val (.int p3), .val (.int p4), .val (.int p5), .val (.ref la), .val (.ref mb), .val (.int c8), .val (.int (0 : Int32)), .unset, .unset, .unset] [(.int (1 : Int32))]))
    refine OGo.by_ (fun t k => XS.istore X1.here hx rfl (hb hby at_73) rfl (l' := #[.val (.int p1), .val (.int p2), .val (.int p3), .val (.int p4), .val (.int p5), .val (.ref la), .val (.ref mb), .val (.int c8), .val (.int (1 : Int32)), .unset, .unset, .unset]) rfl k) ?_
    show OGo p e below _ (T1.setTop (mkF m 75 #[.val (.int p1), .val (.int p2), .val (.int p3), .val (.int p4), .val (.int p5), .val (.ref la), .val (.ref mb), .val (.int c8), .val (.int (1 : Int32)), .unset, .unset, .unset] []))
    exact sg_k75 X1 hx hZ hw hby hml hown hnm hlk hret rfl N1 (Nat.le_trans Z0 K1.1) (own_IL_keep IL1 K1 (own_nin2 far.2.2.2.1 far.2.2.1) (own_nin2 far.2.2.2.2.2 far.2.2.2.2.1.symm)) IQ1 far gs hc8 (Or.inr rfl)
set_option maxRecDepth 65536 in
set_option maxHeartbeats 40000000 in
theorem sg_k39 {p : Program} {l : Launch} {e : Env} {s : State} {m : MethodId} {args : Array Value} {below : List Frame} {meth : Method} {c : Code} {T0 : State} {locs : List Loc} {Z : State} {a0 : Array Value} {h0 : Heap} {n0 : Nat} {p1 p2 p3 p4 p5 c8 : Int32} {la b mb b2 : Addr}
    (X0 : Stand p l e room_1 s m args below meth c T0 locs 4 36) (hx : p.tables.exec = Jvm.exec) (hZ : Z.Warmed39 s.vm) (hw : ∀ d ∈ tables_1, d.before a0 Z = true) (hby : c.code = code) (hml : c.maxLocals = 12) (hown : s.vm.findClass "com/example/frigg/frigg/engine/IntListIsEmptyPinLaw" = some m.cls) (hnm : meth.name = "law") (hlk : meth.locks = false) (hret : meth.sig.returnType = some .boolean) (e0 : T0.heap = h0) (N0 : Fr n0 locs) (Z0 : n0 ≤ h0.size) (IL1 : own_IL Z h0 la b c8) (IL2 : own_IL Z h0 mb b2 0) (far : la ≠ b ∧ mb ≠ b2 ∧ la ≠ mb ∧ la ≠ b2 ∧ mb ≠ b ∧ b ≠ b2) (gs : n0 ≤ la ∧ n0 ≤ b ∧ n0 ≤ mb ∧ n0 ≤ b2) (hc8 : c8 = 0 ∨ c8 = 1) :
    OGo p e below (OEnd s (fun v h L => v = some (.int 1) ∧ Fr n0 L) room_1.cells room_1.slots) (T0.setTop (mkF m 39 #[.val (.int p1), .val (.int p2), .val (.int p3), .val (.int p4), .val (.int p5), .val (.ref la), .val (.ref mb), .val (.int c8), .unset, .unset, .unset, .unset] [])) := by
  refine OGo.by_ (fun t k => XS.iloadN X0.here hx rfl (hb hby at_39) rfl k) ?_
  show OGo p e below _ (T0.setTop (mkF m 40 #[.val (.int p1), .val (.int p2), .val (.int p3), .val (.int p4), .val (.int p5), .val (.ref la), .val (.ref mb), .val (.int c8), .unset, .unset, .unset, .unset] [(.int p1)]))
  refine OGo.by_ (fun t k => XS.iconst X0.here hx rfl (hb hby at_40) k) ?_
  show OGo p e below _ (T0.setTop (mkF m 41 #[.val (.int p1), .val (.int p2), .val (.int p3), .val (.int p4), .val (.int p5), .val (.ref la), .val (.ref mb), .val (.int c8), .unset, .unset, .unset, .unset] [(.int (2 : Int32)), (.int p1)]))
  refine OGo.by_ (fun t k => XS.iand X0.here hx rfl (hb hby at_41) rfl k) ?_
  show OGo p e below _ (T0.setTop (mkF m 42 #[.val (.int p1), .val (.int p2), .val (.int p3), .val (.int p4), .val (.int p5), .val (.ref la), .val (.ref mb), .val (.int c8), .unset, .unset, .unset, .unset] [(.int (p1 &&& (2 : Int32)))]))
  by_cases hc42 : (p1 &&& (2 : Int32)) = (0 : Int32)
  · refine OGo.by_ (fun t k => XS.ifYes X0.here hx rfl (pc0 := 42) (pc' := 57) rfl (hb hby at_42) rfl ((if0 _ _).trans (teq hc42).1) (by decide) (by decide) k) ?_
    show OGo p e below _ (T0.setTop (mkF m 57 #[.val (.int p1), .val (.int p2), .val (.int p3), .val (.int p4), .val (.int p5), .val (.ref la), .val (.ref mb), .val (.int c8), .unset, .unset, .unset, .unset] []))
    exact sg_k57 X0 hx hZ hw hby hml hown hnm hlk hret e0 N0 Z0 IL1 IL2 far gs (hc8.elim Or.inl (fun q => Or.inr (Or.inl q)))
  · refine OGo.by_ (fun t k => XS.ifNo X0.here hx rfl (hb hby at_42) rfl ((if0 _ _).trans (feq hc42).1) k) ?_
    show OGo p e below _ (T0.setTop (mkF m 45 #[.val (.int p1), .val (.int p2), .val (.int p3), .val (.int p4), .val (.int p5), .val (.ref la), .val (.ref mb), .val (.int c8), .unset, .unset, .unset, .unset] []))
    refine OGo.by_ (fun t k => XS.aload X0.here hx rfl (hb hby at_45) rfl rfl k) ?_
    show OGo p e below _ (T0.setTop (mkF m 47 #[.val (.int p1), .val (.int p2), .val (.int p3), .val (.int p4), .val (.int p5), .val (.ref la), .val (.ref mb), .val (.int c8), .unset, .unset, .unset, .unset] [(.ref la)]))
    refine OGo.by_ (fun t k => XS.iloadN X0.here hx rfl (hb hby at_47) rfl k) ?_
    show OGo p e below _ (T0.setTop (mkF m 48 #[.val (.int p1), .val (.int p2), .val (.int p3), .val (.int p4), .val (.int p5), .val (.ref la), .val (.ref mb), .val (.int c8), .unset, .unset, .unset, .unset] [(.int p4), (.ref la)]))
    obtain ⟨cq2, kq2, qa2, qb2, qc2⟩ := isOf hZ e0 IL1.1
    obtain ⟨_, _, ⟨T1, L1, k1, n1⟩, -, X1, ⟨Lc1, hQ1, l1, y1, z1⟩, st1⟩ := X0.virtualBack hx (y := (⟨"com/example/frigg/frigg/engine/IntList", "add", "(I)V"⟩ : MethodName)) (z := (⟨"com/example/frigg/frigg/engine/IntList", "add", "(I)V"⟩ : MethodName)) hown (mvT hZ (hw _ (List.mem_of_getElem? (i := 12) rfl))) (mvT hZ (hw _ (List.mem_of_getElem? (i := 13) rfl))) (notFace_of_selects (args := #[]) (mvT hZ (hw _ (List.mem_of_getElem? (i := 15) rfl)))) (mvT hZ (hw _ (List.mem_of_getElem? (i := 15) rfl))) (mvT hZ (hw _ (List.mem_of_getElem? (i := 14) rfl))) (by decide) (backOf (W := 0) (rm_add l Z a0 hw [] la b p4 c8 h0 n0 Z0 IL1 far.1 gs.1 gs.2.1 (own_b1 (hc8.elim Or.inl (fun q => Or.inr (Or.inl q)))) (own_b1' (hc8.elim Or.inl (fun q => Or.inr (Or.inl q)))) (own_b1n (hc8.elim Or.inl (fun q => Or.inr (Or.inl q))))) hZ (hw _ (List.mem_of_getElem? (i := 16) rfl)) (hw _ (List.mem_of_getElem? (i := 2) rfl)) (by decide) (by decide)) qa2 qc2 (g := (mkF m 48 #[.val (.int p1), .val (.int p2), .val (.int p3), .val (.int p4), .val (.int p5), .val (.ref la), .val (.ref mb), .val (.int c8), .unset, .unset, .unset, .unset] [(.int p4), (.ref la)])) rfl (by rw [hml]; rfl) (Steps.refl _) (argsL := [(.int p4)]) (rest := []) (lenOf pd_oIcV rfl) rfl (by show 2 * 0 + _ ≤ _; exact Nat.le_of_eq rfl) (hb hby at_48) (fun _ _ => ⟨rfl, e0, (by decide : 4 + 0 ≤ _), (by decide : 36 + 0 ≤ _)⟩)
    dsimp only [Pt.U, Pt.locs, Pt.cells, Pt.slots] at X1 l1 y1 z1 st1 hQ1
    subst l1 y1 z1
    obtain ⟨rfl, Nq1, K1, IQ1⟩ := hQ1
    have N1 := Fr.app N0 Nq1
    refine OGo.by_ (fun t k => st1.trans k) ?_
    show OGo p e below _ (T1.setTop (mkF m 51 #[.val (.int p1), .val (.int p2), .val (.int p3), .val (.int p4), .val (.int p5), .val (.ref la), .val (.ref mb), .val (.int c8), .unset, .unset, .unset, .unset] []))
    refine OGo.by_ (fun t k => XS.iload X1.here hx rfl (hb hby at_51) rfl k) ?_
    show OGo p e below _ (T1.setTop (mkF m 53 #[.val (.int p1), .val (.int p2), .val (.int p3), .val (.int p4), .val (.int p5), .val (.ref la), .val (.ref mb), .val (.int c8), .unset, .unset, .unset, .unset] [(.int c8)]))
    refine OGo.by_ (fun t k => XS.iconst X1.here hx rfl (hb hby at_53) k) ?_
    show OGo p e below _ (T1.setTop (mkF m 54 #[.val (.int p1), .val (.int p2), .val (.int p3), .val (.int p4), .val (.int p5), .val (.ref la), .val (.ref mb), .val (.int c8), .unset, .unset, .unset, .unset] [(.int (1 : Int32)), (.int c8)]))
    refine OGo.by_ (fun t k => XS.iadd X1.here hx rfl (hb hby at_54) rfl k) ?_
    show OGo p e below _ (T1.setTop (mkF m 55 #[.val (.int p1), .val (.int p2), .val (.int p3), .val (.int p4), .val (.int p5), .val (.ref la), .val (.ref mb), .val (.int c8), .unset, .unset, .unset, .unset] [(.int (c8 + (1 : Int32)))]))
    refine OGo.by_ (fun t k => XS.istore X1.here hx rfl (hb hby at_55) rfl (l' := #[.val (.int p1), .val (.int p2), .val (.int p3), .val (.int p4), .val (.int p5), .val (.ref la), .val (.ref mb), .val (.int (c8 + (1 : Int32))), .unset, .unset, .unset, .unset]) rfl k) ?_
    show OGo p e below _ (T1.setTop (mkF m 57 #[.val (.int p1), .val (.int p2), .val (.int p3), .val (.int p4), .val (.int p5), .val (.ref la), .val (.ref mb), .val (.int (c8 + (1 : Int32))), .unset, .unset, .unset, .unset] []))
    exact sg_k57 X1 hx hZ hw hby hml hown hnm hlk hret rfl N1 (Nat.le_trans Z0 K1.1) IQ1 (own_IL_keep IL2 K1 (own_nin2 far.2.2.2.2.1 far.2.2.1.symm) (own_nin2 far.2.2.2.2.2.symm far.2.2.2.1.symm)) far gs (by rcases hc8 with rfl | rfl <;> decide)
set_option maxRecDepth 65536 in
set_option maxHeartbeats 40000000 in
theorem sg_k21 {p : Program} {l : Launch} {e : Env} {s : State} {m : MethodId} {args : Array Value} {below : List Frame} {meth : Method} {c : Code} {T0 : State} {locs : List Loc} {Z : State} {a0 : Array Value} {h0 : Heap} {n0 : Nat} {p1 p2 p3 p4 p5 c8 : Int32} {la b mb b2 : Addr}
    (X0 : Stand p l e room_1 s m args below meth c T0 locs 4 36) (hx : p.tables.exec = Jvm.exec) (hZ : Z.Warmed39 s.vm) (hw : ∀ d ∈ tables_1, d.before a0 Z = true) (hby : c.code = code) (hml : c.maxLocals = 12) (hown : s.vm.findClass "com/example/frigg/frigg/engine/IntListIsEmptyPinLaw" = some m.cls) (hnm : meth.name = "law") (hlk : meth.locks = false) (hret : meth.sig.returnType = some .boolean) (e0 : T0.heap = h0) (N0 : Fr n0 locs) (Z0 : n0 ≤ h0.size) (IL1 : own_IL Z h0 la b c8) (IL2 : own_IL Z h0 mb b2 0) (far : la ≠ b ∧ mb ≠ b2 ∧ la ≠ mb ∧ la ≠ b2 ∧ mb ≠ b ∧ b ≠ b2) (gs : n0 ≤ la ∧ n0 ≤ b ∧ n0 ≤ mb ∧ n0 ≤ b2) (hc8 : c8 = 0) :
    OGo p e below (OEnd s (fun v h L => v = some (.int 1) ∧ Fr n0 L) room_1.cells room_1.slots) (T0.setTop (mkF m 21 #[.val (.int p1), .val (.int p2), .val (.int p3), .val (.int p4), .val (.int p5), .val (.ref la), .val (.ref mb), .val (.int c8), .unset, .unset, .unset, .unset] [])) := by
  refine OGo.by_ (fun t k => XS.iloadN X0.here hx rfl (hb hby at_21) rfl k) ?_
  show OGo p e below _ (T0.setTop (mkF m 22 #[.val (.int p1), .val (.int p2), .val (.int p3), .val (.int p4), .val (.int p5), .val (.ref la), .val (.ref mb), .val (.int c8), .unset, .unset, .unset, .unset] [(.int p1)]))
  refine OGo.by_ (fun t k => XS.iconst X0.here hx rfl (hb hby at_22) k) ?_
  show OGo p e below _ (T0.setTop (mkF m 23 #[.val (.int p1), .val (.int p2), .val (.int p3), .val (.int p4), .val (.int p5), .val (.ref la), .val (.ref mb), .val (.int c8), .unset, .unset, .unset, .unset] [(.int (1 : Int32)), (.int p1)]))
  refine OGo.by_ (fun t k => XS.iand X0.here hx rfl (hb hby at_23) rfl k) ?_
  show OGo p e below _ (T0.setTop (mkF m 24 #[.val (.int p1), .val (.int p2), .val (.int p3), .val (.int p4), .val (.int p5), .val (.ref la), .val (.ref mb), .val (.int c8), .unset, .unset, .unset, .unset] [(.int (p1 &&& (1 : Int32)))]))
  by_cases hc24 : (p1 &&& (1 : Int32)) = (0 : Int32)
  · refine OGo.by_ (fun t k => XS.ifYes X0.here hx rfl (pc0 := 24) (pc' := 39) rfl (hb hby at_24) rfl ((if0 _ _).trans (teq hc24).1) (by decide) (by decide) k) ?_
    show OGo p e below _ (T0.setTop (mkF m 39 #[.val (.int p1), .val (.int p2), .val (.int p3), .val (.int p4), .val (.int p5), .val (.ref la), .val (.ref mb), .val (.int c8), .unset, .unset, .unset, .unset] []))
    exact sg_k39 X0 hx hZ hw hby hml hown hnm hlk hret e0 N0 Z0 IL1 IL2 far gs (Or.inl hc8)
  · refine OGo.by_ (fun t k => XS.ifNo X0.here hx rfl (hb hby at_24) rfl ((if0 _ _).trans (feq hc24).1) k) ?_
    show OGo p e below _ (T0.setTop (mkF m 27 #[.val (.int p1), .val (.int p2), .val (.int p3), .val (.int p4), .val (.int p5), .val (.ref la), .val (.ref mb), .val (.int c8), .unset, .unset, .unset, .unset] []))
    refine OGo.by_ (fun t k => XS.aload X0.here hx rfl (hb hby at_27) rfl rfl k) ?_
    show OGo p e below _ (T0.setTop (mkF m 29 #[.val (.int p1), .val (.int p2), .val (.int p3), .val (.int p4), .val (.int p5), .val (.ref la), .val (.ref mb), .val (.int c8), .unset, .unset, .unset, .unset] [(.ref la)]))
    refine OGo.by_ (fun t k => XS.iloadN X0.here hx rfl (hb hby at_29) rfl k) ?_
    show OGo p e below _ (T0.setTop (mkF m 30 #[.val (.int p1), .val (.int p2), .val (.int p3), .val (.int p4), .val (.int p5), .val (.ref la), .val (.ref mb), .val (.int c8), .unset, .unset, .unset, .unset] [(.int p3), (.ref la)]))
    obtain ⟨cq2, kq2, qa2, qb2, qc2⟩ := isOf hZ e0 IL1.1
    obtain ⟨_, _, ⟨T1, L1, k1, n1⟩, -, X1, ⟨Lc1, hQ1, l1, y1, z1⟩, st1⟩ := X0.virtualBack hx (y := (⟨"com/example/frigg/frigg/engine/IntList", "add", "(I)V"⟩ : MethodName)) (z := (⟨"com/example/frigg/frigg/engine/IntList", "add", "(I)V"⟩ : MethodName)) hown (mvT hZ (hw _ (List.mem_of_getElem? (i := 12) rfl))) (mvT hZ (hw _ (List.mem_of_getElem? (i := 13) rfl))) (notFace_of_selects (args := #[]) (mvT hZ (hw _ (List.mem_of_getElem? (i := 15) rfl)))) (mvT hZ (hw _ (List.mem_of_getElem? (i := 15) rfl))) (mvT hZ (hw _ (List.mem_of_getElem? (i := 14) rfl))) (by decide) (backOf (W := 0) (rm_add l Z a0 hw [] la b p3 c8 h0 n0 Z0 IL1 far.1 gs.1 gs.2.1 (own_b1 (Or.inl hc8)) (own_b1' (Or.inl hc8)) (own_b1n (Or.inl hc8))) hZ (hw _ (List.mem_of_getElem? (i := 16) rfl)) (hw _ (List.mem_of_getElem? (i := 2) rfl)) (by decide) (by decide)) qa2 qc2 (g := (mkF m 30 #[.val (.int p1), .val (.int p2), .val (.int p3), .val (.int p4), .val (.int p5), .val (.ref la), .val (.ref mb), .val (.int c8), .unset, .unset, .unset, .unset] [(.int p3), (.ref la)])) rfl (by rw [hml]; rfl) (Steps.refl _) (argsL := [(.int p3)]) (rest := []) (lenOf pd_oIcV rfl) rfl (by show 2 * 0 + _ ≤ _; exact Nat.le_of_eq rfl) (hb hby at_30) (fun _ _ => ⟨rfl, e0, (by decide : 4 + 0 ≤ _), (by decide : 36 + 0 ≤ _)⟩)
    dsimp only [Pt.U, Pt.locs, Pt.cells, Pt.slots] at X1 l1 y1 z1 st1 hQ1
    subst l1 y1 z1
    obtain ⟨rfl, Nq1, K1, IQ1⟩ := hQ1
    have N1 := Fr.app N0 Nq1
    refine OGo.by_ (fun t k => st1.trans k) ?_
    show OGo p e below _ (T1.setTop (mkF m 33 #[.val (.int p1), .val (.int p2), .val (.int p3), .val (.int p4), .val (.int p5), .val (.ref la), .val (.ref mb), .val (.int c8), .unset, .unset, .unset, .unset] []))
    refine OGo.by_ (fun t k => XS.iload X1.here hx rfl (hb hby at_33) rfl k) ?_
    show OGo p e below _ (T1.setTop (mkF m 35 #[.val (.int p1), .val (.int p2), .val (.int p3), .val (.int p4), .val (.int p5), .val (.ref la), .val (.ref mb), .val (.int c8), .unset, .unset, .unset, .unset] [(.int c8)]))
    refine OGo.by_ (fun t k => XS.iconst X1.here hx rfl (hb hby at_35) k) ?_
    show OGo p e below _ (T1.setTop (mkF m 36 #[.val (.int p1), .val (.int p2), .val (.int p3), .val (.int p4), .val (.int p5), .val (.ref la), .val (.ref mb), .val (.int c8), .unset, .unset, .unset, .unset] [(.int (1 : Int32)), (.int c8)]))
    refine OGo.by_ (fun t k => XS.iadd X1.here hx rfl (hb hby at_36) rfl k) ?_
    show OGo p e below _ (T1.setTop (mkF m 37 #[.val (.int p1), .val (.int p2), .val (.int p3), .val (.int p4), .val (.int p5), .val (.ref la), .val (.ref mb), .val (.int c8), .unset, .unset, .unset, .unset] [(.int (c8 + (1 : Int32)))]))
    refine OGo.by_ (fun t k => XS.istore X1.here hx rfl (hb hby at_37) rfl (l' := #[.val (.int p1), .val (.int p2), .val (.int p3), .val (.int p4), .val (.int p5), .val (.ref la), .val (.ref mb), .val (.int (c8 + (1 : Int32))), .unset, .unset, .unset, .unset]) rfl k) ?_
    show OGo p e below _ (T1.setTop (mkF m 39 #[.val (.int p1), .val (.int p2), .val (.int p3), .val (.int p4), .val (.int p5), .val (.ref la), .val (.ref mb), .val (.int (c8 + (1 : Int32))), .unset, .unset, .unset, .unset] []))
    exact sg_k39 X1 hx hZ hw hby hml hown hnm hlk hret rfl N1 (Nat.le_trans Z0 K1.1) IQ1 (own_IL_keep IL2 K1 (own_nin2 far.2.2.2.2.1 far.2.2.1.symm) (own_nin2 far.2.2.2.2.2.symm far.2.2.2.1.symm)) far gs (by subst hc8; decide)
theorem pn_com_example_frigg_frigg_engine_IntListIsEmptyPinLaw : plainName "com/example/frigg/frigg/engine/IntListIsEmptyPinLaw" = true := by first | (simp [plainName, overriddenIn]; done) | decide +kernel
theorem ef_law (m : MethodId) (x0 : Int32) (x1 : Int32) (x2 : Int32) (x3 : Int32) (x4 : Int32) : entryFrame m #[(.int x0), (.int x1), (.int x2), (.int x3), (.int x4)] maxLocals = mkF m 0 #[.val (.int x0), .val (.int x1), .val (.int x2), .val (.int x3), .val (.int x4), .unset, .unset, .unset, .unset, .unset, .unset, .unset] [] := by first | (simp [entryFrame, mkF, argsToLocals, Value.category, maxLocals]; done) | rfl
def Q_law (Z : State) (p1 p2 p3 p4 p5 : Int32) (h0 : Heap) (n0 : Nat) (v : Option Value) (h : Heap) (L : List Loc) : Prop := v = some (.int 1) ∧ Fr n0 L
set_option maxRecDepth 65536 in
set_option maxHeartbeats 40000000 in
theorem rm_law (l : Launch) (Z : State) (a0 : Array Value) (hw : ∀ d ∈ tables_1, d.before a0 Z = true) (ws : List Jvm.Cond) (p1 p2 p3 p4 p5 : Int32) (h0 : Heap) (n0 : Nat) (Z0 : n0 ≤ h0.size)  :
    MetFree l x (head1 (Jvm.Cond.code x code maxLocals ret :: ws) room_1) (fun a_ U => a_ = #[(.int p1), (.int p2), (.int p3), (.int p4), (.int p5)] ∧ Z.Warmed39 U.vm ∧ U.heap = h0) (fun _ _ _ _ _ => True) (fun _ U o U' => ∃ v L, o = .returned v ∧ Q_law Z p1 p2 p3 p4 p5 h0 n0 v U'.heap L ∧ FrameEnd U o U' L room_1.cells room_1.slots) := by
  refine MetFree.of_bodySF (plainFor_of_name pn_com_example_frigg_frigg_engine_IntListIsEmptyPinLaw) hisR ?_
  intro p e s m args below meth c s₁ Bd hml0 hP hK
  obtain ⟨rfl, hZ, hh⟩ := hP
  have hx := Bd.exec
  have hby := Bd.bytes
  have hml : c.maxLocals = 12 := hml0
  have hown : s.vm.findClass "com/example/frigg/frigg/engine/IntListIsEmptyPinLaw" = some m.cls := findClass_of_methodNamed Bd.named
  have hnm := (name_of_methodNamed Bd.named Bd.method).1
  have X0 : Stand p l e room_1 s m #[(.int p1), (.int p2), (.int p3), (.int p4), (.int p5)] below meth c s₁ [] 0 0 := Stand.of_body Bd
  have e0 : s₁.heap = h0 := by rw [← hh, Bd.state]; rfl
  have N0 := Fr.nil n0
  have hlk := Bd.notSynchronized
  have hret := Bd.returns
  show OGo p e below (OEnd s (Q_law Z p1 p2 p3 p4 p5 h0 n0) room_1.cells room_1.slots) (s₁.setTop (entryFrame m #[(.int p1), (.int p2), (.int p3), (.int p4), (.int p5)] maxLocals))
  rw [ef_law]
  show OGo p e below _ (s₁.setTop (mkF m 0 #[.val (.int p1), .val (.int p2), .val (.int p3), .val (.int p4), .val (.int p5), .unset, .unset, .unset, .unset, .unset, .unset, .unset] []))
  obtain ⟨T1, h1, X1, e1, E1, A1, Dv1, -, st1⟩ := newO X0 hx hZ hown (hw _ (List.mem_of_getElem? (i := 0) rfl)) (hw _ (List.mem_of_getElem? (i := 1) rfl)) (hw _ (List.mem_of_getElem? (i := 2) rfl)) e0 (g := (mkF m 0 #[.val (.int p1), .val (.int p2), .val (.int p3), .val (.int p4), .val (.int p5), .unset, .unset, .unset, .unset, .unset, .unset, .unset] [])) rfl (hb hby at_0) (by decide) (by decide)
  obtain ⟨la, g_la⟩ : ∃ z, z = h0.size := ⟨_, rfl⟩
  rw [← g_la] at A1 Dv1 st1
  have A_la := A1
  have lt_la := own_lt A1.lt
  have F_elements_la : Fld Z h1 la "com/example/frigg/frigg/engine/IntList" "elements" "[I" .null := Dv1 (Or.inl (hw _ (List.mem_of_getElem? (i := 11) rfl))) (ty := (.array .int)) (by decide)
  have F_size_la : Fld Z h1 la "com/example/frigg/frigg/engine/IntList" "size" "I" (.int (0 : Int32)) := Dv1 (Or.inl (hw _ (List.mem_of_getElem? (i := 18) rfl))) (ty := .int) (by decide)
  refine OGo.by_ st1 ?_
  show OGo p e below _ (T1.setTop (mkF m 3 #[.val (.int p1), .val (.int p2), .val (.int p3), .val (.int p4), .val (.int p5), .unset, .unset, .unset, .unset, .unset, .unset, .unset] [(.ref la)]))
  refine OGo.by_ (fun t k => XS.dup X1.here hx rfl (hb hby at_3) rfl rfl k) ?_
  show OGo p e below _ (T1.setTop (mkF m 4 #[.val (.int p1), .val (.int p2), .val (.int p3), .val (.int p4), .val (.int p5), .unset, .unset, .unset, .unset, .unset, .unset, .unset] [(.ref la), (.ref la)]))
  have Z1 : n0 ≤ h1.size := Nat.le_trans Z0 E1.1
  obtain ⟨_, _, ⟨T2, L2, k2, n2⟩, -, X2, ⟨Lc2, hQ2, l2, y2, z2⟩, st2⟩ := X1.specialBack hx (y := (⟨"com/example/frigg/frigg/engine/IntList", "<init>", "()V"⟩ : MethodName)) rfl hown (mvT hZ (hw _ (List.mem_of_getElem? (i := 3) rfl))) (mvT hZ (hw _ (List.mem_of_getElem? (i := 4) rfl))) (mvT hZ (hw _ (List.mem_of_getElem? (i := 5) rfl))) (by decide) (backOf (W := 1) (rm_ini l Z a0 hw [] la h1 n0 Z1 A_la F_size_la F_elements_la (by omega)) hZ (hw _ (List.mem_of_getElem? (i := 5) rfl)) (hw _ (List.mem_of_getElem? (i := 2) rfl)) (by decide) (by decide)) (g := (mkF m 4 #[.val (.int p1), .val (.int p2), .val (.int p3), .val (.int p4), .val (.int p5), .unset, .unset, .unset, .unset, .unset, .unset, .unset] [(.ref la), (.ref la)])) rfl (by rw [hml]; rfl) (Steps.refl _) (a := la) (argsL := []) (rest := [(.ref la)]) (lenOf pd_ocV rfl) rfl (by show 2 * 0 + _ ≤ _; exact Nat.le_of_eq rfl) (hb hby at_4) (fun _ _ => ⟨rfl, e1, (by decide : 1 + 1 ≤ _), (by decide : 2 + 16 ≤ _)⟩)
  dsimp only [Pt.U, Pt.locs, Pt.cells, Pt.slots] at X2 l2 y2 z2 st2 hQ2
  subst l2 y2 z2
  obtain ⟨rfl, Nq2, K2, b, gb, IQ2⟩ := hQ2
  have N2 := Fr.app N0 Nq2
  refine OGo.by_ (fun t k => st2.trans k) ?_
  show OGo p e below _ (T2.setTop (mkF m 7 #[.val (.int p1), .val (.int p2), .val (.int p3), .val (.int p4), .val (.int p5), .unset, .unset, .unset, .unset, .unset, .unset, .unset] [(.ref la)]))
  have Z2 : n0 ≤ T2.heap.size := Nat.le_trans Z1 K2.1
  have l1 := own_IL_lt IQ2
  refine OGo.by_ (fun t k => XS.astore X2.here hx rfl (hb hby at_7) rfl rfl (l' := #[.val (.int p1), .val (.int p2), .val (.int p3), .val (.int p4), .val (.int p5), .val (.ref la), .unset, .unset, .unset, .unset, .unset, .unset]) rfl k) ?_
  show OGo p e below _ (T2.setTop (mkF m 9 #[.val (.int p1), .val (.int p2), .val (.int p3), .val (.int p4), .val (.int p5), .val (.ref la), .unset, .unset, .unset, .unset, .unset, .unset] []))
  obtain ⟨T3, h3, X3, e3, E3, A3, Dv3, -, st3⟩ := newO X2 hx hZ hown (hw _ (List.mem_of_getElem? (i := 0) rfl)) (hw _ (List.mem_of_getElem? (i := 1) rfl)) (hw _ (List.mem_of_getElem? (i := 2) rfl)) rfl (g := (mkF m 9 #[.val (.int p1), .val (.int p2), .val (.int p3), .val (.int p4), .val (.int p5), .val (.ref la), .unset, .unset, .unset, .unset, .unset, .unset] [])) rfl (hb hby at_9) (by decide) (by decide)
  obtain ⟨mb, g_mb⟩ : ∃ z, z = T2.heap.size := ⟨_, rfl⟩
  rw [← g_mb] at A3 Dv3 st3
  have A_mb := A3
  have lt_mb := own_lt A3.lt
  have F_elements_mb : Fld Z h3 mb "com/example/frigg/frigg/engine/IntList" "elements" "[I" .null := Dv3 (Or.inl (hw _ (List.mem_of_getElem? (i := 11) rfl))) (ty := (.array .int)) (by decide)
  have F_size_mb : Fld Z h3 mb "com/example/frigg/frigg/engine/IntList" "size" "I" (.int (0 : Int32)) := Dv3 (Or.inl (hw _ (List.mem_of_getElem? (i := 18) rfl))) (ty := .int) (by decide)
  refine OGo.by_ st3 ?_
  show OGo p e below _ (T3.setTop (mkF m 12 #[.val (.int p1), .val (.int p2), .val (.int p3), .val (.int p4), .val (.int p5), .val (.ref la), .unset, .unset, .unset, .unset, .unset, .unset] [(.ref mb)]))
  refine OGo.by_ (fun t k => XS.dup X3.here hx rfl (hb hby at_12) rfl rfl k) ?_
  show OGo p e below _ (T3.setTop (mkF m 13 #[.val (.int p1), .val (.int p2), .val (.int p3), .val (.int p4), .val (.int p5), .val (.ref la), .unset, .unset, .unset, .unset, .unset, .unset] [(.ref mb), (.ref mb)]))
  have Z3 : n0 ≤ h3.size := Nat.le_trans Z2 E3.1
  have IL_1 := own_IL_ext IQ2 E3
  obtain ⟨_, _, ⟨T4, L4, k4, n4⟩, -, X4, ⟨Lc4, hQ4, l4, y4, z4⟩, st4⟩ := X3.specialBack hx (y := (⟨"com/example/frigg/frigg/engine/IntList", "<init>", "()V"⟩ : MethodName)) rfl hown (mvT hZ (hw _ (List.mem_of_getElem? (i := 3) rfl))) (mvT hZ (hw _ (List.mem_of_getElem? (i := 4) rfl))) (mvT hZ (hw _ (List.mem_of_getElem? (i := 5) rfl))) (by decide) (backOf (W := 1) (rm_ini l Z a0 hw [] mb h3 n0 Z3 A_mb F_size_mb F_elements_mb (by omega)) hZ (hw _ (List.mem_of_getElem? (i := 5) rfl)) (hw _ (List.mem_of_getElem? (i := 2) rfl)) (by decide) (by decide)) (g := (mkF m 13 #[.val (.int p1), .val (.int p2), .val (.int p3), .val (.int p4), .val (.int p5), .val (.ref la), .unset, .unset, .unset, .unset, .unset, .unset] [(.ref mb), (.ref mb)])) rfl (by rw [hml]; rfl) (Steps.refl _) (a := mb) (argsL := []) (rest := [(.ref mb)]) (lenOf pd_ocV rfl) rfl (by show 2 * 0 + _ ≤ _; exact Nat.le_of_eq rfl) (hb hby at_13) (fun _ _ => ⟨rfl, e3, (by decide : 2 + 1 + 1 ≤ _), (by decide : 18 + 2 + 16 ≤ _)⟩)
  dsimp only [Pt.U, Pt.locs, Pt.cells, Pt.slots] at X4 l4 y4 z4 st4 hQ4
  subst l4 y4 z4
  obtain ⟨rfl, Nq4, K4, b2, gb2, IQ4⟩ := hQ4
  have N4 := Fr.app N2 Nq4
  refine OGo.by_ (fun t k => st4.trans k) ?_
  show OGo p e below _ (T4.setTop (mkF m 16 #[.val (.int p1), .val (.int p2), .val (.int p3), .val (.int p4), .val (.int p5), .val (.ref la), .unset, .unset, .unset, .unset, .unset, .unset] [(.ref mb)]))
  have l2 := own_IL_lt IL_1
  have l3 := own_IL_lt IQ4
  have hle := E3.1
  have hk2 := K2.1
  refine OGo.by_ (fun t k => XS.astore X4.here hx rfl (hb hby at_16) rfl rfl (l' := #[.val (.int p1), .val (.int p2), .val (.int p3), .val (.int p4), .val (.int p5), .val (.ref la), .val (.ref mb), .unset, .unset, .unset, .unset, .unset]) rfl k) ?_
  show OGo p e below _ (T4.setTop (mkF m 18 #[.val (.int p1), .val (.int p2), .val (.int p3), .val (.int p4), .val (.int p5), .val (.ref la), .val (.ref mb), .unset, .unset, .unset, .unset, .unset] []))
  refine OGo.by_ (fun t k => XS.iconst X4.here hx rfl (hb hby at_18) k) ?_
  show OGo p e below _ (T4.setTop (mkF m 19 #[.val (.int p1), .val (.int p2), .val (.int p3), .val (.int p4), .val (.int p5), .val (.ref la), .val (.ref mb), .unset, .unset, .unset, .unset, .unset] [(.int (0 : Int32))]))
  refine OGo.by_ (fun t k => XS.istore X4.here hx rfl (hb hby at_19) rfl (l' := #[.val (.int p1), .val (.int p2), .val (.int p3), .val (.int p4), .val (.int p5), .val (.ref la), .val (.ref mb), .val (.int (0 : Int32)), .unset, .unset, .unset, .unset]) rfl k) ?_
  show OGo p e below _ (T4.setTop (mkF m 21 #[.val (.int p1), .val (.int p2), .val (.int p3), .val (.int p4), .val (.int p5), .val (.ref la), .val (.ref mb), .val (.int (0 : Int32)), .unset, .unset, .unset, .unset] []))
  exact sg_k21 X4 hx hZ hw hby hml hown hnm hlk hret rfl N4 (Nat.le_trans Z3 K4.1) (own_IL_keep IL_1 K4 (own_nin1 (own_ne (by omega))) (own_nin1 (own_ne (by omega)))) IQ4 ⟨own_ne (by omega), own_ne (by omega), own_ne (by omega), own_ne (by omega), own_ne' (by omega), own_ne (by omega)⟩ (by omega) rfl
set_option maxRecDepth 65536 in
set_option maxHeartbeats 40000000 in
theorem comes_1 {Post : Tables → Env → Array Value → State → Outcome → State → Prop} (hpost : ∀ tb e args s v u, (limb_1_1.after args s (.returned v) u = true ∧ limb_1_2.after args s (.returned v) u = true ∧ True) → FrameEnd s (.returned v) u (Jvm.fieldLocs frame_1_writes args s ++ Jvm.arrayLocs frame_1_arrays args s ++ Jvm.staticLocs frame_1_statics s) 16 192 → Post tb e args s (.returned v) u) :
    ArmFor flags0 classFile x code maxLocals ret World_1 tables_1 room_1 Calls_1 rest_1 Pre_1 Post := by
  intro l hfl _ _ p e ha hc hk s m args below hf hA hF happ hP
  obtain ⟨hcalls, hrest, hpre⟩ := hP
  obtain ⟨-, -, -, hnamed, -, -, -, hat⟩ := (Spec.applies_iff hf).mp happ
  obtain ⟨hg, hn⟩ := and_e (Cond.before_iff.mp (show (Jvm.Cond.and given_1 narrow_1).before args s = true from hpre))
  obtain ⟨hcount, hg0⟩ := and_e hg
  obtain ⟨ga0, hg1⟩ := and_e hg0
  obtain ⟨ga1, hg2⟩ := and_e hg1
  obtain ⟨ga2, hg3⟩ := and_e hg2
  obtain ⟨ga3, hg4⟩ := and_e hg3
  have ga4 := hg4
  obtain ⟨w0, w1, w2, w3, w4, rfl⟩ : ∃ w0 w1 w2 w3 w4 : Value, args = #[w0, w1, w2, w3, w4] := by
    have hs : args.size = 5 := by simpa [Cond.value, given_1] using hcount
    obtain ⟨L⟩ := args
    match L, hs with
    | [w0, w1, w2, w3, w4], _ => exact ⟨w0, w1, w2, w3, w4, rfl⟩
  have hw := fun d (hd : d ∈ tables_1) => atoms_spec (ws := Jvm.Cond.code x code maxLocals ret :: tables_1) hat d (List.mem_cons_of_mem _ hd)
  have hfit : Fit s := fun {y c} hc i hi => by
    obtain ⟨ha, rfl⟩ := Array.getElem?_eq_some_iff.mp hc
    have q := List.all_eq_true.mp ((Array.all_eq_true_iff_forall_mem.mp hF) _ (Array.getElem_mem ha)) i (List.mem_range.mpr hi)
    simpa [Array.getElem?_eq_getElem hi] using q
  obtain ⟨i0, ei0⟩ := is_v ga0
  obtain rfl : w0 = (.int i0) := Option.some.inj ei0
  obtain ⟨i1, ei1⟩ := is_v ga1
  obtain rfl : w1 = (.int i1) := Option.some.inj ei1
  obtain ⟨i2, ei2⟩ := is_v ga2
  obtain rfl : w2 = (.int i2) := Option.some.inj ei2
  obtain ⟨i3, ei3⟩ := is_v ga3
  obtain rfl : w3 = (.int i3) := Option.some.inj ei3
  obtain ⟨i4, ei4⟩ := is_v ga4
  obtain rfl : w4 = (.int i4) := Option.some.inj ei4
  obtain ⟨n, o, h1, h2, h3, _, L, rfl, ⟨rfl, N⟩, hq⟩ := rm_law l s _ hw tables_1 i0 i1 i2 i3 i4 s.heap s.heap.size (Nat.le_refl _) p e ha hc hk s m _ below hf ((Spec.applies_iff_loose hf).mp happ).1 ⟨rfl, State.Warmed39.refl s, rfl⟩ trivial
  refine ⟨n, _, h1, h2, h3, hpost _ _ _ _ _ _ ⟨Cond.after_iff.mpr rfl, Cond.after_iff.mpr (eq_i res_at (Term.int_eval (1)) rfl), trivial⟩ ⟨hq.1, hq.2.1, (hq.2.2.sift fun y hy => Or.inr (N y hy)).mono (by decide) (by decide)⟩⟩
theorem main_1_1 : Claimed_1_1 := comes_1 fun _ _ _ _ _ _ h hF => ⟨h.1, hF⟩
theorem main_1_2 : Claimed_1_2 := comes_1 fun _ _ _ _ _ _ h hF => ⟨h.2.1, hF⟩
end Jvm.Pilot.@@N@@
namespace Jvm.Pilot.@@N@@
open Jvm Jvm.ClassFile Sem Op Lib Jvm.Free Jvm.Stand Jvm.Pilot.@@N@@.Jvm.D
/-! MADE BY PROGRAM (witnessworld.py) out of the Statement's table words and the real class files: 10 classes; the members and pool entries that the words name. The judged class is class 1, her method 1. -/
namespace start1
open Jvm.ClassFile
def u (s : String) : CpInfo := .utf8 (stringToUtf16 s)
/-- a pool by its gaps: so many unusable entries, then the entry; so many at the end -/
def gap : Nat → List CpInfo → List CpInfo
  | 0, r => r
  | n + 1, r => .unusable :: gap n r
def poolList (es : List (Nat × CpInfo)) (last : Nat) : List CpInfo := es.foldr (fun e r => gap e.1 (e.2 :: r)) (gap last [])
def pool (es : List (Nat × CpInfo)) (last : Nat) : Array CpInfo := ⟨poolList es last⟩
def fileOf (pool : Array CpInfo) (this : Nat) (attrs : Array Attribute := #[]) (ms : Array MethodInfo := #[]) (fl : Nat := 33) (sup : Nat := 0) (ifs : Array Nat := #[]) (fds : Array FieldInfo := #[]) : ClassFile where
  minorVersion := 0
  majorVersion := 65
  constantPool := pool
  accessFlags := fl
  thisClass := this
  superClass := sup
  interfaces := ifs
  fields := fds
  methods := ms
  attributes := attrs
def plain (name : String) (sup : Option ClassId) : Class where
  name := name
  kind := .ordinary
  loader := none
  accessFlags := 33
  super := sup
  interfaces := #[]
  cf := none
  fields := #[]
  methods := #[]
  instanceTypes := #[]
  staticTypes := #[]
  resolved := #[]
  callSites := []
  init := .initialized
  statics := none
  mirror := none

def pool0 : Array CpInfo := pool [(5, u "<init>"), (0, u "()V"), (1, .class_ 10), (1, u "java/lang/Object")] 113

def k0c0 : Code := { maxStack := 0, maxLocals := 1, code := object_method_1_code, exceptionTable := #[], attributes := #[] }
def k0m0 : Method := { name := "<init>", desc := "()V", sig := { parameters := [], returnType := none }, accessFlags := 1, code := some k0c0 }
/-- java/lang/Object -/
def k0 : Class := { plain "java/lang/Object" none with
  accessFlags := 33
  interfaces := #[]
  cf := some (fileOf pool0 8 #[] #[{ accessFlags := 1, nameIndex := 5, descriptorIndex := 6, attributes := #[] }] 33 0 #[] #[])
  fields := #[]
  methods := #[k0m0]
  instanceTypes := #[]
  staticTypes := #[]
  resolved := Array.replicate 124 none
  statics := none }

def pool1 : Array CpInfo := pool [(2, .class_ 4), (0, .nameAndType 5 6), (0, u "java/lang/Object"), (0, u "<init>"), (0, u "()V"), (0, .class_ 8), (0, u "com/example/frigg/frigg/engine/IntList"), (0, .methodref 7 3), (0, .methodref 7 11), (0, .nameAndType 12 13), (0, u "add"), (0, u "(I)V"), (0, .methodref 7 15), (0, .nameAndType 16 17), (0, u "isEmpty"), (0, u "()Z"), (0, .methodref 7 19), (0, .nameAndType 20 21), (0, u "addAll"), (0, u "(Lcom/example/frigg/frigg/engine/IntList;)V"), (0, .methodref 7 23), (0, .nameAndType 24 6), (0, u "clear"), (0, .class_ 26), (0, u "com/example/frigg/frigg/engine/IntListIsEmptyPinLaw"), (2, u "law"), (0, u "(IIIII)Z")] 3

def k1m0 : Method := { name := "<init>", desc := "()V", sig := { parameters := [], returnType := none }, accessFlags := 1, code := none }
def k1c1 : Code := { maxStack := 2, maxLocals := 12, code := code, exceptionTable := #[], attributes := #[] }
def k1m1 : Method := { name := "law", desc := "(IIIII)Z", sig := { parameters := [.int, .int, .int, .int, .int], returnType := some .boolean }, accessFlags := 9, code := some k1c1 }
/-- com/example/frigg/frigg/engine/IntListIsEmptyPinLaw -/
def k1 : Class := { plain "com/example/frigg/frigg/engine/IntListIsEmptyPinLaw" (some 0) with
  accessFlags := 49
  interfaces := #[]
  cf := some (fileOf pool1 25 #[] #[{ accessFlags := 1, nameIndex := 5, descriptorIndex := 6, attributes := #[] }, { accessFlags := 9, nameIndex := 29, descriptorIndex := 30, attributes := #[] }] 49 2 #[] #[])
  fields := #[]
  methods := #[k1m0, k1m1]
  instanceTypes := #[]
  staticTypes := #[]
  resolved := Array.replicate 34 none
  statics := none }

def pool2 : Array CpInfo := pool [(1, .methodref 2 3), (0, .class_ 4), (0, .nameAndType 5 6), (0, u "java/lang/Object"), (0, u "<init>"), (0, u "()V"), (0, .fieldref 8 9), (0, .class_ 10), (0, .nameAndType 11 12), (0, u "com/example/frigg/frigg/engine/IntList"), (0, u "elements"), (0, u "[I"), (0, .fieldref 8 14), (0, .nameAndType 15 16), (0, u "size"), (0, u "I"), (12, .methodref 30 31), (0, .class_ 32), (0, .nameAndType 33 34), (0, u "java/lang/System"), (0, u "arraycopy"), (0, u "(Ljava/lang/Object;ILjava/lang/Object;II)V"), (11, u "add"), (0, u "(I)V"), (1, u "addAll"), (0, u "(Lcom/example/frigg/frigg/engine/IntList;)V"), (3, u "isEmpty"), (0, u "()Z"), (0, u "clear")] 19

def k2c0 : Code := { maxStack := 2, maxLocals := 1, code := prog_17_method_1_code, exceptionTable := #[], attributes := #[] }
def k2m0 : Method := { name := "<init>", desc := "()V", sig := { parameters := [], returnType := none }, accessFlags := 0, code := some k2c0 }
def k2c1 : Code := { maxStack := 4, maxLocals := 2, code := prog_17_method_2_code, exceptionTable := #[], attributes := #[] }
def k2m1 : Method := { name := "add", desc := "(I)V", sig := { parameters := [.int], returnType := none }, accessFlags := 0, code := some k2c1 }
def k2c2 : Code := { maxStack := 5, maxLocals := 2, code := prog_17_method_3_code, exceptionTable := #[], attributes := #[] }
def k2m2 : Method := { name := "addAll", desc := "(Lcom/example/frigg/frigg/engine/IntList;)V", sig := { parameters := [(.object "com/example/frigg/frigg/engine/IntList")], returnType := none }, accessFlags := 0, code := some k2c2 }
def k2c3 : Code := { maxStack := 1, maxLocals := 1, code := prog_17_method_6_code, exceptionTable := #[], attributes := #[] }
def k2m3 : Method := { name := "isEmpty", desc := "()Z", sig := { parameters := [], returnType := some .boolean }, accessFlags := 0, code := some k2c3 }
def k2c4 : Code := { maxStack := 2, maxLocals := 1, code := prog_17_method_7_code, exceptionTable := #[], attributes := #[] }
def k2m4 : Method := { name := "clear", desc := "()V", sig := { parameters := [], returnType := none }, accessFlags := 0, code := some k2c4 }
/-- com/example/frigg/frigg/engine/IntList -/
def k2 : Class := { plain "com/example/frigg/frigg/engine/IntList" (some 0) with
  accessFlags := 48
  interfaces := #[]
  cf := some (fileOf pool2 8 #[] #[{ accessFlags := 0, nameIndex := 5, descriptorIndex := 6, attributes := #[] }, { accessFlags := 0, nameIndex := 46, descriptorIndex := 47, attributes := #[] }, { accessFlags := 0, nameIndex := 49, descriptorIndex := 50, attributes := #[] }, { accessFlags := 0, nameIndex := 54, descriptorIndex := 55, attributes := #[] }, { accessFlags := 0, nameIndex := 56, descriptorIndex := 6, attributes := #[] }] 48 2 #[] #[{ accessFlags := 2, nameIndex := 11, descriptorIndex := 12, attributes := #[] }, { accessFlags := 2, nameIndex := 15, descriptorIndex := 16, attributes := #[] }])
  fields := #[{ name := "elements", type := (.array .int), accessFlags := 2, slot := 0, constantValue := 0 }, { name := "size", type := .int, accessFlags := 2, slot := 1, constantValue := 0 }]
  methods := #[k2m0, k2m1, k2m2, k2m3, k2m4]
  instanceTypes := #[(.array .int), .int]
  staticTypes := #[]
  resolved := Array.replicate 76 none
  statics := none }

def pool3 : Array CpInfo := pool [(2, .class_ 4), (1, u "java/lang/Object"), (0, u "<init>"), (0, u "()V"), (1, .class_ 10), (1, u "java/lang/System"), (0, u "allowSecurityManager"), (0, u "I"), (16, u "cons"), (0, u "Ljava/io/Console;"), (77, .class_ 110), (1, u "java/lang/System$CallersHolder"), (43, u "initialErrStream"), (0, u "Ljava/io/PrintStream;"), (19, u "security"), (0, u "Ljava/lang/SecurityManager;"), (31, .class_ 209), (0, u "java/lang/System$1"), (7, u "props"), (0, u "Ljava/util/Properties;"), (2, u "lineSeparator"), (0, u "Ljava/lang/String;"), (96, .class_ 321), (1, u "java/lang/System$LoggerFinder"), (5, .class_ 328), (0, u "java/lang/System$Logger"), (67, u "err"), (2, u "out"), (91, u "notSupportedJnuEncoding"), (15, u "in"), (17, u "initialIn"), (0, u "Ljava/io/InputStream;"), (35, u "bootLayer"), (0, u "Ljava/lang/ModuleLayer;"), (99, .class_ 664), (0, u "java/lang/System$2"), (9, u "NEVER"), (2, u "MAYBE"), (49, u "arraycopy"), (0, u "(Ljava/lang/Object;ILjava/lang/Object;II)V"), (72, .class_ 802), (0, u "java/lang/System$Logger$Level")] 31

def k3m0 : Method := { name := "<init>", desc := "()V", sig := { parameters := [], returnType := none }, accessFlags := 2, code := none }
def k3m1 : Method := { name := "arraycopy", desc := "(Ljava/lang/Object;ILjava/lang/Object;II)V", sig := { parameters := [(.object "java/lang/Object"), .int, (.object "java/lang/Object"), .int, .int], returnType := none }, accessFlags := 265, code := none }
/-- java/lang/System -/
def k3 : Class := { plain "java/lang/System" (some 0) with
  accessFlags := 49
  interfaces := #[]
  cf := some (fileOf pool3 8 #[.nestMembers #[319, 327, 801, 108, 663, 208]] #[{ accessFlags := 2, nameIndex := 5, descriptorIndex := 6, attributes := #[] }, { accessFlags := 265, nameIndex := 727, descriptorIndex := 728, attributes := #[] }] 49 2 #[] #[{ accessFlags := 25, nameIndex := 507, descriptorIndex := 526, attributes := #[] }, { accessFlags := 25, nameIndex := 399, descriptorIndex := 155, attributes := #[] }, { accessFlags := 25, nameIndex := 396, descriptorIndex := 155, attributes := #[] }, { accessFlags := 10, nameIndex := 525, descriptorIndex := 526, attributes := #[] }, { accessFlags := 26, nameIndex := 674, descriptorIndex := 12, attributes := #[] }, { accessFlags := 26, nameIndex := 677, descriptorIndex := 12, attributes := #[] }, { accessFlags := 10, nameIndex := 11, descriptorIndex := 12, attributes := #[] }, { accessFlags := 74, nameIndex := 175, descriptorIndex := 176, attributes := #[] }, { accessFlags := 10, nameIndex := 491, descriptorIndex := 222, attributes := #[] }, { accessFlags := 74, nameIndex := 29, descriptorIndex := 30, attributes := #[] }, { accessFlags := 74, nameIndex := 154, descriptorIndex := 155, attributes := #[] }, { accessFlags := 10, nameIndex := 217, descriptorIndex := 218, attributes := #[] }, { accessFlags := 10, nameIndex := 221, descriptorIndex := 222, attributes := #[] }, { accessFlags := 8, nameIndex := 562, descriptorIndex := 563, attributes := #[] }])
  fields := #[{ name := "in", type := (.object "java/io/InputStream"), accessFlags := 25, slot := 0, constantValue := 0 }, { name := "out", type := (.object "java/io/PrintStream"), accessFlags := 25, slot := 1, constantValue := 0 }, { name := "err", type := (.object "java/io/PrintStream"), accessFlags := 25, slot := 2, constantValue := 0 }, { name := "initialIn", type := (.object "java/io/InputStream"), accessFlags := 10, slot := 3, constantValue := 0 }, { name := "NEVER", type := .int, accessFlags := 26, slot := 4, constantValue := 0 }, { name := "MAYBE", type := .int, accessFlags := 26, slot := 5, constantValue := 0 }, { name := "allowSecurityManager", type := .int, accessFlags := 10, slot := 6, constantValue := 0 }, { name := "security", type := (.object "java/lang/SecurityManager"), accessFlags := 74, slot := 7, constantValue := 0 }, { name := "notSupportedJnuEncoding", type := (.object "java/lang/String"), accessFlags := 10, slot := 8, constantValue := 0 }, { name := "cons", type := (.object "java/io/Console"), accessFlags := 74, slot := 9, constantValue := 0 }, { name := "initialErrStream", type := (.object "java/io/PrintStream"), accessFlags := 74, slot := 10, constantValue := 0 }, { name := "props", type := (.object "java/util/Properties"), accessFlags := 10, slot := 11, constantValue := 0 }, { name := "lineSeparator", type := (.object "java/lang/String"), accessFlags := 10, slot := 12, constantValue := 0 }, { name := "bootLayer", type := (.object "java/lang/ModuleLayer"), accessFlags := 8, slot := 13, constantValue := 0 }]
  methods := #[k3m0, k3m1]
  instanceTypes := #[]
  staticTypes := #[(.object "java/io/InputStream"), (.object "java/io/PrintStream"), (.object "java/io/PrintStream"), (.object "java/io/InputStream"), .int, .int, .int, (.object "java/lang/SecurityManager"), (.object "java/lang/String"), (.object "java/io/Console"), (.object "java/io/PrintStream"), (.object "java/util/Properties"), (.object "java/lang/String"), (.object "java/lang/ModuleLayer")]
  resolved := Array.replicate 834 none
  statics := none }

def pool4 : Array CpInfo := pool [(1, u "java/lang/Cloneable"), (0, .class_ 1), (0, u "java/lang/Object"), (0, .class_ 3)] 3

/-- java/lang/Cloneable -/
def k4 : Class := { plain "java/lang/Cloneable" (some 0) with
  accessFlags := 1537
  interfaces := #[]
  cf := some (fileOf pool4 2 #[] #[] 1537 4 #[] #[])
  fields := #[]
  methods := #[]
  instanceTypes := #[]
  staticTypes := #[]
  resolved := Array.replicate 8 none
  statics := none }

def pool5 : Array CpInfo := pool [(1, u "java/io/Serializable"), (0, .class_ 1), (0, u "java/lang/Object"), (0, .class_ 3)] 3

/-- java/io/Serializable -/
def k5 : Class := { plain "java/io/Serializable" (some 0) with
  accessFlags := 1537
  interfaces := #[]
  cf := some (fileOf pool5 2 #[] #[] 1537 4 #[] #[])
  fields := #[]
  methods := #[]
  instanceTypes := #[]
  staticTypes := #[]
  resolved := Array.replicate 8 none
  statics := none }

/-- the primitive byte -/
def k6 : Class := { plain "byte" none with kind := .primitive 'B', accessFlags := 0x411 }
/-- [B -/
def k7 : Class := { plain "[B" (some 0) with kind := .array 6 .byte, interfaces := #[4, 5], accessFlags := 1041 }

/-- the primitive int -/
def k8 : Class := { plain "int" none with kind := .primitive 'I', accessFlags := 0x411 }
/-- [I -/
def k9 : Class := { plain "[I" (some 0) with kind := .array 8 .int, interfaces := #[4, 5], accessFlags := 1041 }

def heap : Heap := #[]
def classes : Array Class := #[k0, k1, k2, k3, k4, k5, k6, k7, k8, k9]
def interned : List (Array UInt16 × Addr) := []
def slotsUsed : Nat := 0
def theMethod : MethodId := ⟨1, 1⟩
def args0 : Array Value := #[.int 3, .int 1, .int 7, .int 9, .int 1]
def aboutOver (below : List Frame) : State where
  vm := { classes := classes, interned := interned.toArray }
  heap := heap
  slotsUsed := slotsUsed
  threads := #[{ frames := .invoking theMethod args0 :: below }]
def below0 : List Frame := [.native { method := ⟨0, 0⟩, args := #[] }]
def about1 : State := aboutOver below0
def p0 : Program := .bare "" "" ""
def e0 : Env := launch0.env 0 0 0
theorem w_frames : about1.frames = Frame.invoking theMethod args0 :: below0 := rfl
set_option maxRecDepth 65536 in
theorem w_args : argsFit about1.vm theMethod args0 = true := by decide +kernel
set_option maxRecDepth 65536 in
theorem w_heap : heapFits about1 = true := by decide +kernel
set_option maxRecDepth 65536 in
theorem w_runnable : about1.curStatus? = some .runnable := by decide +kernel
set_option maxRecDepth 65536 in
theorem w_alone : about1.alone = true := by decide +kernel
set_option maxRecDepth 65536 in
theorem w_named : about1.methodNamed? x = some theMethod := by decide +kernel
set_option maxRecDepth 65536 in
theorem w_hears : about1.hears theMethod below0 = true := by decide +kernel
set_option maxRecDepth 65536 in
theorem w_ripe : about1.ripe theMethod args0 below0 = true := by decide +kernel
theorem w_running : about1.status = .running := rfl
set_option maxRecDepth 65536 in
theorem w_room : about1.hasRoom e0.platform room_1 = true :=
  launch0.hasRoom_least _ room_1 (by decide +kernel) (by decide +kernel) (by decide +kernel) (by decide +kernel) (by decide +kernel) (by decide +kernel)
theorem allAtoms_all (ts : List Jvm.Cond) (a : Array Jvm.Value) (st : Jvm.State) : (allAtoms ts).before a st = ts.all (fun c => c.before a st) := by
  induction ts with
  | nil => rfl
  | cons c t ih =>
    show (Jvm.Cond.and c (allAtoms t)).before a st = _
    rw [Jvm.Cond.before_and, ih, List.all_cons]
def words1 : List Jvm.Cond := Jvm.Cond.code x code maxLocals ret :: tables_1
/-- a 'code' word, met by the world's own term for the bytes: nothing is compared byte by byte -/
theorem code_word {y : MethodName} {bytes : ByteArray} {mx : Nat} {rt : Option FieldType} {a : Array Value} {s : State} {m : MethodId} {meth : Method} {c : Code} (h1 : s.methodNamed? y = some m) (h2 : s.vm.method? m = some meth) (h3 : meth.code = some c) (h4 : c.code = bytes)
    (h5 : (c.maxLocals == mx && c.exceptionTable.isEmpty && decide (c.maxStack ≤ mostOperands) && decide (meth.sig.returnType = rt) && !meth.locks && decide (parseMethodDescriptor y.desc = some meth.sig)) = true) : (Jvm.Cond.code y bytes mx rt).before a s = true := by
  simp only [Bool.and_eq_true, beq_iff_eq, Bool.not_eq_true', decide_eq_true_eq] at h5
  obtain ⟨⟨⟨⟨⟨g1, g2⟩, g3⟩, g4⟩, g5⟩, g6⟩ := h5
  simp [Cond.before, Cond.holds, Cond.value, h1, h2, h3, h4, g1, g2, g3, g4, g5, g6]
def isCode : Jvm.Cond → Bool
  | .code _ _ _ _ => true
  | _ => false
theorem all_split {L : List Jvm.Cond} {P : Jvm.Cond → Bool} (h1 : L.all (fun c => isCode c || P c) = true) (h2 : ∀ c ∈ L.filter isCode, P c = true) : L.all P = true := by
  refine List.all_eq_true.mpr fun c hc => ?_
  have h := List.all_eq_true.mp h1 c hc
  rcases Bool.eq_false_or_eq_true (isCode c) with hi | hi
  · exact h2 c (List.mem_filter.mpr ⟨hc, hi⟩)
  · simpa [hi] using h
set_option maxRecDepth 65536 in
theorem w_c0 : (Jvm.Cond.code x code maxLocals ret).before args0 about1 = true := code_word (m := ⟨1, 1⟩) (meth := k1m1) (c := k1c1) (by decide +kernel) rfl rfl rfl (by decide +kernel)
set_option maxRecDepth 65536 in
theorem w_c1 : (Jvm.Cond.code ({ cls := "com/example/frigg/frigg/engine/IntList", name := "<init>", desc := "()V" } : Jvm.MethodName) prog_17_method_1_code (1 : Nat) (Option.none : Option Jvm.ClassFile.FieldType)).before args0 about1 = true := code_word (m := ⟨2, 0⟩) (meth := k2m0) (c := k2c0) (by decide +kernel) rfl rfl rfl (by decide +kernel)
set_option maxRecDepth 65536 in
theorem w_c2 : (Jvm.Cond.code ({ cls := "java/lang/Object", name := "<init>", desc := "()V" } : Jvm.MethodName) object_method_1_code (1 : Nat) (Option.none : Option Jvm.ClassFile.FieldType)).before args0 about1 = true := code_word (m := ⟨0, 0⟩) (meth := k0m0) (c := k0c0) (by decide +kernel) rfl rfl rfl (by decide +kernel)
set_option maxRecDepth 65536 in
theorem w_c3 : (Jvm.Cond.code ({ cls := "com/example/frigg/frigg/engine/IntList", name := "add", desc := "(I)V" } : Jvm.MethodName) prog_17_method_2_code (2 : Nat) (Option.none : Option Jvm.ClassFile.FieldType)).before args0 about1 = true := code_word (m := ⟨2, 1⟩) (meth := k2m1) (c := k2c1) (by decide +kernel) rfl rfl rfl (by decide +kernel)
set_option maxRecDepth 65536 in
theorem w_c4 : (Jvm.Cond.code ({ cls := "com/example/frigg/frigg/engine/IntList", name := "isEmpty", desc := "()Z" } : Jvm.MethodName) prog_17_method_6_code (1 : Nat) (Option.some Jvm.ClassFile.FieldType.boolean)).before args0 about1 = true := code_word (m := ⟨2, 3⟩) (meth := k2m3) (c := k2c3) (by decide +kernel) rfl rfl rfl (by decide +kernel)
set_option maxRecDepth 65536 in
theorem w_c5 : (Jvm.Cond.code ({ cls := "com/example/frigg/frigg/engine/IntList", name := "addAll", desc := "(Lcom/example/frigg/frigg/engine/IntList;)V" } : Jvm.MethodName) prog_17_method_3_code (2 : Nat) (Option.none : Option Jvm.ClassFile.FieldType)).before args0 about1 = true := code_word (m := ⟨2, 2⟩) (meth := k2m2) (c := k2c2) (by decide +kernel) rfl rfl rfl (by decide +kernel)
set_option maxRecDepth 65536 in
theorem w_c6 : (Jvm.Cond.code ({ cls := "com/example/frigg/frigg/engine/IntList", name := "clear", desc := "()V" } : Jvm.MethodName) prog_17_method_7_code (1 : Nat) (Option.none : Option Jvm.ClassFile.FieldType)).before args0 about1 = true := code_word (m := ⟨2, 4⟩) (meth := k2m4) (c := k2c4) (by decide +kernel) rfl rfl rfl (by decide +kernel)
def codes1 : List Jvm.Cond := [Jvm.Cond.code x code maxLocals ret, Jvm.Cond.code ({ cls := "com/example/frigg/frigg/engine/IntList", name := "<init>", desc := "()V" } : Jvm.MethodName) prog_17_method_1_code (1 : Nat) (Option.none : Option Jvm.ClassFile.FieldType), Jvm.Cond.code ({ cls := "java/lang/Object", name := "<init>", desc := "()V" } : Jvm.MethodName) object_method_1_code (1 : Nat) (Option.none : Option Jvm.ClassFile.FieldType), Jvm.Cond.code ({ cls := "com/example/frigg/frigg/engine/IntList", name := "add", desc := "(I)V" } : Jvm.MethodName) prog_17_method_2_code (2 : Nat) (Option.none : Option Jvm.ClassFile.FieldType), Jvm.Cond.code ({ cls := "com/example/frigg/frigg/engine/IntList", name := "isEmpty", desc := "()Z" } : Jvm.MethodName) prog_17_method_6_code (1 : Nat) (Option.some Jvm.ClassFile.FieldType.boolean), Jvm.Cond.code ({ cls := "com/example/frigg/frigg/engine/IntList", name := "addAll", desc := "(Lcom/example/frigg/frigg/engine/IntList;)V" } : Jvm.MethodName) prog_17_method_3_code (2 : Nat) (Option.none : Option Jvm.ClassFile.FieldType), Jvm.Cond.code ({ cls := "com/example/frigg/frigg/engine/IntList", name := "clear", desc := "()V" } : Jvm.MethodName) prog_17_method_7_code (1 : Nat) (Option.none : Option Jvm.ClassFile.FieldType)]
set_option maxRecDepth 65536 in
theorem codes_eq : words1.filter isCode = codes1 := rfl
theorem w_codes : ∀ c ∈ words1.filter isCode, c.before args0 about1 = true := by
  rw [codes_eq]
  intro c hc
  simp only [codes1, List.mem_cons, List.not_mem_nil, or_false] at hc
  rcases hc with rfl | rfl | rfl | rfl | rfl | rfl | rfl
  · exact w_c0
  · exact w_c1
  · exact w_c2
  · exact w_c3
  · exact w_c4
  · exact w_c5
  · exact w_c6
set_option maxRecDepth 65536 in
theorem w_t1 : (words1.take 24).all (fun c => isCode c || c.before args0 about1) = true := by decide +kernel
set_option maxRecDepth 65536 in
theorem w_t2 : (words1.drop 24).all (fun c => isCode c || c.before args0 about1) = true := by decide +kernel
theorem w_tables : (allAtoms (Jvm.Cond.code x code maxLocals ret :: tables_1)).before args0 about1 = true := by
  rw [allAtoms_all]
  show words1.all (fun c => c.before args0 about1) = true
  refine all_split ?_ w_codes
  rw [← List.take_append_drop 24 words1, List.all_append, w_t1, w_t2]
  rfl
set_option maxRecDepth 65536 in
theorem w_case : (Jvm.Cond.and given_1 narrow_1).before args0 about1 = true := by decide +kernel
theorem w_applies : (headSpec (Jvm.Cond.code x code maxLocals ret :: tables_1) room_1).applies x e0.platform about1 = true :=
  (Spec.applies_iff w_frames).mpr ⟨w_running, w_runnable, w_alone, w_named, w_hears, w_ripe, w_room, w_tables⟩
theorem atStart : AtStart classFile x code maxLocals ret World_1 tables_1 room_1 Calls_1 rest_1 Pre_1 launch0 p0 e0 about1 theMethod args0 below0 :=
  ⟨lists_1, trivial, launch0.admits_env _ _ _, launch0.least_env, fairChoices_fair.cas, fairChoices_fair.clock, w_frames, w_args, w_heap, w_applies, trivial, trivial, w_case⟩
end start1
theorem witness_1 : WitnessClaimed_1 := ⟨start1.p0, start1.e0, start1.about1, start1.theMethod, start1.args0, start1.below0, start1.atStart⟩
end Jvm.Pilot.@@N@@
