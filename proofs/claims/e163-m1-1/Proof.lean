import JvmDerived
import JvmDerived.Pilot.@@N@@Statement
import JvmDerived.Pilot.@@N@@Code
set_option linter.unusedVariables false
set_option linter.unusedSimpArgs false
namespace Jvm.RoadKit
open Sem ClassFile Op Lib Jvm.Stand Jvm.Free Jvm.LawKit
section OwnKit
variable {p : Program} {l : Launch} {e : Env} {R : Room} {s : State} {m : MethodId} {args : Array Value} {below : List Frame} {meth : Method} {c : Code} {T : State} {locs : List Loc} {cells slots : Nat}
/-- the run from U ends the invocation, and P holds there -/
def OGo (p : Program) (e : Env) (below : List Frame) (P : Outcome → State → Prop) (U : State) : Prop :=
  ∃ s₂ o, Steps p.tables e below U s₂ ∧ s₂.status = .running ∧ Ended s₂ below o ∧ P o s₂
theorem OGo.by_ {P : Outcome → State → Prop} {U U' : State} (h : ∀ t, Steps p.tables e below U' t → Steps p.tables e below U t) (g : OGo p e below P U') : OGo p e below P U := by
  obtain ⟨t, o, a, b⟩ := g
  exact ⟨t, o, h t a, b⟩
abbrev OEnd (s : State) (Q : Option Value → Heap → List Loc → Prop) (k n : Nat) (o : Outcome) (U' : State) : Prop :=
  ∃ v L, o = .returned v ∧ Q v U'.heap L ∧ FrameEnd s o U' L k n
theorem own_lt {a : Addr} {n : Nat} (h : a < n) : @LT.lt Nat instLTNat a n := h
theorem own_ne {a b : Addr} (h : @LT.lt Nat instLTNat a b) : a ≠ b := Nat.ne_of_lt h
theorem own_ne' {a b : Addr} (h : @LT.lt Nat instLTNat b a) : a ≠ b := Nat.ne_of_gt h
variable {Q : Option Value → Heap → List Loc → Prop} {k n : Nat} {pc : Nat} {Ls : Array Slot} {rest : List Value}
theorem own_retW (X : Stand p l e R s m args below meth c T locs cells slots) (hx : p.tables.exec = Jvm.exec) (hlk : meth.locks = false) {w : Value} {t : FieldType} {i : Instr} (hret : meth.sig.returnType = some t) (hn : narrow t w = w)
    (hi : (i = .ireturn ∧ (t = .int ∨ t = .boolean ∨ t = .byte ∨ t = .char ∨ t = .short) ∧ ∃ z, w = .int z) ∨ (i = .lreturn ∧ t = .long ∧ ∃ z, w = .long z) ∨ (i = .dreturn ∧ t = .double ∧ ∃ z, w = .double z) ∨ (i = .freturn ∧ t = .float ∧ ∃ z, w = .float z) ∨ (i = .areturn ∧ t.isReference = true ∧ w.isRef = true))
    (hd : decode c.code pc = .ok (i, 1)) (hk : cells ≤ k) (hs : slots ≤ n) (hQ : Q (some w) T.heap locs) : OGo p e below (OEnd s Q k n) (T.setTop (mkF m pc Ls (w :: rest))) := by
  obtain ⟨fs, hr, hrun, hended, hW, hsame⟩ := X.leave (v := some w) (fun h => by rw [hret] at h; cases h) hlk
  exact ⟨_, _, retOut X hx hret hn hi hd hr, hrun, hended, _, _, rfl, hQ, ⟨_, rfl⟩, hW, hsame.mono hk hs⟩
theorem own_retI (X : Stand p l e R s m args below meth c T locs cells slots) (hx : p.tables.exec = Jvm.exec) (hlk : meth.locks = false) {z : Int32} (hret : meth.sig.returnType = some .int)
    (hd : decode c.code pc = .ok (.ireturn, 1)) (hk : cells ≤ k) (hs : slots ≤ n) (hQ : Q (some (.int z)) T.heap locs) : OGo p e below (OEnd s Q k n) (T.setTop (mkF m pc Ls (.int z :: rest))) :=
  own_retW X hx hlk hret rfl (Or.inl ⟨rfl, Or.inl rfl, z, rfl⟩) hd hk hs hQ
theorem own_retJ (X : Stand p l e R s m args below meth c T locs cells slots) (hx : p.tables.exec = Jvm.exec) (hlk : meth.locks = false) {z : Int64} (hret : meth.sig.returnType = some .long)
    (hd : decode c.code pc = .ok (.lreturn, 1)) (hk : cells ≤ k) (hs : slots ≤ n) (hQ : Q (some (.long z)) T.heap locs) : OGo p e below (OEnd s Q k n) (T.setTop (mkF m pc Ls (.long z :: rest))) :=
  own_retW X hx hlk hret rfl (Or.inr (Or.inl ⟨rfl, rfl, z, rfl⟩)) hd hk hs hQ
theorem own_retA (X : Stand p l e R s m args below meth c T locs cells slots) (hx : p.tables.exec = Jvm.exec) (hlk : meth.locks = false) {w : Value} {t : FieldType} (hret : meth.sig.returnType = some t) (ht : t.isReference = true) (hw : w.isRef = true)
    (hd : decode c.code pc = .ok (.areturn, 1)) (hk : cells ≤ k) (hs : slots ≤ n) (hQ : Q (some w) T.heap locs) : OGo p e below (OEnd s Q k n) (T.setTop (mkF m pc Ls (w :: rest))) :=
  own_retW X hx hlk hret (by cases t <;> cases w <;> simp [FieldType.isReference, Value.isRef] at ht hw <;> rfl) (Or.inr (Or.inr (Or.inr (Or.inr ⟨rfl, ht, hw⟩)))) hd hk hs hQ
theorem own_retN (X : Stand p l e R s m args below meth c T locs cells slots) (hx : p.tables.exec = Jvm.exec) (hlk : meth.locks = false) {z : Int32} {t : FieldType} (hret : meth.sig.returnType = some t) (ht : t = .boolean ∨ t = .byte ∨ t = .char ∨ t = .short)
    (hd : decode c.code pc = .ok (.ireturn, 1)) (hk : cells ≤ k) (hs : slots ≤ n) (hQ : Q (some (.int (nar t z))) T.heap locs) : OGo p e below (OEnd s Q k n) (T.setTop (mkF m pc Ls (.int z :: rest))) := by
  obtain ⟨fs, hr, hrun, hended, hW, hsame⟩ := X.leave (v := some (.int (nar t z))) (fun h => by rw [hret] at h; cases h) hlk
  exact ⟨_, _, retN X hx hret ht hd hr, hrun, hended, _, _, rfl, hQ, ⟨_, rfl⟩, hW, hsame.mono hk hs⟩
theorem own_ret (X : Stand p l e R s m args below meth c T locs cells slots) (hx : p.tables.exec = Jvm.exec) (hlk : meth.locks = false) (hret : meth.sig.returnType = none)
    (hd : decode c.code pc = .ok (.return_, 1)) (hk : cells ≤ k) (hs : slots ≤ n) (hQ : Q none T.heap locs) : OGo p e below (OEnd s Q k n) (T.setTop (mkF m pc Ls [])) := by
  obtain ⟨fs, hr, hrun, hended, hW, hsame⟩ := X.leave (v := none) (fun _ => rfl) hlk
  exact ⟨_, _, X.returnOut hx hret hd hr, hrun, hended, _, _, rfl, hQ, ⟨_, rfl⟩, hW, hsame.mono hk hs⟩
abbrev OEndW (s : State) (Q : Option Value → Heap → List Loc → Prop) (k n : Nat) (o : Outcome) (U' : State) : Prop :=
  ∃ v L, o = .returned v ∧ Q v U'.heap L ∧ ReturnedEndW s o U' L k n
variable {vm₁ : Vm} {j : Nat}
theorem own_wretW (X : Stand p l e R (s.setVm vm₁) m args below meth c T locs cells slots) (hS : s.Since vm₁ j) (hj : j ≤ T.heap.size) (hx : p.tables.exec = Jvm.exec) (hlk : meth.locks = false) {w : Value} {t : FieldType} {i : Instr} (hret : meth.sig.returnType = some t) (hn : narrow t w = w)
    (hi : (i = .ireturn ∧ (t = .int ∨ t = .boolean ∨ t = .byte ∨ t = .char ∨ t = .short) ∧ ∃ z, w = .int z) ∨ (i = .lreturn ∧ t = .long ∧ ∃ z, w = .long z) ∨ (i = .dreturn ∧ t = .double ∧ ∃ z, w = .double z) ∨ (i = .freturn ∧ t = .float ∧ ∃ z, w = .float z) ∨ (i = .areturn ∧ t.isReference = true ∧ w.isRef = true))
    (hd : decode c.code pc = .ok (i, 1)) (hk : cells ≤ k) (hs : slots ≤ n) (hQ : Q (some w) T.heap locs) : OGo p e below (OEndW s Q k n) (T.setTop (mkF m pc Ls (w :: rest))) := by
  obtain ⟨fs, hr, hrun, hended, h1, h2, h3, h4⟩ := X.leaveW hS hj (v := some w) (fun h => by rw [hret] at h; cases h) hlk
  exact ⟨_, _, retOut X hx hret hn hi hd hr, hrun, hended, _, _, rfl, hQ, h1, h2, h3, h4.mono hk hs⟩
theorem own_wretI (X : Stand p l e R (s.setVm vm₁) m args below meth c T locs cells slots) (hS : s.Since vm₁ j) (hj : j ≤ T.heap.size) (hx : p.tables.exec = Jvm.exec) (hlk : meth.locks = false) {z : Int32} (hret : meth.sig.returnType = some .int)
    (hd : decode c.code pc = .ok (.ireturn, 1)) (hk : cells ≤ k) (hs : slots ≤ n) (hQ : Q (some (.int z)) T.heap locs) : OGo p e below (OEndW s Q k n) (T.setTop (mkF m pc Ls (.int z :: rest))) :=
  own_wretW X hS hj hx hlk hret rfl (Or.inl ⟨rfl, Or.inl rfl, z, rfl⟩) hd hk hs hQ
theorem own_wretA (X : Stand p l e R (s.setVm vm₁) m args below meth c T locs cells slots) (hS : s.Since vm₁ j) (hj : j ≤ T.heap.size) (hx : p.tables.exec = Jvm.exec) (hlk : meth.locks = false) {w : Value} {t : FieldType} (hret : meth.sig.returnType = some t) (ht : t.isReference = true) (hw : w.isRef = true)
    (hd : decode c.code pc = .ok (.areturn, 1)) (hk : cells ≤ k) (hs : slots ≤ n) (hQ : Q (some w) T.heap locs) : OGo p e below (OEndW s Q k n) (T.setTop (mkF m pc Ls (w :: rest))) :=
  own_wretW X hS hj hx hlk hret (by cases t <;> cases w <;> simp [FieldType.isReference, Value.isRef] at ht hw <;> rfl) (Or.inr (Or.inr (Or.inr (Or.inr ⟨rfl, ht, hw⟩)))) hd hk hs hQ
theorem own_wretN (X : Stand p l e R (s.setVm vm₁) m args below meth c T locs cells slots) (hS : s.Since vm₁ j) (hj : j ≤ T.heap.size) (hx : p.tables.exec = Jvm.exec) (hlk : meth.locks = false) {z : Int32} {t : FieldType} (hret : meth.sig.returnType = some t) (ht : t = .boolean ∨ t = .byte ∨ t = .char ∨ t = .short)
    (hd : decode c.code pc = .ok (.ireturn, 1)) (hk : cells ≤ k) (hs : slots ≤ n) (hQ : Q (some (.int (nar t z))) T.heap locs) : OGo p e below (OEndW s Q k n) (T.setTop (mkF m pc Ls (.int z :: rest))) := by
  obtain ⟨fs, hr, hrun, hended, h1, h2, h3, h4⟩ := X.leaveW hS hj (v := some (.int (nar t z))) (fun h => by rw [hret] at h; cases h) hlk
  exact ⟨_, _, retN X hx hret ht hd hr, hrun, hended, _, _, rfl, hQ, h1, h2, h3, h4.mono hk hs⟩
theorem own_wret (X : Stand p l e R (s.setVm vm₁) m args below meth c T locs cells slots) (hS : s.Since vm₁ j) (hj : j ≤ T.heap.size) (hx : p.tables.exec = Jvm.exec) (hlk : meth.locks = false) (hret : meth.sig.returnType = none)
    (hd : decode c.code pc = .ok (.return_, 1)) (hk : cells ≤ k) (hs : slots ≤ n) (hQ : Q none T.heap locs) : OGo p e below (OEndW s Q k n) (T.setTop (mkF m pc Ls [])) := by
  obtain ⟨fs, hr, hrun, hended, h1, h2, h3, h4⟩ := X.leaveW hS hj (v := none) (fun _ => rfl) hlk
  exact ⟨_, _, X.returnOut hx hret hd hr, hrun, hended, _, _, rfl, hQ, h1, h2, h3, h4.mono hk hs⟩
end OwnKit
end Jvm.RoadKit
namespace Jvm.RoadKit
open Sem ClassFile Op Lib Jvm.Stand Jvm.Free Jvm.LawKit
section OwnKitH
variable {p : Program} {l : Launch} {e : Env} {R : Room} {s : State} {m : MethodId} {args : Array Value} {below : List Frame} {meth : Method} {c : Code} {T : State} {locs : List Loc} {cells slots : Nat}
variable {Q : Option Value → Heap → List Loc → Prop} {k n : Nat} {pc : Nat} {Ls : Array Slot} {rest : List Value} {vm₁ : Vm} {j : Nat} {Z : State} {EL : List (String × Nat)}
abbrev OEndH (Z : State) (EL : List (String × Nat)) (s : State) (Q : Option Value → Heap → List Loc → Prop) (k n : Nat) (o : Outcome) (U' : State) : Prop :=
  ∃ v L, o = .returned v ∧ Q v U'.heap L ∧ CHr Z EL s.vm s.heap U'.vm U'.heap ∧ ReturnedEndW s o U' L k n
theorem own_hretA (X : Stand p l e R (s.setVm vm₁) m args below meth c T locs cells slots) (hS : s.Since vm₁ j) (hj : j ≤ T.heap.size) (HR : CHr Z EL s.vm s.heap T.vm T.heap) (hx : p.tables.exec = Jvm.exec) (hlk : meth.locks = false) {w : Value} {t : FieldType} (hret : meth.sig.returnType = some t) (ht : t.isReference = true) (hw : w.isRef = true)
    (hd : decode c.code pc = .ok (.areturn, 1)) (hk : cells ≤ k) (hs : slots ≤ n) (hQ : Q (some w) T.heap locs) : OGo p e below (OEndH Z EL s Q k n) (T.setTop (mkF m pc Ls (w :: rest))) := by
  obtain ⟨fs, hr, hrun, hended, h1, h2, h3, h4⟩ := X.leaveW hS hj (v := some w) (fun h => by rw [hret] at h; cases h) hlk
  exact ⟨_, _, retOut X hx hret (by cases t <;> cases w <;> simp [FieldType.isReference, Value.isRef] at ht hw <;> rfl) (Or.inr (Or.inr (Or.inr (Or.inr ⟨rfl, ht, hw⟩)))) hd hr, hrun, hended, _, _, rfl, hQ, HR, h1, h2, h3, h4.mono hk hs⟩
theorem own_hret (X : Stand p l e R (s.setVm vm₁) m args below meth c T locs cells slots) (hS : s.Since vm₁ j) (hj : j ≤ T.heap.size) (HR : CHr Z EL s.vm s.heap T.vm T.heap) (hx : p.tables.exec = Jvm.exec) (hlk : meth.locks = false) (hret : meth.sig.returnType = none)
    (hd : decode c.code pc = .ok (.return_, 1)) (hk : cells ≤ k) (hs : slots ≤ n) (hQ : Q none T.heap locs) : OGo p e below (OEndH Z EL s Q k n) (T.setTop (mkF m pc Ls [])) := by
  obtain ⟨fs, hr, hrun, hended, h1, h2, h3, h4⟩ := X.leaveW hS hj (v := none) (fun _ => rfl) hlk
  exact ⟨_, _, X.returnOut hx hret hd hr, hrun, hended, _, _, rfl, hQ, HR, h1, h2, h3, h4.mono hk hs⟩
/-- a String whose value is still null is booked for nothing -/
theorem own_safe {h : Heap} {a : Addr} {vm : Vm} (hal : Z.vm.Alike vm) (E : Exa Z h a "java/lang/String") (F : Fld Z h a "java/lang/String" "value" "[B" .null) : Safe Z EL vm h a := fun B => by
  obtain ⟨p, -, u, a', -, q, -, G, rfl | rfl⟩ := B
  · obtain ⟨cell, cf, k, i, f, h1, h2, -, -, -, -, h7⟩ := F
    obtain ⟨cS, ⟨⟨s1, s2, s3, ⟨cv, kv, iv, s4, s4'⟩, s5, s6, s7, s8, -⟩, -⟩, -⟩ := G
    obtain ⟨k', z4⟩ := ff_back (U := Wst Z vm h) hal s4
    cases h1.symm.trans s1
    have e4 := h2.symm.trans z4
    simp only [Option.some.injEq, Prod.mk.injEq] at e4
    rw [e4.2.2.2, s8] at h7
    cases h7
  · obtain ⟨cell, k, h1, h2, -⟩ := E
    have hd := G.hd
    obtain ⟨cS, -, -, f, -⟩ := G
    cases h1.symm.trans hd
    have f' : vm.findClass "[B" = some q.SA.cls := f
    rw [hal.findClass] at f'
    obtain ⟨k1, q1, q2⟩ := Vm.findClass_spec h2
    obtain ⟨k2, q3, q4⟩ := Vm.findClass_spec f'
    cases q1.symm.trans q3
    exact absurd (q2.symm.trans q4) (by decide)
end OwnKitH
end Jvm.RoadKit
namespace Jvm.Pilot.@@N@@
open Jvm Jvm.ClassFile Sem Op Lib Jvm.Free Jvm.Stand Jvm.LawKit Jvm.RoadKit Bundle Jvm.Pilot.@@N@@.Jvm.D
theorem own_mask (a mk : Int32) (k : Nat) (hk : k < 32) (hm : mk.toBitVec.toNat = 2 ^ k - 1) : (a &&& mk).toInt = a.toInt % 2 ^ k := by
  have e1 : (a &&& mk).toInt = (a.toBitVec &&& mk.toBitVec).toInt := rfl
  have e2 : (a.toBitVec &&& mk.toBitVec).toNat = a.toBitVec.toNat % 2 ^ k := by
    rw [BitVec.toNat_and, hm]; exact Nat.and_two_pow_sub_one_eq_mod _ k
  have e3 : a.toInt = a.toBitVec.toInt := rfl
  have hp : 2 ^ k ∣ 2 ^ 32 := Nat.pow_dvd_pow 2 (Nat.le_of_lt hk)
  have hp2 : 2 ^ k ≤ 2 ^ 31 := Nat.pow_le_pow_right (by decide) (Nat.le_of_lt_succ hk)
  have hlt : a.toBitVec.toNat % 2 ^ k < 2 ^ k := Nat.mod_lt _ (Nat.two_pow_pos k)
  rw [e1, e3, BitVec.toInt_eq_toNat_cond, BitVec.toInt_eq_toNat_cond, e2]
  have c : ((2 ^ k : Nat) : Int) = (2 : Int) ^ k := by norm_cast
  obtain ⟨q, hq⟩ := hp
  rw [if_pos (by omega)]
  split
  · rw [← c, ← Int.natCast_emod]
  · rw [← c, hq]
    rw [Int.natCast_mul, Int.sub_mul_emod_self_left, Int.natCast_emod]
def own_EL : List (String × Nat) := [("java/lang/String", 7)]
theorem own_strA {a0 : Array Value} {Z : State} (hw : ∀ d ∈ tables_1, d.before a0 Z = true) : ∀ a ∈ Bundle.stringAtoms, a.before a0 Z = true := by
  intro a ha
  simp only [Bundle.stringAtoms, Bundle.sN, List.mem_cons, List.not_mem_nil, or_false] at ha
  rcases ha with rfl | rfl | rfl | rfl | rfl | rfl | rfl
  · exact (hw _ (List.mem_of_getElem? (i := 9) rfl))
  · exact (hw _ (List.mem_of_getElem? (i := 8) rfl))
  · exact (hw _ (List.mem_of_getElem? (i := 22) rfl))
  · exact (hw _ (List.mem_of_getElem? (i := 23) rfl))
  · exact (hw _ (List.mem_of_getElem? (i := 24) rfl))
  · exact (hw _ (List.mem_of_getElem? (i := 25) rfl))
  · exact (hw _ (List.mem_of_getElem? (i := 26) rfl))
theorem own_ew {a0 : Array Value} {Z : State} (hw : ∀ d ∈ tables_1, d.before a0 Z = true) : EW Z a0 own_EL := EW.cons (hw _ (List.mem_of_getElem? (i := 21) rfl)) (by decide) EW.nil
theorem own_nin1 {x y : Addr} (h : x ≠ y) : x ∉ [y] := ninS h nin0
theorem own_ext_keep {h h' : Heap} (E : Ext h h') : Keep h h' [] := (Keep.refl h []).ext E
def own_len (n : Int32) (xs : List Int32) : Prop := (n = 0 ∧ xs = []) ∨ (n = 1 ∧ ∃ x, xs = [x]) ∨ (n = 2 ∧ ∃ x y, xs = [x, y]) ∨ (n = 3 ∧ ∃ x y z, xs = [x, y, z])
def own_ch (x : Int32) : Prop := (x.toInt8.toInt32 &&& (255 : Int32)) = x
def own_S (Z : State) (h : Heap) (a b : Addr) (n : Int32) (xs : List Int32) : Prop := Exa Z h a "java/lang/String" ∧ Fld Z h a "java/lang/String" "coder" "B" (.int (0 : Int32)) ∧ Fld Z h a "java/lang/String" "value" "[B" (.ref b) ∧ (∃ k, Arv Z h b k .byte n (xs.map fun x => .int x.toInt8.toInt32) (.int (0 : Int32))) ∧ own_len n xs ∧ ∀ x ∈ xs, own_ch x
theorem own_S_keep {Z : State} {h h' : Heap} {a b : Addr} {n : Int32} {xs : List Int32} {ws : List Addr} (F : own_S Z h a b n xs) (K : Keep h h' ws) (ha : a ∉ ws) (hb : b ∉ ws) : own_S Z h' a b n xs := by
  obtain ⟨f1, f2, f3, ⟨k, f4⟩, f5, f6⟩ := F
  exact ⟨f1.keep K, f2.keep K ha, f3.keep K ha, ⟨k, f4.keep K hb⟩, f5, f6⟩
theorem own_S_ext {Z : State} {h h' : Heap} {a b : Addr} {n : Int32} {xs : List Int32} (F : own_S Z h a b n xs) (E : Ext h h') : own_S Z h' a b n xs := own_S_keep F (own_ext_keep E) nin0 nin0
theorem own_S_lt {Z : State} {h : Heap} {a b : Addr} {n : Int32} {xs : List Int32} (F : own_S Z h a b n xs) : h.size > a ∧ h.size > b := by
  obtain ⟨f1, f2, f3, ⟨k, f4⟩, f5, f6⟩ := F
  exact ⟨f1.lt, f4.lt⟩
theorem own_nb8 (x : Int32) : nar .byte (x.toInt8.toInt32) = x.toInt8.toInt32 := by simp [nar]
theorem own_chle {x : Int32} (h : own_ch x) : ¬ (255 : Int32) < x := by
  have e := own_mask (x.toInt8.toInt32) 255 8 (by decide) (by decide)
  rw [show x.toInt8.toInt32 &&& (255 : Int32) = x from h] at e
  rw [Int32.lt_iff_toInt_lt]
  have e1 : (255 : Int32).toInt = 255 := by decide
  omega
theorem d_cl1_0 : decode jdk_52_method_21_code 0 = .ok (.iconst 0, 1) := by decide +kernel
theorem d_cl1_1 : decode jdk_52_method_21_code 1 = .ok (.istore 5, 2) := by decide +kernel
theorem d_cl1_3 : decode jdk_52_method_21_code 3 = .ok (.iload 5, 2) := by decide +kernel
theorem d_cl1_5 : decode jdk_52_method_21_code 5 = .ok (.iload 4, 2) := by decide +kernel
theorem d_cl1_7 : decode jdk_52_method_21_code 7 = .ok (.if_icmp .ge 37, 3) := by decide +kernel
theorem d_cl1_10 : decode jdk_52_method_21_code 10 = .ok (.aload_n 0, 1) := by decide +kernel
theorem d_cl1_11 : decode jdk_52_method_21_code 11 = .ok (.iload_n 1, 1) := by decide +kernel
theorem d_cl1_12 : decode jdk_52_method_21_code 12 = .ok (.caload, 1) := by decide +kernel
theorem d_cl1_13 : decode jdk_52_method_21_code 13 = .ok (.istore 6, 2) := by decide +kernel
theorem d_cl1_15 : decode jdk_52_method_21_code 15 = .ok (.iload 6, 2) := by decide +kernel
theorem d_cl1_17 : decode jdk_52_method_21_code 17 = .ok (.sipush 255, 3) := by decide +kernel
theorem d_cl1_20 : decode jdk_52_method_21_code 20 = .ok (.if_icmp .le 6, 3) := by decide +kernel
theorem d_cl1_26 : decode jdk_52_method_21_code 26 = .ok (.aload_n 2, 1) := by decide +kernel
theorem d_cl1_27 : decode jdk_52_method_21_code 27 = .ok (.iload_n 3, 1) := by decide +kernel
theorem d_cl1_28 : decode jdk_52_method_21_code 28 = .ok (.iload 6, 2) := by decide +kernel
theorem d_cl1_30 : decode jdk_52_method_21_code 30 = .ok (.i2b, 1) := by decide +kernel
theorem d_cl1_31 : decode jdk_52_method_21_code 31 = .ok (.bastore, 1) := by decide +kernel
theorem d_cl1_32 : decode jdk_52_method_21_code 32 = .ok (.iinc 1 1, 3) := by decide +kernel
theorem d_cl1_35 : decode jdk_52_method_21_code 35 = .ok (.iinc 3 1, 3) := by decide +kernel
theorem d_cl1_38 : decode jdk_52_method_21_code 38 = .ok (.iinc 5 1, 3) := by decide +kernel
theorem d_cl1_41 : decode jdk_52_method_21_code 41 = .ok (.goto (-38), 3) := by decide +kernel
theorem d_cl1_44 : decode jdk_52_method_21_code 44 = .ok (.iload 4, 2) := by decide +kernel
theorem d_cl1_46 : decode jdk_52_method_21_code 46 = .ok (.ireturn, 1) := by decide +kernel
theorem pn_java_lang_StringUTF16 : plainName "java/lang/StringUTF16" = true := by first | (simp [plainName, overriddenIn]; done) | decide +kernel
theorem ef_cl1 (m : MethodId) (x0 : Addr) (x1 : Int32) (x2 : Addr) (x3 : Int32) (x4 : Int32) : entryFrame m #[(.ref x0), (.int x1), (.ref x2), (.int x3), (.int x4)] 7 = mkF m 0 #[.val (.ref x0), .val (.int x1), .val (.ref x2), .val (.int x3), .val (.int x4), .unset, .unset] [] := by first | (simp [entryFrame, mkF, argsToLocals, Value.category]; done) | rfl
def Q_cl1 (Z : State) (c8 b : Addr) (kc kb : ClassId) (x : Int32) (h0 : Heap) (n0 : Nat) (v : Option Value) (h : Heap) (L : List Loc) : Prop := v = some (.int (1 : Int32)) ∧ Fr n0 L ∧ Keep h0 h [b] ∧ Arv Z h b kb .byte (1 : Int32) [(.int x.toInt8.toInt32)] (.int (0 : Int32))
set_option maxRecDepth 65536 in
set_option maxHeartbeats 40000000 in
theorem rm_cl1 (l : Launch) (Z : State) (a0 : Array Value) (hw : ∀ d ∈ tables_1, d.before a0 Z = true) (ws : List Jvm.Cond) (c8 b : Addr) (kc kb : ClassId) (x : Int32) (h0 : Heap) (n0 : Nat) (Z0 : n0 ≤ h0.size) (Vc : Arv Z h0 c8 kc .char (1 : Int32) [(.int x)] (.int (0 : Int32))) (Vb : Arv Z h0 b kb .byte (1 : Int32) [(.int (0 : Int32))] (.int (0 : Int32))) (hcb : c8 ≠ b) (gb : n0 ≤ b) (c_x : own_ch x) :
    MetFree l (⟨"java/lang/StringUTF16", "compress", "([CI[BII)I"⟩ : MethodName) (head1 (Jvm.Cond.code (⟨"java/lang/StringUTF16", "compress", "([CI[BII)I"⟩ : MethodName) jdk_52_method_21_code 7 (some .int) :: ws) ({ frames := 0, cells := 0, slots := 0, locals := 0 } : Room)) (fun a_ U => a_ = #[(.ref c8), (.int (0 : Int32)), (.ref b), (.int (0 : Int32)), (.int (1 : Int32))] ∧ Z.Warmed39 U.vm ∧ U.heap = h0) (fun _ _ _ _ _ => True) (fun _ U o U' => ∃ v L, o = .returned v ∧ Q_cl1 Z c8 b kc kb x h0 n0 v U'.heap L ∧ FrameEnd U o U' L ({ frames := 0, cells := 0, slots := 0, locals := 0 } : Room).cells ({ frames := 0, cells := 0, slots := 0, locals := 0 } : Room).slots) := by
  refine MetFree.of_bodySF (plainFor_of_name pn_java_lang_StringUTF16) hisR ?_
  intro p e s m args below meth c s₁ Bd hml0 hP hK
  obtain ⟨rfl, hZ, hh⟩ := hP
  have hx := Bd.exec
  have hby := Bd.bytes
  have hml : c.maxLocals = 7 := hml0
  have hown : s.vm.findClass "java/lang/StringUTF16" = some m.cls := findClass_of_methodNamed Bd.named
  have hnm := (name_of_methodNamed Bd.named Bd.method).1
  have X0 : Stand p l e ({ frames := 0, cells := 0, slots := 0, locals := 0 } : Room) s m #[(.ref c8), (.int (0 : Int32)), (.ref b), (.int (0 : Int32)), (.int (1 : Int32))] below meth c s₁ [] 0 0 := Stand.of_body Bd
  have e0 : s₁.heap = h0 := by rw [← hh, Bd.state]; rfl
  have N0 := Fr.nil n0
  have hlk := Bd.notSynchronized
  have hret := Bd.returns
  show OGo p e below (OEnd s (Q_cl1 Z c8 b kc kb x h0 n0) ({ frames := 0, cells := 0, slots := 0, locals := 0 } : Room).cells ({ frames := 0, cells := 0, slots := 0, locals := 0 } : Room).slots) (s₁.setTop (entryFrame m #[(.ref c8), (.int (0 : Int32)), (.ref b), (.int (0 : Int32)), (.int (1 : Int32))] 7))
  rw [ef_cl1]
  show OGo p e below _ (s₁.setTop (mkF m 0 #[.val (.ref c8), .val (.int (0 : Int32)), .val (.ref b), .val (.int (0 : Int32)), .val (.int (1 : Int32)), .unset, .unset] []))
  refine OGo.by_ (fun t k => XS.iconst X0.here hx rfl (hb hby d_cl1_0) k) ?_
  show OGo p e below _ (s₁.setTop (mkF m 1 #[.val (.ref c8), .val (.int (0 : Int32)), .val (.ref b), .val (.int (0 : Int32)), .val (.int (1 : Int32)), .unset, .unset] [(.int (0 : Int32))]))
  refine OGo.by_ (fun t k => XS.istore X0.here hx rfl (hb hby d_cl1_1) rfl (l' := #[.val (.ref c8), .val (.int (0 : Int32)), .val (.ref b), .val (.int (0 : Int32)), .val (.int (1 : Int32)), .val (.int (0 : Int32)), .unset]) rfl k) ?_
  show OGo p e below _ (s₁.setTop (mkF m 3 #[.val (.ref c8), .val (.int (0 : Int32)), .val (.ref b), .val (.int (0 : Int32)), .val (.int (1 : Int32)), .val (.int (0 : Int32)), .unset] []))
  refine OGo.by_ (fun t k => XS.iload X0.here hx rfl (hb hby d_cl1_3) rfl k) ?_
  show OGo p e below _ (s₁.setTop (mkF m 5 #[.val (.ref c8), .val (.int (0 : Int32)), .val (.ref b), .val (.int (0 : Int32)), .val (.int (1 : Int32)), .val (.int (0 : Int32)), .unset] [(.int (0 : Int32))]))
  refine OGo.by_ (fun t k => XS.iload X0.here hx rfl (hb hby d_cl1_5) rfl k) ?_
  show OGo p e below _ (s₁.setTop (mkF m 7 #[.val (.ref c8), .val (.int (0 : Int32)), .val (.ref b), .val (.int (0 : Int32)), .val (.int (1 : Int32)), .val (.int (0 : Int32)), .unset] [(.int (1 : Int32)), (.int (0 : Int32))]))
  refine OGo.by_ (fun t k => XS.icmpNo X0.here hx rfl (hb hby d_cl1_7) rfl (tlt (by decide)).2.1 k) ?_
  show OGo p e below _ (s₁.setTop (mkF m 10 #[.val (.ref c8), .val (.int (0 : Int32)), .val (.ref b), .val (.int (0 : Int32)), .val (.int (1 : Int32)), .val (.int (0 : Int32)), .unset] []))
  refine OGo.by_ (fun t k => XS.aloadN X0.here hx rfl (hb hby d_cl1_10) rfl rfl k) ?_
  show OGo p e below _ (s₁.setTop (mkF m 11 #[.val (.ref c8), .val (.int (0 : Int32)), .val (.ref b), .val (.int (0 : Int32)), .val (.int (1 : Int32)), .val (.int (0 : Int32)), .unset] [(.ref c8)]))
  refine OGo.by_ (fun t k => XS.iloadN X0.here hx rfl (hb hby d_cl1_11) rfl k) ?_
  show OGo p e below _ (s₁.setTop (mkF m 12 #[.val (.ref c8), .val (.int (0 : Int32)), .val (.ref b), .val (.int (0 : Int32)), .val (.int (1 : Int32)), .val (.int (0 : Int32)), .unset] [(.int (0 : Int32)), (.ref c8)]))
  obtain ⟨cl1, Ar1, q1, S1, Nn1, H1, G1⟩ := id Vc
  have in1 := inb_of S1 ⟨(by decide : ¬ (0 : Int32) < 0), (by decide : (0 : Int32) < (1 : Int32))⟩
  refine OGo.by_ (fun t kk => X0.caload hx (j := (0 : Int32)) (v := (.int x)) (by rw [e0]; exact Ar1.1) (State.isArrayOf_alike hZ.alike Ar1.2.1) Ar1.2.2 in1 (H1.at in1 (rfl)) (g := (mkF m 12 #[.val (.ref c8), .val (.int (0 : Int32)), .val (.ref b), .val (.int (0 : Int32)), .val (.int (1 : Int32)), .val (.int (0 : Int32)), .unset] [(.int (0 : Int32)), (.ref c8)])) rfl rfl (hb hby d_cl1_12) _ kk) ?_
  show OGo p e below _ (s₁.setTop (mkF m 13 #[.val (.ref c8), .val (.int (0 : Int32)), .val (.ref b), .val (.int (0 : Int32)), .val (.int (1 : Int32)), .val (.int (0 : Int32)), .unset] [(.int x)]))
  refine OGo.by_ (fun t k => XS.istore X0.here hx rfl (hb hby d_cl1_13) rfl (l' := #[.val (.ref c8), .val (.int (0 : Int32)), .val (.ref b), .val (.int (0 : Int32)), .val (.int (1 : Int32)), .val (.int (0 : Int32)), .val (.int x)]) rfl k) ?_
  show OGo p e below _ (s₁.setTop (mkF m 15 #[.val (.ref c8), .val (.int (0 : Int32)), .val (.ref b), .val (.int (0 : Int32)), .val (.int (1 : Int32)), .val (.int (0 : Int32)), .val (.int x)] []))
  refine OGo.by_ (fun t k => XS.iload X0.here hx rfl (hb hby d_cl1_15) rfl k) ?_
  show OGo p e below _ (s₁.setTop (mkF m 17 #[.val (.ref c8), .val (.int (0 : Int32)), .val (.ref b), .val (.int (0 : Int32)), .val (.int (1 : Int32)), .val (.int (0 : Int32)), .val (.int x)] [(.int x)]))
  refine OGo.by_ (fun t k => XS.sipush X0.here hx rfl (hb hby d_cl1_17) k) ?_
  show OGo p e below _ (s₁.setTop (mkF m 20 #[.val (.ref c8), .val (.int (0 : Int32)), .val (.ref b), .val (.int (0 : Int32)), .val (.int (1 : Int32)), .val (.int (0 : Int32)), .val (.int x)] [(.int (255 : Int32)), (.int x)]))
  refine OGo.by_ (fun t k => XS.icmpYes X0.here hx rfl (pc0 := 20) (pc' := 26) rfl (hb hby d_cl1_20) rfl (flt (own_chle c_x)).2.2.2 (by decide) (by decide) k) ?_
  show OGo p e below _ (s₁.setTop (mkF m 26 #[.val (.ref c8), .val (.int (0 : Int32)), .val (.ref b), .val (.int (0 : Int32)), .val (.int (1 : Int32)), .val (.int (0 : Int32)), .val (.int x)] []))
  refine OGo.by_ (fun t k => XS.aloadN X0.here hx rfl (hb hby d_cl1_26) rfl rfl k) ?_
  show OGo p e below _ (s₁.setTop (mkF m 27 #[.val (.ref c8), .val (.int (0 : Int32)), .val (.ref b), .val (.int (0 : Int32)), .val (.int (1 : Int32)), .val (.int (0 : Int32)), .val (.int x)] [(.ref b)]))
  refine OGo.by_ (fun t k => XS.iloadN X0.here hx rfl (hb hby d_cl1_27) rfl k) ?_
  show OGo p e below _ (s₁.setTop (mkF m 28 #[.val (.ref c8), .val (.int (0 : Int32)), .val (.ref b), .val (.int (0 : Int32)), .val (.int (1 : Int32)), .val (.int (0 : Int32)), .val (.int x)] [(.int (0 : Int32)), (.ref b)]))
  refine OGo.by_ (fun t k => XS.iload X0.here hx rfl (hb hby d_cl1_28) rfl k) ?_
  show OGo p e below _ (s₁.setTop (mkF m 30 #[.val (.ref c8), .val (.int (0 : Int32)), .val (.ref b), .val (.int (0 : Int32)), .val (.int (1 : Int32)), .val (.int (0 : Int32)), .val (.int x)] [(.int x), (.int (0 : Int32)), (.ref b)]))
  refine OGo.by_ (fun t k => XS.i2b X0.here hx rfl (hb hby d_cl1_30) rfl k) ?_
  show OGo p e below _ (s₁.setTop (mkF m 31 #[.val (.ref c8), .val (.int (0 : Int32)), .val (.ref b), .val (.int (0 : Int32)), .val (.int (1 : Int32)), .val (.int (0 : Int32)), .val (.int x)] [(.int (x.toInt8.toInt32)), (.int (0 : Int32)), (.ref b)]))
  obtain ⟨cl2, Ar2, q2, S2, Nn2, H2, G2⟩ := id Vb
  obtain ⟨T3, h3, X3, e3, W3, st3⟩ := stB X0 hx hZ e0 Ar2 (j := (0 : Int32)) (inb_of S2 ⟨(by decide : ¬ (0 : Int32) < 0), (by decide : (0 : Int32) < (1 : Int32))⟩) (g := (mkF m 31 #[.val (.ref c8), .val (.int (0 : Int32)), .val (.ref b), .val (.int (0 : Int32)), .val (.int (1 : Int32)), .val (.int (0 : Int32)), .val (.int x)] [(.int (x.toInt8.toInt32)), (.int (0 : Int32)), (.ref b)])) rfl rfl (hb hby d_cl1_31)
  refine OGo.by_ st3 ?_
  show OGo p e below _ (T3.setTop (mkF m 32 #[.val (.ref c8), .val (.int (0 : Int32)), .val (.ref b), .val (.int (0 : Int32)), .val (.int (1 : Int32)), .val (.int (0 : Int32)), .val (.int x)] []))
  have N3 := Fr.snoc X3 N0 gb
  rw [own_nb8] at W3
  have U1 := Arv.set Ar2 q2 S2 Nn2 H2 G2 (fits_nar_byte _) W3 0 (by decide) (Nat.le_of_ble_eq_true rfl)
  have C1 := Vc.other W3 hcb
  have K1_ := Keep.wr (Keep.refl h0 [b]) W3 (Or.inl (List.mem_singleton.mpr rfl))
  refine OGo.by_ (fun t k => XS.iinc X3.here hx rfl (hb hby d_cl1_32) rfl (l' := #[.val (.ref c8), .val (.int (1 : Int32)), .val (.ref b), .val (.int (0 : Int32)), .val (.int (1 : Int32)), .val (.int (0 : Int32)), .val (.int x)]) rfl k) ?_
  show OGo p e below _ (T3.setTop (mkF m 35 #[.val (.ref c8), .val (.int (1 : Int32)), .val (.ref b), .val (.int (0 : Int32)), .val (.int (1 : Int32)), .val (.int (0 : Int32)), .val (.int x)] []))
  refine OGo.by_ (fun t k => XS.iinc X3.here hx rfl (hb hby d_cl1_35) rfl (l' := #[.val (.ref c8), .val (.int (1 : Int32)), .val (.ref b), .val (.int (1 : Int32)), .val (.int (1 : Int32)), .val (.int (0 : Int32)), .val (.int x)]) rfl k) ?_
  show OGo p e below _ (T3.setTop (mkF m 38 #[.val (.ref c8), .val (.int (1 : Int32)), .val (.ref b), .val (.int (1 : Int32)), .val (.int (1 : Int32)), .val (.int (0 : Int32)), .val (.int x)] []))
  refine OGo.by_ (fun t k => XS.iinc X3.here hx rfl (hb hby d_cl1_38) rfl (l' := #[.val (.ref c8), .val (.int (1 : Int32)), .val (.ref b), .val (.int (1 : Int32)), .val (.int (1 : Int32)), .val (.int (1 : Int32)), .val (.int x)]) rfl k) ?_
  show OGo p e below _ (T3.setTop (mkF m 41 #[.val (.ref c8), .val (.int (1 : Int32)), .val (.ref b), .val (.int (1 : Int32)), .val (.int (1 : Int32)), .val (.int (1 : Int32)), .val (.int x)] []))
  refine OGo.by_ (fun t k => XS.goto X3.here hx rfl (pc0 := 41) (pc' := 3) rfl (hb hby d_cl1_41) (by decide) (by decide) k) ?_
  show OGo p e below _ (T3.setTop (mkF m 3 #[.val (.ref c8), .val (.int (1 : Int32)), .val (.ref b), .val (.int (1 : Int32)), .val (.int (1 : Int32)), .val (.int (1 : Int32)), .val (.int x)] []))
  refine OGo.by_ (fun t k => XS.iload X3.here hx rfl (hb hby d_cl1_3) rfl k) ?_
  show OGo p e below _ (T3.setTop (mkF m 5 #[.val (.ref c8), .val (.int (1 : Int32)), .val (.ref b), .val (.int (1 : Int32)), .val (.int (1 : Int32)), .val (.int (1 : Int32)), .val (.int x)] [(.int (1 : Int32))]))
  refine OGo.by_ (fun t k => XS.iload X3.here hx rfl (hb hby d_cl1_5) rfl k) ?_
  show OGo p e below _ (T3.setTop (mkF m 7 #[.val (.ref c8), .val (.int (1 : Int32)), .val (.ref b), .val (.int (1 : Int32)), .val (.int (1 : Int32)), .val (.int (1 : Int32)), .val (.int x)] [(.int (1 : Int32)), (.int (1 : Int32))]))
  refine OGo.by_ (fun t k => XS.icmpYes X3.here hx rfl (pc0 := 7) (pc' := 44) rfl (hb hby d_cl1_7) rfl (flt (by decide)).2.1 (by decide) (by decide) k) ?_
  show OGo p e below _ (T3.setTop (mkF m 44 #[.val (.ref c8), .val (.int (1 : Int32)), .val (.ref b), .val (.int (1 : Int32)), .val (.int (1 : Int32)), .val (.int (1 : Int32)), .val (.int x)] []))
  refine OGo.by_ (fun t k => XS.iload X3.here hx rfl (hb hby d_cl1_44) rfl k) ?_
  show OGo p e below _ (T3.setTop (mkF m 46 #[.val (.ref c8), .val (.int (1 : Int32)), .val (.ref b), .val (.int (1 : Int32)), .val (.int (1 : Int32)), .val (.int (1 : Int32)), .val (.int x)] [(.int (1 : Int32))]))
  exact own_retI X3 hx hlk hret (hb hby d_cl1_46) (by decide) (by decide) (by rw [e3]; exact ⟨rfl, N3, K1_, show Arv Z _ b kb .byte (1 : Int32) [(.int x.toInt8.toInt32)] (.int (0 : Int32)) from U1⟩)
theorem d_cl2_0 : decode jdk_52_method_21_code 0 = .ok (.iconst 0, 1) := by decide +kernel
theorem d_cl2_1 : decode jdk_52_method_21_code 1 = .ok (.istore 5, 2) := by decide +kernel
theorem d_cl2_3 : decode jdk_52_method_21_code 3 = .ok (.iload 5, 2) := by decide +kernel
theorem d_cl2_5 : decode jdk_52_method_21_code 5 = .ok (.iload 4, 2) := by decide +kernel
theorem d_cl2_7 : decode jdk_52_method_21_code 7 = .ok (.if_icmp .ge 37, 3) := by decide +kernel
theorem d_cl2_10 : decode jdk_52_method_21_code 10 = .ok (.aload_n 0, 1) := by decide +kernel
theorem d_cl2_11 : decode jdk_52_method_21_code 11 = .ok (.iload_n 1, 1) := by decide +kernel
theorem d_cl2_12 : decode jdk_52_method_21_code 12 = .ok (.caload, 1) := by decide +kernel
theorem d_cl2_13 : decode jdk_52_method_21_code 13 = .ok (.istore 6, 2) := by decide +kernel
theorem d_cl2_15 : decode jdk_52_method_21_code 15 = .ok (.iload 6, 2) := by decide +kernel
theorem d_cl2_17 : decode jdk_52_method_21_code 17 = .ok (.sipush 255, 3) := by decide +kernel
theorem d_cl2_20 : decode jdk_52_method_21_code 20 = .ok (.if_icmp .le 6, 3) := by decide +kernel
theorem d_cl2_26 : decode jdk_52_method_21_code 26 = .ok (.aload_n 2, 1) := by decide +kernel
theorem d_cl2_27 : decode jdk_52_method_21_code 27 = .ok (.iload_n 3, 1) := by decide +kernel
theorem d_cl2_28 : decode jdk_52_method_21_code 28 = .ok (.iload 6, 2) := by decide +kernel
theorem d_cl2_30 : decode jdk_52_method_21_code 30 = .ok (.i2b, 1) := by decide +kernel
theorem d_cl2_31 : decode jdk_52_method_21_code 31 = .ok (.bastore, 1) := by decide +kernel
theorem d_cl2_32 : decode jdk_52_method_21_code 32 = .ok (.iinc 1 1, 3) := by decide +kernel
theorem d_cl2_35 : decode jdk_52_method_21_code 35 = .ok (.iinc 3 1, 3) := by decide +kernel
theorem d_cl2_38 : decode jdk_52_method_21_code 38 = .ok (.iinc 5 1, 3) := by decide +kernel
theorem d_cl2_41 : decode jdk_52_method_21_code 41 = .ok (.goto (-38), 3) := by decide +kernel
theorem d_cl2_44 : decode jdk_52_method_21_code 44 = .ok (.iload 4, 2) := by decide +kernel
theorem d_cl2_46 : decode jdk_52_method_21_code 46 = .ok (.ireturn, 1) := by decide +kernel
theorem ef_cl2 (m : MethodId) (x0 : Addr) (x1 : Int32) (x2 : Addr) (x3 : Int32) (x4 : Int32) : entryFrame m #[(.ref x0), (.int x1), (.ref x2), (.int x3), (.int x4)] 7 = mkF m 0 #[.val (.ref x0), .val (.int x1), .val (.ref x2), .val (.int x3), .val (.int x4), .unset, .unset] [] := by first | (simp [entryFrame, mkF, argsToLocals, Value.category]; done) | rfl
def Q_cl2 (Z : State) (c8 b : Addr) (kc kb : ClassId) (x y : Int32) (h0 : Heap) (n0 : Nat) (v : Option Value) (h : Heap) (L : List Loc) : Prop := v = some (.int (2 : Int32)) ∧ Fr n0 L ∧ Keep h0 h [b] ∧ Arv Z h b kb .byte (2 : Int32) [(.int x.toInt8.toInt32), (.int y.toInt8.toInt32)] (.int (0 : Int32))
set_option maxRecDepth 65536 in
set_option maxHeartbeats 40000000 in
theorem rm_cl2 (l : Launch) (Z : State) (a0 : Array Value) (hw : ∀ d ∈ tables_1, d.before a0 Z = true) (ws : List Jvm.Cond) (c8 b : Addr) (kc kb : ClassId) (x y : Int32) (h0 : Heap) (n0 : Nat) (Z0 : n0 ≤ h0.size) (Vc : Arv Z h0 c8 kc .char (2 : Int32) [(.int x), (.int y)] (.int (0 : Int32))) (Vb : Arv Z h0 b kb .byte (2 : Int32) [(.int (0 : Int32)), (.int (0 : Int32))] (.int (0 : Int32))) (hcb : c8 ≠ b) (gb : n0 ≤ b) (c_x : own_ch x) (c_y : own_ch y) :
    MetFree l (⟨"java/lang/StringUTF16", "compress", "([CI[BII)I"⟩ : MethodName) (head1 (Jvm.Cond.code (⟨"java/lang/StringUTF16", "compress", "([CI[BII)I"⟩ : MethodName) jdk_52_method_21_code 7 (some .int) :: ws) ({ frames := 0, cells := 0, slots := 0, locals := 0 } : Room)) (fun a_ U => a_ = #[(.ref c8), (.int (0 : Int32)), (.ref b), (.int (0 : Int32)), (.int (2 : Int32))] ∧ Z.Warmed39 U.vm ∧ U.heap = h0) (fun _ _ _ _ _ => True) (fun _ U o U' => ∃ v L, o = .returned v ∧ Q_cl2 Z c8 b kc kb x y h0 n0 v U'.heap L ∧ FrameEnd U o U' L ({ frames := 0, cells := 0, slots := 0, locals := 0 } : Room).cells ({ frames := 0, cells := 0, slots := 0, locals := 0 } : Room).slots) := by
  refine MetFree.of_bodySF (plainFor_of_name pn_java_lang_StringUTF16) hisR ?_
  intro p e s m args below meth c s₁ Bd hml0 hP hK
  obtain ⟨rfl, hZ, hh⟩ := hP
  have hx := Bd.exec
  have hby := Bd.bytes
  have hml : c.maxLocals = 7 := hml0
  have hown : s.vm.findClass "java/lang/StringUTF16" = some m.cls := findClass_of_methodNamed Bd.named
  have hnm := (name_of_methodNamed Bd.named Bd.method).1
  have X0 : Stand p l e ({ frames := 0, cells := 0, slots := 0, locals := 0 } : Room) s m #[(.ref c8), (.int (0 : Int32)), (.ref b), (.int (0 : Int32)), (.int (2 : Int32))] below meth c s₁ [] 0 0 := Stand.of_body Bd
  have e0 : s₁.heap = h0 := by rw [← hh, Bd.state]; rfl
  have N0 := Fr.nil n0
  have hlk := Bd.notSynchronized
  have hret := Bd.returns
  show OGo p e below (OEnd s (Q_cl2 Z c8 b kc kb x y h0 n0) ({ frames := 0, cells := 0, slots := 0, locals := 0 } : Room).cells ({ frames := 0, cells := 0, slots := 0, locals := 0 } : Room).slots) (s₁.setTop (entryFrame m #[(.ref c8), (.int (0 : Int32)), (.ref b), (.int (0 : Int32)), (.int (2 : Int32))] 7))
  rw [ef_cl2]
  show OGo p e below _ (s₁.setTop (mkF m 0 #[.val (.ref c8), .val (.int (0 : Int32)), .val (.ref b), .val (.int (0 : Int32)), .val (.int (2 : Int32)), .unset, .unset] []))
  refine OGo.by_ (fun t k => XS.iconst X0.here hx rfl (hb hby d_cl2_0) k) ?_
  show OGo p e below _ (s₁.setTop (mkF m 1 #[.val (.ref c8), .val (.int (0 : Int32)), .val (.ref b), .val (.int (0 : Int32)), .val (.int (2 : Int32)), .unset, .unset] [(.int (0 : Int32))]))
  refine OGo.by_ (fun t k => XS.istore X0.here hx rfl (hb hby d_cl2_1) rfl (l' := #[.val (.ref c8), .val (.int (0 : Int32)), .val (.ref b), .val (.int (0 : Int32)), .val (.int (2 : Int32)), .val (.int (0 : Int32)), .unset]) rfl k) ?_
  show OGo p e below _ (s₁.setTop (mkF m 3 #[.val (.ref c8), .val (.int (0 : Int32)), .val (.ref b), .val (.int (0 : Int32)), .val (.int (2 : Int32)), .val (.int (0 : Int32)), .unset] []))
  refine OGo.by_ (fun t k => XS.iload X0.here hx rfl (hb hby d_cl2_3) rfl k) ?_
  show OGo p e below _ (s₁.setTop (mkF m 5 #[.val (.ref c8), .val (.int (0 : Int32)), .val (.ref b), .val (.int (0 : Int32)), .val (.int (2 : Int32)), .val (.int (0 : Int32)), .unset] [(.int (0 : Int32))]))
  refine OGo.by_ (fun t k => XS.iload X0.here hx rfl (hb hby d_cl2_5) rfl k) ?_
  show OGo p e below _ (s₁.setTop (mkF m 7 #[.val (.ref c8), .val (.int (0 : Int32)), .val (.ref b), .val (.int (0 : Int32)), .val (.int (2 : Int32)), .val (.int (0 : Int32)), .unset] [(.int (2 : Int32)), (.int (0 : Int32))]))
  refine OGo.by_ (fun t k => XS.icmpNo X0.here hx rfl (hb hby d_cl2_7) rfl (tlt (by decide)).2.1 k) ?_
  show OGo p e below _ (s₁.setTop (mkF m 10 #[.val (.ref c8), .val (.int (0 : Int32)), .val (.ref b), .val (.int (0 : Int32)), .val (.int (2 : Int32)), .val (.int (0 : Int32)), .unset] []))
  refine OGo.by_ (fun t k => XS.aloadN X0.here hx rfl (hb hby d_cl2_10) rfl rfl k) ?_
  show OGo p e below _ (s₁.setTop (mkF m 11 #[.val (.ref c8), .val (.int (0 : Int32)), .val (.ref b), .val (.int (0 : Int32)), .val (.int (2 : Int32)), .val (.int (0 : Int32)), .unset] [(.ref c8)]))
  refine OGo.by_ (fun t k => XS.iloadN X0.here hx rfl (hb hby d_cl2_11) rfl k) ?_
  show OGo p e below _ (s₁.setTop (mkF m 12 #[.val (.ref c8), .val (.int (0 : Int32)), .val (.ref b), .val (.int (0 : Int32)), .val (.int (2 : Int32)), .val (.int (0 : Int32)), .unset] [(.int (0 : Int32)), (.ref c8)]))
  obtain ⟨cl1, Ar1, q1, S1, Nn1, H1, G1⟩ := id Vc
  have in1 := inb_of S1 ⟨(by decide : ¬ (0 : Int32) < 0), (by decide : (0 : Int32) < (2 : Int32))⟩
  refine OGo.by_ (fun t kk => X0.caload hx (j := (0 : Int32)) (v := (.int x)) (by rw [e0]; exact Ar1.1) (State.isArrayOf_alike hZ.alike Ar1.2.1) Ar1.2.2 in1 (H1.at in1 (rfl)) (g := (mkF m 12 #[.val (.ref c8), .val (.int (0 : Int32)), .val (.ref b), .val (.int (0 : Int32)), .val (.int (2 : Int32)), .val (.int (0 : Int32)), .unset] [(.int (0 : Int32)), (.ref c8)])) rfl rfl (hb hby d_cl2_12) _ kk) ?_
  show OGo p e below _ (s₁.setTop (mkF m 13 #[.val (.ref c8), .val (.int (0 : Int32)), .val (.ref b), .val (.int (0 : Int32)), .val (.int (2 : Int32)), .val (.int (0 : Int32)), .unset] [(.int x)]))
  refine OGo.by_ (fun t k => XS.istore X0.here hx rfl (hb hby d_cl2_13) rfl (l' := #[.val (.ref c8), .val (.int (0 : Int32)), .val (.ref b), .val (.int (0 : Int32)), .val (.int (2 : Int32)), .val (.int (0 : Int32)), .val (.int x)]) rfl k) ?_
  show OGo p e below _ (s₁.setTop (mkF m 15 #[.val (.ref c8), .val (.int (0 : Int32)), .val (.ref b), .val (.int (0 : Int32)), .val (.int (2 : Int32)), .val (.int (0 : Int32)), .val (.int x)] []))
  refine OGo.by_ (fun t k => XS.iload X0.here hx rfl (hb hby d_cl2_15) rfl k) ?_
  show OGo p e below _ (s₁.setTop (mkF m 17 #[.val (.ref c8), .val (.int (0 : Int32)), .val (.ref b), .val (.int (0 : Int32)), .val (.int (2 : Int32)), .val (.int (0 : Int32)), .val (.int x)] [(.int x)]))
  refine OGo.by_ (fun t k => XS.sipush X0.here hx rfl (hb hby d_cl2_17) k) ?_
  show OGo p e below _ (s₁.setTop (mkF m 20 #[.val (.ref c8), .val (.int (0 : Int32)), .val (.ref b), .val (.int (0 : Int32)), .val (.int (2 : Int32)), .val (.int (0 : Int32)), .val (.int x)] [(.int (255 : Int32)), (.int x)]))
  refine OGo.by_ (fun t k => XS.icmpYes X0.here hx rfl (pc0 := 20) (pc' := 26) rfl (hb hby d_cl2_20) rfl (flt (own_chle c_x)).2.2.2 (by decide) (by decide) k) ?_
  show OGo p e below _ (s₁.setTop (mkF m 26 #[.val (.ref c8), .val (.int (0 : Int32)), .val (.ref b), .val (.int (0 : Int32)), .val (.int (2 : Int32)), .val (.int (0 : Int32)), .val (.int x)] []))
  refine OGo.by_ (fun t k => XS.aloadN X0.here hx rfl (hb hby d_cl2_26) rfl rfl k) ?_
  show OGo p e below _ (s₁.setTop (mkF m 27 #[.val (.ref c8), .val (.int (0 : Int32)), .val (.ref b), .val (.int (0 : Int32)), .val (.int (2 : Int32)), .val (.int (0 : Int32)), .val (.int x)] [(.ref b)]))
  refine OGo.by_ (fun t k => XS.iloadN X0.here hx rfl (hb hby d_cl2_27) rfl k) ?_
  show OGo p e below _ (s₁.setTop (mkF m 28 #[.val (.ref c8), .val (.int (0 : Int32)), .val (.ref b), .val (.int (0 : Int32)), .val (.int (2 : Int32)), .val (.int (0 : Int32)), .val (.int x)] [(.int (0 : Int32)), (.ref b)]))
  refine OGo.by_ (fun t k => XS.iload X0.here hx rfl (hb hby d_cl2_28) rfl k) ?_
  show OGo p e below _ (s₁.setTop (mkF m 30 #[.val (.ref c8), .val (.int (0 : Int32)), .val (.ref b), .val (.int (0 : Int32)), .val (.int (2 : Int32)), .val (.int (0 : Int32)), .val (.int x)] [(.int x), (.int (0 : Int32)), (.ref b)]))
  refine OGo.by_ (fun t k => XS.i2b X0.here hx rfl (hb hby d_cl2_30) rfl k) ?_
  show OGo p e below _ (s₁.setTop (mkF m 31 #[.val (.ref c8), .val (.int (0 : Int32)), .val (.ref b), .val (.int (0 : Int32)), .val (.int (2 : Int32)), .val (.int (0 : Int32)), .val (.int x)] [(.int (x.toInt8.toInt32)), (.int (0 : Int32)), (.ref b)]))
  obtain ⟨cl2, Ar2, q2, S2, Nn2, H2, G2⟩ := id Vb
  obtain ⟨T3, h3, X3, e3, W3, st3⟩ := stB X0 hx hZ e0 Ar2 (j := (0 : Int32)) (inb_of S2 ⟨(by decide : ¬ (0 : Int32) < 0), (by decide : (0 : Int32) < (2 : Int32))⟩) (g := (mkF m 31 #[.val (.ref c8), .val (.int (0 : Int32)), .val (.ref b), .val (.int (0 : Int32)), .val (.int (2 : Int32)), .val (.int (0 : Int32)), .val (.int x)] [(.int (x.toInt8.toInt32)), (.int (0 : Int32)), (.ref b)])) rfl rfl (hb hby d_cl2_31)
  refine OGo.by_ st3 ?_
  show OGo p e below _ (T3.setTop (mkF m 32 #[.val (.ref c8), .val (.int (0 : Int32)), .val (.ref b), .val (.int (0 : Int32)), .val (.int (2 : Int32)), .val (.int (0 : Int32)), .val (.int x)] []))
  have N3 := Fr.snoc X3 N0 gb
  rw [own_nb8] at W3
  have U1 := Arv.set Ar2 q2 S2 Nn2 H2 G2 (fits_nar_byte _) W3 0 (by decide) (Nat.le_of_ble_eq_true rfl)
  have C1 := Vc.other W3 hcb
  have K1_ := Keep.wr (Keep.refl h0 [b]) W3 (Or.inl (List.mem_singleton.mpr rfl))
  refine OGo.by_ (fun t k => XS.iinc X3.here hx rfl (hb hby d_cl2_32) rfl (l' := #[.val (.ref c8), .val (.int (1 : Int32)), .val (.ref b), .val (.int (0 : Int32)), .val (.int (2 : Int32)), .val (.int (0 : Int32)), .val (.int x)]) rfl k) ?_
  show OGo p e below _ (T3.setTop (mkF m 35 #[.val (.ref c8), .val (.int (1 : Int32)), .val (.ref b), .val (.int (0 : Int32)), .val (.int (2 : Int32)), .val (.int (0 : Int32)), .val (.int x)] []))
  refine OGo.by_ (fun t k => XS.iinc X3.here hx rfl (hb hby d_cl2_35) rfl (l' := #[.val (.ref c8), .val (.int (1 : Int32)), .val (.ref b), .val (.int (1 : Int32)), .val (.int (2 : Int32)), .val (.int (0 : Int32)), .val (.int x)]) rfl k) ?_
  show OGo p e below _ (T3.setTop (mkF m 38 #[.val (.ref c8), .val (.int (1 : Int32)), .val (.ref b), .val (.int (1 : Int32)), .val (.int (2 : Int32)), .val (.int (0 : Int32)), .val (.int x)] []))
  refine OGo.by_ (fun t k => XS.iinc X3.here hx rfl (hb hby d_cl2_38) rfl (l' := #[.val (.ref c8), .val (.int (1 : Int32)), .val (.ref b), .val (.int (1 : Int32)), .val (.int (2 : Int32)), .val (.int (1 : Int32)), .val (.int x)]) rfl k) ?_
  show OGo p e below _ (T3.setTop (mkF m 41 #[.val (.ref c8), .val (.int (1 : Int32)), .val (.ref b), .val (.int (1 : Int32)), .val (.int (2 : Int32)), .val (.int (1 : Int32)), .val (.int x)] []))
  refine OGo.by_ (fun t k => XS.goto X3.here hx rfl (pc0 := 41) (pc' := 3) rfl (hb hby d_cl2_41) (by decide) (by decide) k) ?_
  show OGo p e below _ (T3.setTop (mkF m 3 #[.val (.ref c8), .val (.int (1 : Int32)), .val (.ref b), .val (.int (1 : Int32)), .val (.int (2 : Int32)), .val (.int (1 : Int32)), .val (.int x)] []))
  refine OGo.by_ (fun t k => XS.iload X3.here hx rfl (hb hby d_cl2_3) rfl k) ?_
  show OGo p e below _ (T3.setTop (mkF m 5 #[.val (.ref c8), .val (.int (1 : Int32)), .val (.ref b), .val (.int (1 : Int32)), .val (.int (2 : Int32)), .val (.int (1 : Int32)), .val (.int x)] [(.int (1 : Int32))]))
  refine OGo.by_ (fun t k => XS.iload X3.here hx rfl (hb hby d_cl2_5) rfl k) ?_
  show OGo p e below _ (T3.setTop (mkF m 7 #[.val (.ref c8), .val (.int (1 : Int32)), .val (.ref b), .val (.int (1 : Int32)), .val (.int (2 : Int32)), .val (.int (1 : Int32)), .val (.int x)] [(.int (2 : Int32)), (.int (1 : Int32))]))
  refine OGo.by_ (fun t k => XS.icmpNo X3.here hx rfl (hb hby d_cl2_7) rfl (tlt (by decide)).2.1 k) ?_
  show OGo p e below _ (T3.setTop (mkF m 10 #[.val (.ref c8), .val (.int (1 : Int32)), .val (.ref b), .val (.int (1 : Int32)), .val (.int (2 : Int32)), .val (.int (1 : Int32)), .val (.int x)] []))
  refine OGo.by_ (fun t k => XS.aloadN X3.here hx rfl (hb hby d_cl2_10) rfl rfl k) ?_
  show OGo p e below _ (T3.setTop (mkF m 11 #[.val (.ref c8), .val (.int (1 : Int32)), .val (.ref b), .val (.int (1 : Int32)), .val (.int (2 : Int32)), .val (.int (1 : Int32)), .val (.int x)] [(.ref c8)]))
  refine OGo.by_ (fun t k => XS.iloadN X3.here hx rfl (hb hby d_cl2_11) rfl k) ?_
  show OGo p e below _ (T3.setTop (mkF m 12 #[.val (.ref c8), .val (.int (1 : Int32)), .val (.ref b), .val (.int (1 : Int32)), .val (.int (2 : Int32)), .val (.int (1 : Int32)), .val (.int x)] [(.int (1 : Int32)), (.ref c8)]))
  obtain ⟨cl4, Ar4, q4, S4, Nn4, H4, G4⟩ := id C1
  have in4 := inb_of S4 ⟨(by decide : ¬ (1 : Int32) < 0), (by decide : (1 : Int32) < (2 : Int32))⟩
  refine OGo.by_ (fun t kk => X3.caload hx (j := (1 : Int32)) (v := (.int y)) (by rw [e3]; exact Ar4.1) (State.isArrayOf_alike hZ.alike Ar4.2.1) Ar4.2.2 in4 (H4.at in4 (rfl)) (g := (mkF m 12 #[.val (.ref c8), .val (.int (1 : Int32)), .val (.ref b), .val (.int (1 : Int32)), .val (.int (2 : Int32)), .val (.int (1 : Int32)), .val (.int x)] [(.int (1 : Int32)), (.ref c8)])) rfl rfl (hb hby d_cl2_12) _ kk) ?_
  show OGo p e below _ (T3.setTop (mkF m 13 #[.val (.ref c8), .val (.int (1 : Int32)), .val (.ref b), .val (.int (1 : Int32)), .val (.int (2 : Int32)), .val (.int (1 : Int32)), .val (.int x)] [(.int y)]))
  refine OGo.by_ (fun t k => XS.istore X3.here hx rfl (hb hby d_cl2_13) rfl (l' := #[.val (.ref c8), .val (.int (1 : Int32)), .val (.ref b), .val (.int (1 : Int32)), .val (.int (2 : Int32)), .val (.int (1 : Int32)), .val (.int y)]) rfl k) ?_
  show OGo p e below _ (T3.setTop (mkF m 15 #[.val (.ref c8), .val (.int (1 : Int32)), .val (.ref b), .val (.int (1 : Int32)), .val (.int (2 : Int32)), .val (.int (1 : Int32)), .val (.int y)] []))
  refine OGo.by_ (fun t k => XS.iload X3.here hx rfl (hb hby d_cl2_15) rfl k) ?_
  show OGo p e below _ (T3.setTop (mkF m 17 #[.val (.ref c8), .val (.int (1 : Int32)), .val (.ref b), .val (.int (1 : Int32)), .val (.int (2 : Int32)), .val (.int (1 : Int32)), .val (.int y)] [(.int y)]))
  refine OGo.by_ (fun t k => XS.sipush X3.here hx rfl (hb hby d_cl2_17) k) ?_
  show OGo p e below _ (T3.setTop (mkF m 20 #[.val (.ref c8), .val (.int (1 : Int32)), .val (.ref b), .val (.int (1 : Int32)), .val (.int (2 : Int32)), .val (.int (1 : Int32)), .val (.int y)] [(.int (255 : Int32)), (.int y)]))
  refine OGo.by_ (fun t k => XS.icmpYes X3.here hx rfl (pc0 := 20) (pc' := 26) rfl (hb hby d_cl2_20) rfl (flt (own_chle c_y)).2.2.2 (by decide) (by decide) k) ?_
  show OGo p e below _ (T3.setTop (mkF m 26 #[.val (.ref c8), .val (.int (1 : Int32)), .val (.ref b), .val (.int (1 : Int32)), .val (.int (2 : Int32)), .val (.int (1 : Int32)), .val (.int y)] []))
  refine OGo.by_ (fun t k => XS.aloadN X3.here hx rfl (hb hby d_cl2_26) rfl rfl k) ?_
  show OGo p e below _ (T3.setTop (mkF m 27 #[.val (.ref c8), .val (.int (1 : Int32)), .val (.ref b), .val (.int (1 : Int32)), .val (.int (2 : Int32)), .val (.int (1 : Int32)), .val (.int y)] [(.ref b)]))
  refine OGo.by_ (fun t k => XS.iloadN X3.here hx rfl (hb hby d_cl2_27) rfl k) ?_
  show OGo p e below _ (T3.setTop (mkF m 28 #[.val (.ref c8), .val (.int (1 : Int32)), .val (.ref b), .val (.int (1 : Int32)), .val (.int (2 : Int32)), .val (.int (1 : Int32)), .val (.int y)] [(.int (1 : Int32)), (.ref b)]))
  refine OGo.by_ (fun t k => XS.iload X3.here hx rfl (hb hby d_cl2_28) rfl k) ?_
  show OGo p e below _ (T3.setTop (mkF m 30 #[.val (.ref c8), .val (.int (1 : Int32)), .val (.ref b), .val (.int (1 : Int32)), .val (.int (2 : Int32)), .val (.int (1 : Int32)), .val (.int y)] [(.int y), (.int (1 : Int32)), (.ref b)]))
  refine OGo.by_ (fun t k => XS.i2b X3.here hx rfl (hb hby d_cl2_30) rfl k) ?_
  show OGo p e below _ (T3.setTop (mkF m 31 #[.val (.ref c8), .val (.int (1 : Int32)), .val (.ref b), .val (.int (1 : Int32)), .val (.int (2 : Int32)), .val (.int (1 : Int32)), .val (.int y)] [(.int (y.toInt8.toInt32)), (.int (1 : Int32)), (.ref b)]))
  obtain ⟨cl5, Ar5, q5, S5, Nn5, H5, G5⟩ := id U1
  obtain ⟨T6, h6, X6, e6, W6, st6⟩ := stB X3 hx hZ e3 Ar5 (j := (1 : Int32)) (inb_of S5 ⟨(by decide : ¬ (1 : Int32) < 0), (by decide : (1 : Int32) < (2 : Int32))⟩) (g := (mkF m 31 #[.val (.ref c8), .val (.int (1 : Int32)), .val (.ref b), .val (.int (1 : Int32)), .val (.int (2 : Int32)), .val (.int (1 : Int32)), .val (.int y)] [(.int (y.toInt8.toInt32)), (.int (1 : Int32)), (.ref b)])) rfl rfl (hb hby d_cl2_31)
  refine OGo.by_ st6 ?_
  show OGo p e below _ (T6.setTop (mkF m 32 #[.val (.ref c8), .val (.int (1 : Int32)), .val (.ref b), .val (.int (1 : Int32)), .val (.int (2 : Int32)), .val (.int (1 : Int32)), .val (.int y)] []))
  have N6 := Fr.snoc X6 N3 gb
  rw [own_nb8] at W6
  have U2 := Arv.set Ar5 q5 S5 Nn5 H5 G5 (fits_nar_byte _) W6 1 (by decide) (Nat.le_of_ble_eq_true rfl)
  have C2 := C1.other W6 hcb
  have K2_ := Keep.wr K1_ W6 (Or.inl (List.mem_singleton.mpr rfl))
  refine OGo.by_ (fun t k => XS.iinc X6.here hx rfl (hb hby d_cl2_32) rfl (l' := #[.val (.ref c8), .val (.int (2 : Int32)), .val (.ref b), .val (.int (1 : Int32)), .val (.int (2 : Int32)), .val (.int (1 : Int32)), .val (.int y)]) rfl k) ?_
  show OGo p e below _ (T6.setTop (mkF m 35 #[.val (.ref c8), .val (.int (2 : Int32)), .val (.ref b), .val (.int (1 : Int32)), .val (.int (2 : Int32)), .val (.int (1 : Int32)), .val (.int y)] []))
  refine OGo.by_ (fun t k => XS.iinc X6.here hx rfl (hb hby d_cl2_35) rfl (l' := #[.val (.ref c8), .val (.int (2 : Int32)), .val (.ref b), .val (.int (2 : Int32)), .val (.int (2 : Int32)), .val (.int (1 : Int32)), .val (.int y)]) rfl k) ?_
  show OGo p e below _ (T6.setTop (mkF m 38 #[.val (.ref c8), .val (.int (2 : Int32)), .val (.ref b), .val (.int (2 : Int32)), .val (.int (2 : Int32)), .val (.int (1 : Int32)), .val (.int y)] []))
  refine OGo.by_ (fun t k => XS.iinc X6.here hx rfl (hb hby d_cl2_38) rfl (l' := #[.val (.ref c8), .val (.int (2 : Int32)), .val (.ref b), .val (.int (2 : Int32)), .val (.int (2 : Int32)), .val (.int (2 : Int32)), .val (.int y)]) rfl k) ?_
  show OGo p e below _ (T6.setTop (mkF m 41 #[.val (.ref c8), .val (.int (2 : Int32)), .val (.ref b), .val (.int (2 : Int32)), .val (.int (2 : Int32)), .val (.int (2 : Int32)), .val (.int y)] []))
  refine OGo.by_ (fun t k => XS.goto X6.here hx rfl (pc0 := 41) (pc' := 3) rfl (hb hby d_cl2_41) (by decide) (by decide) k) ?_
  show OGo p e below _ (T6.setTop (mkF m 3 #[.val (.ref c8), .val (.int (2 : Int32)), .val (.ref b), .val (.int (2 : Int32)), .val (.int (2 : Int32)), .val (.int (2 : Int32)), .val (.int y)] []))
  refine OGo.by_ (fun t k => XS.iload X6.here hx rfl (hb hby d_cl2_3) rfl k) ?_
  show OGo p e below _ (T6.setTop (mkF m 5 #[.val (.ref c8), .val (.int (2 : Int32)), .val (.ref b), .val (.int (2 : Int32)), .val (.int (2 : Int32)), .val (.int (2 : Int32)), .val (.int y)] [(.int (2 : Int32))]))
  refine OGo.by_ (fun t k => XS.iload X6.here hx rfl (hb hby d_cl2_5) rfl k) ?_
  show OGo p e below _ (T6.setTop (mkF m 7 #[.val (.ref c8), .val (.int (2 : Int32)), .val (.ref b), .val (.int (2 : Int32)), .val (.int (2 : Int32)), .val (.int (2 : Int32)), .val (.int y)] [(.int (2 : Int32)), (.int (2 : Int32))]))
  refine OGo.by_ (fun t k => XS.icmpYes X6.here hx rfl (pc0 := 7) (pc' := 44) rfl (hb hby d_cl2_7) rfl (flt (by decide)).2.1 (by decide) (by decide) k) ?_
  show OGo p e below _ (T6.setTop (mkF m 44 #[.val (.ref c8), .val (.int (2 : Int32)), .val (.ref b), .val (.int (2 : Int32)), .val (.int (2 : Int32)), .val (.int (2 : Int32)), .val (.int y)] []))
  refine OGo.by_ (fun t k => XS.iload X6.here hx rfl (hb hby d_cl2_44) rfl k) ?_
  show OGo p e below _ (T6.setTop (mkF m 46 #[.val (.ref c8), .val (.int (2 : Int32)), .val (.ref b), .val (.int (2 : Int32)), .val (.int (2 : Int32)), .val (.int (2 : Int32)), .val (.int y)] [(.int (2 : Int32))]))
  exact own_retI X6 hx hlk hret (hb hby d_cl2_46) (by decide) (by decide) (by rw [e6]; exact ⟨rfl, N6, K2_, show Arv Z _ b kb .byte (2 : Int32) [(.int x.toInt8.toInt32), (.int y.toInt8.toInt32)] (.int (0 : Int32)) from U2⟩)
theorem d_cl3_0 : decode jdk_52_method_21_code 0 = .ok (.iconst 0, 1) := by decide +kernel
theorem d_cl3_1 : decode jdk_52_method_21_code 1 = .ok (.istore 5, 2) := by decide +kernel
theorem d_cl3_3 : decode jdk_52_method_21_code 3 = .ok (.iload 5, 2) := by decide +kernel
theorem d_cl3_5 : decode jdk_52_method_21_code 5 = .ok (.iload 4, 2) := by decide +kernel
theorem d_cl3_7 : decode jdk_52_method_21_code 7 = .ok (.if_icmp .ge 37, 3) := by decide +kernel
theorem d_cl3_10 : decode jdk_52_method_21_code 10 = .ok (.aload_n 0, 1) := by decide +kernel
theorem d_cl3_11 : decode jdk_52_method_21_code 11 = .ok (.iload_n 1, 1) := by decide +kernel
theorem d_cl3_12 : decode jdk_52_method_21_code 12 = .ok (.caload, 1) := by decide +kernel
theorem d_cl3_13 : decode jdk_52_method_21_code 13 = .ok (.istore 6, 2) := by decide +kernel
theorem d_cl3_15 : decode jdk_52_method_21_code 15 = .ok (.iload 6, 2) := by decide +kernel
theorem d_cl3_17 : decode jdk_52_method_21_code 17 = .ok (.sipush 255, 3) := by decide +kernel
theorem d_cl3_20 : decode jdk_52_method_21_code 20 = .ok (.if_icmp .le 6, 3) := by decide +kernel
theorem d_cl3_26 : decode jdk_52_method_21_code 26 = .ok (.aload_n 2, 1) := by decide +kernel
theorem d_cl3_27 : decode jdk_52_method_21_code 27 = .ok (.iload_n 3, 1) := by decide +kernel
theorem d_cl3_28 : decode jdk_52_method_21_code 28 = .ok (.iload 6, 2) := by decide +kernel
theorem d_cl3_30 : decode jdk_52_method_21_code 30 = .ok (.i2b, 1) := by decide +kernel
theorem d_cl3_31 : decode jdk_52_method_21_code 31 = .ok (.bastore, 1) := by decide +kernel
theorem d_cl3_32 : decode jdk_52_method_21_code 32 = .ok (.iinc 1 1, 3) := by decide +kernel
theorem d_cl3_35 : decode jdk_52_method_21_code 35 = .ok (.iinc 3 1, 3) := by decide +kernel
theorem d_cl3_38 : decode jdk_52_method_21_code 38 = .ok (.iinc 5 1, 3) := by decide +kernel
theorem d_cl3_41 : decode jdk_52_method_21_code 41 = .ok (.goto (-38), 3) := by decide +kernel
theorem d_cl3_44 : decode jdk_52_method_21_code 44 = .ok (.iload 4, 2) := by decide +kernel
theorem d_cl3_46 : decode jdk_52_method_21_code 46 = .ok (.ireturn, 1) := by decide +kernel
theorem ef_cl3 (m : MethodId) (x0 : Addr) (x1 : Int32) (x2 : Addr) (x3 : Int32) (x4 : Int32) : entryFrame m #[(.ref x0), (.int x1), (.ref x2), (.int x3), (.int x4)] 7 = mkF m 0 #[.val (.ref x0), .val (.int x1), .val (.ref x2), .val (.int x3), .val (.int x4), .unset, .unset] [] := by first | (simp [entryFrame, mkF, argsToLocals, Value.category]; done) | rfl
def Q_cl3 (Z : State) (c8 b : Addr) (kc kb : ClassId) (x y z : Int32) (h0 : Heap) (n0 : Nat) (v : Option Value) (h : Heap) (L : List Loc) : Prop := v = some (.int (3 : Int32)) ∧ Fr n0 L ∧ Keep h0 h [b] ∧ Arv Z h b kb .byte (3 : Int32) [(.int x.toInt8.toInt32), (.int y.toInt8.toInt32), (.int z.toInt8.toInt32)] (.int (0 : Int32))
set_option maxRecDepth 65536 in
set_option maxHeartbeats 40000000 in
theorem rm_cl3 (l : Launch) (Z : State) (a0 : Array Value) (hw : ∀ d ∈ tables_1, d.before a0 Z = true) (ws : List Jvm.Cond) (c8 b : Addr) (kc kb : ClassId) (x y z : Int32) (h0 : Heap) (n0 : Nat) (Z0 : n0 ≤ h0.size) (Vc : Arv Z h0 c8 kc .char (3 : Int32) [(.int x), (.int y), (.int z)] (.int (0 : Int32))) (Vb : Arv Z h0 b kb .byte (3 : Int32) [(.int (0 : Int32)), (.int (0 : Int32)), (.int (0 : Int32))] (.int (0 : Int32))) (hcb : c8 ≠ b) (gb : n0 ≤ b) (c_x : own_ch x) (c_y : own_ch y) (c_z : own_ch z) :
    MetFree l (⟨"java/lang/StringUTF16", "compress", "([CI[BII)I"⟩ : MethodName) (head1 (Jvm.Cond.code (⟨"java/lang/StringUTF16", "compress", "([CI[BII)I"⟩ : MethodName) jdk_52_method_21_code 7 (some .int) :: ws) ({ frames := 0, cells := 0, slots := 0, locals := 0 } : Room)) (fun a_ U => a_ = #[(.ref c8), (.int (0 : Int32)), (.ref b), (.int (0 : Int32)), (.int (3 : Int32))] ∧ Z.Warmed39 U.vm ∧ U.heap = h0) (fun _ _ _ _ _ => True) (fun _ U o U' => ∃ v L, o = .returned v ∧ Q_cl3 Z c8 b kc kb x y z h0 n0 v U'.heap L ∧ FrameEnd U o U' L ({ frames := 0, cells := 0, slots := 0, locals := 0 } : Room).cells ({ frames := 0, cells := 0, slots := 0, locals := 0 } : Room).slots) := by
  refine MetFree.of_bodySF (plainFor_of_name pn_java_lang_StringUTF16) hisR ?_
  intro p e s m args below meth c s₁ Bd hml0 hP hK
  obtain ⟨rfl, hZ, hh⟩ := hP
  have hx := Bd.exec
  have hby := Bd.bytes
  have hml : c.maxLocals = 7 := hml0
  have hown : s.vm.findClass "java/lang/StringUTF16" = some m.cls := findClass_of_methodNamed Bd.named
  have hnm := (name_of_methodNamed Bd.named Bd.method).1
  have X0 : Stand p l e ({ frames := 0, cells := 0, slots := 0, locals := 0 } : Room) s m #[(.ref c8), (.int (0 : Int32)), (.ref b), (.int (0 : Int32)), (.int (3 : Int32))] below meth c s₁ [] 0 0 := Stand.of_body Bd
  have e0 : s₁.heap = h0 := by rw [← hh, Bd.state]; rfl
  have N0 := Fr.nil n0
  have hlk := Bd.notSynchronized
  have hret := Bd.returns
  show OGo p e below (OEnd s (Q_cl3 Z c8 b kc kb x y z h0 n0) ({ frames := 0, cells := 0, slots := 0, locals := 0 } : Room).cells ({ frames := 0, cells := 0, slots := 0, locals := 0 } : Room).slots) (s₁.setTop (entryFrame m #[(.ref c8), (.int (0 : Int32)), (.ref b), (.int (0 : Int32)), (.int (3 : Int32))] 7))
  rw [ef_cl3]
  show OGo p e below _ (s₁.setTop (mkF m 0 #[.val (.ref c8), .val (.int (0 : Int32)), .val (.ref b), .val (.int (0 : Int32)), .val (.int (3 : Int32)), .unset, .unset] []))
  refine OGo.by_ (fun t k => XS.iconst X0.here hx rfl (hb hby d_cl3_0) k) ?_
  show OGo p e below _ (s₁.setTop (mkF m 1 #[.val (.ref c8), .val (.int (0 : Int32)), .val (.ref b), .val (.int (0 : Int32)), .val (.int (3 : Int32)), .unset, .unset] [(.int (0 : Int32))]))
  refine OGo.by_ (fun t k => XS.istore X0.here hx rfl (hb hby d_cl3_1) rfl (l' := #[.val (.ref c8), .val (.int (0 : Int32)), .val (.ref b), .val (.int (0 : Int32)), .val (.int (3 : Int32)), .val (.int (0 : Int32)), .unset]) rfl k) ?_
  show OGo p e below _ (s₁.setTop (mkF m 3 #[.val (.ref c8), .val (.int (0 : Int32)), .val (.ref b), .val (.int (0 : Int32)), .val (.int (3 : Int32)), .val (.int (0 : Int32)), .unset] []))
  refine OGo.by_ (fun t k => XS.iload X0.here hx rfl (hb hby d_cl3_3) rfl k) ?_
  show OGo p e below _ (s₁.setTop (mkF m 5 #[.val (.ref c8), .val (.int (0 : Int32)), .val (.ref b), .val (.int (0 : Int32)), .val (.int (3 : Int32)), .val (.int (0 : Int32)), .unset] [(.int (0 : Int32))]))
  refine OGo.by_ (fun t k => XS.iload X0.here hx rfl (hb hby d_cl3_5) rfl k) ?_
  show OGo p e below _ (s₁.setTop (mkF m 7 #[.val (.ref c8), .val (.int (0 : Int32)), .val (.ref b), .val (.int (0 : Int32)), .val (.int (3 : Int32)), .val (.int (0 : Int32)), .unset] [(.int (3 : Int32)), (.int (0 : Int32))]))
  refine OGo.by_ (fun t k => XS.icmpNo X0.here hx rfl (hb hby d_cl3_7) rfl (tlt (by decide)).2.1 k) ?_
  show OGo p e below _ (s₁.setTop (mkF m 10 #[.val (.ref c8), .val (.int (0 : Int32)), .val (.ref b), .val (.int (0 : Int32)), .val (.int (3 : Int32)), .val (.int (0 : Int32)), .unset] []))
  refine OGo.by_ (fun t k => XS.aloadN X0.here hx rfl (hb hby d_cl3_10) rfl rfl k) ?_
  show OGo p e below _ (s₁.setTop (mkF m 11 #[.val (.ref c8), .val (.int (0 : Int32)), .val (.ref b), .val (.int (0 : Int32)), .val (.int (3 : Int32)), .val (.int (0 : Int32)), .unset] [(.ref c8)]))
  refine OGo.by_ (fun t k => XS.iloadN X0.here hx rfl (hb hby d_cl3_11) rfl k) ?_
  show OGo p e below _ (s₁.setTop (mkF m 12 #[.val (.ref c8), .val (.int (0 : Int32)), .val (.ref b), .val (.int (0 : Int32)), .val (.int (3 : Int32)), .val (.int (0 : Int32)), .unset] [(.int (0 : Int32)), (.ref c8)]))
  obtain ⟨cl1, Ar1, q1, S1, Nn1, H1, G1⟩ := id Vc
  have in1 := inb_of S1 ⟨(by decide : ¬ (0 : Int32) < 0), (by decide : (0 : Int32) < (3 : Int32))⟩
  refine OGo.by_ (fun t kk => X0.caload hx (j := (0 : Int32)) (v := (.int x)) (by rw [e0]; exact Ar1.1) (State.isArrayOf_alike hZ.alike Ar1.2.1) Ar1.2.2 in1 (H1.at in1 (rfl)) (g := (mkF m 12 #[.val (.ref c8), .val (.int (0 : Int32)), .val (.ref b), .val (.int (0 : Int32)), .val (.int (3 : Int32)), .val (.int (0 : Int32)), .unset] [(.int (0 : Int32)), (.ref c8)])) rfl rfl (hb hby d_cl3_12) _ kk) ?_
  show OGo p e below _ (s₁.setTop (mkF m 13 #[.val (.ref c8), .val (.int (0 : Int32)), .val (.ref b), .val (.int (0 : Int32)), .val (.int (3 : Int32)), .val (.int (0 : Int32)), .unset] [(.int x)]))
  refine OGo.by_ (fun t k => XS.istore X0.here hx rfl (hb hby d_cl3_13) rfl (l' := #[.val (.ref c8), .val (.int (0 : Int32)), .val (.ref b), .val (.int (0 : Int32)), .val (.int (3 : Int32)), .val (.int (0 : Int32)), .val (.int x)]) rfl k) ?_
  show OGo p e below _ (s₁.setTop (mkF m 15 #[.val (.ref c8), .val (.int (0 : Int32)), .val (.ref b), .val (.int (0 : Int32)), .val (.int (3 : Int32)), .val (.int (0 : Int32)), .val (.int x)] []))
  refine OGo.by_ (fun t k => XS.iload X0.here hx rfl (hb hby d_cl3_15) rfl k) ?_
  show OGo p e below _ (s₁.setTop (mkF m 17 #[.val (.ref c8), .val (.int (0 : Int32)), .val (.ref b), .val (.int (0 : Int32)), .val (.int (3 : Int32)), .val (.int (0 : Int32)), .val (.int x)] [(.int x)]))
  refine OGo.by_ (fun t k => XS.sipush X0.here hx rfl (hb hby d_cl3_17) k) ?_
  show OGo p e below _ (s₁.setTop (mkF m 20 #[.val (.ref c8), .val (.int (0 : Int32)), .val (.ref b), .val (.int (0 : Int32)), .val (.int (3 : Int32)), .val (.int (0 : Int32)), .val (.int x)] [(.int (255 : Int32)), (.int x)]))
  refine OGo.by_ (fun t k => XS.icmpYes X0.here hx rfl (pc0 := 20) (pc' := 26) rfl (hb hby d_cl3_20) rfl (flt (own_chle c_x)).2.2.2 (by decide) (by decide) k) ?_
  show OGo p e below _ (s₁.setTop (mkF m 26 #[.val (.ref c8), .val (.int (0 : Int32)), .val (.ref b), .val (.int (0 : Int32)), .val (.int (3 : Int32)), .val (.int (0 : Int32)), .val (.int x)] []))
  refine OGo.by_ (fun t k => XS.aloadN X0.here hx rfl (hb hby d_cl3_26) rfl rfl k) ?_
  show OGo p e below _ (s₁.setTop (mkF m 27 #[.val (.ref c8), .val (.int (0 : Int32)), .val (.ref b), .val (.int (0 : Int32)), .val (.int (3 : Int32)), .val (.int (0 : Int32)), .val (.int x)] [(.ref b)]))
  refine OGo.by_ (fun t k => XS.iloadN X0.here hx rfl (hb hby d_cl3_27) rfl k) ?_
  show OGo p e below _ (s₁.setTop (mkF m 28 #[.val (.ref c8), .val (.int (0 : Int32)), .val (.ref b), .val (.int (0 : Int32)), .val (.int (3 : Int32)), .val (.int (0 : Int32)), .val (.int x)] [(.int (0 : Int32)), (.ref b)]))
  refine OGo.by_ (fun t k => XS.iload X0.here hx rfl (hb hby d_cl3_28) rfl k) ?_
  show OGo p e below _ (s₁.setTop (mkF m 30 #[.val (.ref c8), .val (.int (0 : Int32)), .val (.ref b), .val (.int (0 : Int32)), .val (.int (3 : Int32)), .val (.int (0 : Int32)), .val (.int x)] [(.int x), (.int (0 : Int32)), (.ref b)]))
  refine OGo.by_ (fun t k => XS.i2b X0.here hx rfl (hb hby d_cl3_30) rfl k) ?_
  show OGo p e below _ (s₁.setTop (mkF m 31 #[.val (.ref c8), .val (.int (0 : Int32)), .val (.ref b), .val (.int (0 : Int32)), .val (.int (3 : Int32)), .val (.int (0 : Int32)), .val (.int x)] [(.int (x.toInt8.toInt32)), (.int (0 : Int32)), (.ref b)]))
  obtain ⟨cl2, Ar2, q2, S2, Nn2, H2, G2⟩ := id Vb
  obtain ⟨T3, h3, X3, e3, W3, st3⟩ := stB X0 hx hZ e0 Ar2 (j := (0 : Int32)) (inb_of S2 ⟨(by decide : ¬ (0 : Int32) < 0), (by decide : (0 : Int32) < (3 : Int32))⟩) (g := (mkF m 31 #[.val (.ref c8), .val (.int (0 : Int32)), .val (.ref b), .val (.int (0 : Int32)), .val (.int (3 : Int32)), .val (.int (0 : Int32)), .val (.int x)] [(.int (x.toInt8.toInt32)), (.int (0 : Int32)), (.ref b)])) rfl rfl (hb hby d_cl3_31)
  refine OGo.by_ st3 ?_
  show OGo p e below _ (T3.setTop (mkF m 32 #[.val (.ref c8), .val (.int (0 : Int32)), .val (.ref b), .val (.int (0 : Int32)), .val (.int (3 : Int32)), .val (.int (0 : Int32)), .val (.int x)] []))
  have N3 := Fr.snoc X3 N0 gb
  rw [own_nb8] at W3
  have U1 := Arv.set Ar2 q2 S2 Nn2 H2 G2 (fits_nar_byte _) W3 0 (by decide) (Nat.le_of_ble_eq_true rfl)
  have C1 := Vc.other W3 hcb
  have K1_ := Keep.wr (Keep.refl h0 [b]) W3 (Or.inl (List.mem_singleton.mpr rfl))
  refine OGo.by_ (fun t k => XS.iinc X3.here hx rfl (hb hby d_cl3_32) rfl (l' := #[.val (.ref c8), .val (.int (1 : Int32)), .val (.ref b), .val (.int (0 : Int32)), .val (.int (3 : Int32)), .val (.int (0 : Int32)), .val (.int x)]) rfl k) ?_
  show OGo p e below _ (T3.setTop (mkF m 35 #[.val (.ref c8), .val (.int (1 : Int32)), .val (.ref b), .val (.int (0 : Int32)), .val (.int (3 : Int32)), .val (.int (0 : Int32)), .val (.int x)] []))
  refine OGo.by_ (fun t k => XS.iinc X3.here hx rfl (hb hby d_cl3_35) rfl (l' := #[.val (.ref c8), .val (.int (1 : Int32)), .val (.ref b), .val (.int (1 : Int32)), .val (.int (3 : Int32)), .val (.int (0 : Int32)), .val (.int x)]) rfl k) ?_
  show OGo p e below _ (T3.setTop (mkF m 38 #[.val (.ref c8), .val (.int (1 : Int32)), .val (.ref b), .val (.int (1 : Int32)), .val (.int (3 : Int32)), .val (.int (0 : Int32)), .val (.int x)] []))
  refine OGo.by_ (fun t k => XS.iinc X3.here hx rfl (hb hby d_cl3_38) rfl (l' := #[.val (.ref c8), .val (.int (1 : Int32)), .val (.ref b), .val (.int (1 : Int32)), .val (.int (3 : Int32)), .val (.int (1 : Int32)), .val (.int x)]) rfl k) ?_
  show OGo p e below _ (T3.setTop (mkF m 41 #[.val (.ref c8), .val (.int (1 : Int32)), .val (.ref b), .val (.int (1 : Int32)), .val (.int (3 : Int32)), .val (.int (1 : Int32)), .val (.int x)] []))
  refine OGo.by_ (fun t k => XS.goto X3.here hx rfl (pc0 := 41) (pc' := 3) rfl (hb hby d_cl3_41) (by decide) (by decide) k) ?_
  show OGo p e below _ (T3.setTop (mkF m 3 #[.val (.ref c8), .val (.int (1 : Int32)), .val (.ref b), .val (.int (1 : Int32)), .val (.int (3 : Int32)), .val (.int (1 : Int32)), .val (.int x)] []))
  refine OGo.by_ (fun t k => XS.iload X3.here hx rfl (hb hby d_cl3_3) rfl k) ?_
  show OGo p e below _ (T3.setTop (mkF m 5 #[.val (.ref c8), .val (.int (1 : Int32)), .val (.ref b), .val (.int (1 : Int32)), .val (.int (3 : Int32)), .val (.int (1 : Int32)), .val (.int x)] [(.int (1 : Int32))]))
  refine OGo.by_ (fun t k => XS.iload X3.here hx rfl (hb hby d_cl3_5) rfl k) ?_
  show OGo p e below _ (T3.setTop (mkF m 7 #[.val (.ref c8), .val (.int (1 : Int32)), .val (.ref b), .val (.int (1 : Int32)), .val (.int (3 : Int32)), .val (.int (1 : Int32)), .val (.int x)] [(.int (3 : Int32)), (.int (1 : Int32))]))
  refine OGo.by_ (fun t k => XS.icmpNo X3.here hx rfl (hb hby d_cl3_7) rfl (tlt (by decide)).2.1 k) ?_
  show OGo p e below _ (T3.setTop (mkF m 10 #[.val (.ref c8), .val (.int (1 : Int32)), .val (.ref b), .val (.int (1 : Int32)), .val (.int (3 : Int32)), .val (.int (1 : Int32)), .val (.int x)] []))
  refine OGo.by_ (fun t k => XS.aloadN X3.here hx rfl (hb hby d_cl3_10) rfl rfl k) ?_
  show OGo p e below _ (T3.setTop (mkF m 11 #[.val (.ref c8), .val (.int (1 : Int32)), .val (.ref b), .val (.int (1 : Int32)), .val (.int (3 : Int32)), .val (.int (1 : Int32)), .val (.int x)] [(.ref c8)]))
  refine OGo.by_ (fun t k => XS.iloadN X3.here hx rfl (hb hby d_cl3_11) rfl k) ?_
  show OGo p e below _ (T3.setTop (mkF m 12 #[.val (.ref c8), .val (.int (1 : Int32)), .val (.ref b), .val (.int (1 : Int32)), .val (.int (3 : Int32)), .val (.int (1 : Int32)), .val (.int x)] [(.int (1 : Int32)), (.ref c8)]))
  obtain ⟨cl4, Ar4, q4, S4, Nn4, H4, G4⟩ := id C1
  have in4 := inb_of S4 ⟨(by decide : ¬ (1 : Int32) < 0), (by decide : (1 : Int32) < (3 : Int32))⟩
  refine OGo.by_ (fun t kk => X3.caload hx (j := (1 : Int32)) (v := (.int y)) (by rw [e3]; exact Ar4.1) (State.isArrayOf_alike hZ.alike Ar4.2.1) Ar4.2.2 in4 (H4.at in4 (rfl)) (g := (mkF m 12 #[.val (.ref c8), .val (.int (1 : Int32)), .val (.ref b), .val (.int (1 : Int32)), .val (.int (3 : Int32)), .val (.int (1 : Int32)), .val (.int x)] [(.int (1 : Int32)), (.ref c8)])) rfl rfl (hb hby d_cl3_12) _ kk) ?_
  show OGo p e below _ (T3.setTop (mkF m 13 #[.val (.ref c8), .val (.int (1 : Int32)), .val (.ref b), .val (.int (1 : Int32)), .val (.int (3 : Int32)), .val (.int (1 : Int32)), .val (.int x)] [(.int y)]))
  refine OGo.by_ (fun t k => XS.istore X3.here hx rfl (hb hby d_cl3_13) rfl (l' := #[.val (.ref c8), .val (.int (1 : Int32)), .val (.ref b), .val (.int (1 : Int32)), .val (.int (3 : Int32)), .val (.int (1 : Int32)), .val (.int y)]) rfl k) ?_
  show OGo p e below _ (T3.setTop (mkF m 15 #[.val (.ref c8), .val (.int (1 : Int32)), .val (.ref b), .val (.int (1 : Int32)), .val (.int (3 : Int32)), .val (.int (1 : Int32)), .val (.int y)] []))
  refine OGo.by_ (fun t k => XS.iload X3.here hx rfl (hb hby d_cl3_15) rfl k) ?_
  show OGo p e below _ (T3.setTop (mkF m 17 #[.val (.ref c8), .val (.int (1 : Int32)), .val (.ref b), .val (.int (1 : Int32)), .val (.int (3 : Int32)), .val (.int (1 : Int32)), .val (.int y)] [(.int y)]))
  refine OGo.by_ (fun t k => XS.sipush X3.here hx rfl (hb hby d_cl3_17) k) ?_
  show OGo p e below _ (T3.setTop (mkF m 20 #[.val (.ref c8), .val (.int (1 : Int32)), .val (.ref b), .val (.int (1 : Int32)), .val (.int (3 : Int32)), .val (.int (1 : Int32)), .val (.int y)] [(.int (255 : Int32)), (.int y)]))
  refine OGo.by_ (fun t k => XS.icmpYes X3.here hx rfl (pc0 := 20) (pc' := 26) rfl (hb hby d_cl3_20) rfl (flt (own_chle c_y)).2.2.2 (by decide) (by decide) k) ?_
  show OGo p e below _ (T3.setTop (mkF m 26 #[.val (.ref c8), .val (.int (1 : Int32)), .val (.ref b), .val (.int (1 : Int32)), .val (.int (3 : Int32)), .val (.int (1 : Int32)), .val (.int y)] []))
  refine OGo.by_ (fun t k => XS.aloadN X3.here hx rfl (hb hby d_cl3_26) rfl rfl k) ?_
  show OGo p e below _ (T3.setTop (mkF m 27 #[.val (.ref c8), .val (.int (1 : Int32)), .val (.ref b), .val (.int (1 : Int32)), .val (.int (3 : Int32)), .val (.int (1 : Int32)), .val (.int y)] [(.ref b)]))
  refine OGo.by_ (fun t k => XS.iloadN X3.here hx rfl (hb hby d_cl3_27) rfl k) ?_
  show OGo p e below _ (T3.setTop (mkF m 28 #[.val (.ref c8), .val (.int (1 : Int32)), .val (.ref b), .val (.int (1 : Int32)), .val (.int (3 : Int32)), .val (.int (1 : Int32)), .val (.int y)] [(.int (1 : Int32)), (.ref b)]))
  refine OGo.by_ (fun t k => XS.iload X3.here hx rfl (hb hby d_cl3_28) rfl k) ?_
  show OGo p e below _ (T3.setTop (mkF m 30 #[.val (.ref c8), .val (.int (1 : Int32)), .val (.ref b), .val (.int (1 : Int32)), .val (.int (3 : Int32)), .val (.int (1 : Int32)), .val (.int y)] [(.int y), (.int (1 : Int32)), (.ref b)]))
  refine OGo.by_ (fun t k => XS.i2b X3.here hx rfl (hb hby d_cl3_30) rfl k) ?_
  show OGo p e below _ (T3.setTop (mkF m 31 #[.val (.ref c8), .val (.int (1 : Int32)), .val (.ref b), .val (.int (1 : Int32)), .val (.int (3 : Int32)), .val (.int (1 : Int32)), .val (.int y)] [(.int (y.toInt8.toInt32)), (.int (1 : Int32)), (.ref b)]))
  obtain ⟨cl5, Ar5, q5, S5, Nn5, H5, G5⟩ := id U1
  obtain ⟨T6, h6, X6, e6, W6, st6⟩ := stB X3 hx hZ e3 Ar5 (j := (1 : Int32)) (inb_of S5 ⟨(by decide : ¬ (1 : Int32) < 0), (by decide : (1 : Int32) < (3 : Int32))⟩) (g := (mkF m 31 #[.val (.ref c8), .val (.int (1 : Int32)), .val (.ref b), .val (.int (1 : Int32)), .val (.int (3 : Int32)), .val (.int (1 : Int32)), .val (.int y)] [(.int (y.toInt8.toInt32)), (.int (1 : Int32)), (.ref b)])) rfl rfl (hb hby d_cl3_31)
  refine OGo.by_ st6 ?_
  show OGo p e below _ (T6.setTop (mkF m 32 #[.val (.ref c8), .val (.int (1 : Int32)), .val (.ref b), .val (.int (1 : Int32)), .val (.int (3 : Int32)), .val (.int (1 : Int32)), .val (.int y)] []))
  have N6 := Fr.snoc X6 N3 gb
  rw [own_nb8] at W6
  have U2 := Arv.set Ar5 q5 S5 Nn5 H5 G5 (fits_nar_byte _) W6 1 (by decide) (Nat.le_of_ble_eq_true rfl)
  have C2 := C1.other W6 hcb
  have K2_ := Keep.wr K1_ W6 (Or.inl (List.mem_singleton.mpr rfl))
  refine OGo.by_ (fun t k => XS.iinc X6.here hx rfl (hb hby d_cl3_32) rfl (l' := #[.val (.ref c8), .val (.int (2 : Int32)), .val (.ref b), .val (.int (1 : Int32)), .val (.int (3 : Int32)), .val (.int (1 : Int32)), .val (.int y)]) rfl k) ?_
  show OGo p e below _ (T6.setTop (mkF m 35 #[.val (.ref c8), .val (.int (2 : Int32)), .val (.ref b), .val (.int (1 : Int32)), .val (.int (3 : Int32)), .val (.int (1 : Int32)), .val (.int y)] []))
  refine OGo.by_ (fun t k => XS.iinc X6.here hx rfl (hb hby d_cl3_35) rfl (l' := #[.val (.ref c8), .val (.int (2 : Int32)), .val (.ref b), .val (.int (2 : Int32)), .val (.int (3 : Int32)), .val (.int (1 : Int32)), .val (.int y)]) rfl k) ?_
  show OGo p e below _ (T6.setTop (mkF m 38 #[.val (.ref c8), .val (.int (2 : Int32)), .val (.ref b), .val (.int (2 : Int32)), .val (.int (3 : Int32)), .val (.int (1 : Int32)), .val (.int y)] []))
  refine OGo.by_ (fun t k => XS.iinc X6.here hx rfl (hb hby d_cl3_38) rfl (l' := #[.val (.ref c8), .val (.int (2 : Int32)), .val (.ref b), .val (.int (2 : Int32)), .val (.int (3 : Int32)), .val (.int (2 : Int32)), .val (.int y)]) rfl k) ?_
  show OGo p e below _ (T6.setTop (mkF m 41 #[.val (.ref c8), .val (.int (2 : Int32)), .val (.ref b), .val (.int (2 : Int32)), .val (.int (3 : Int32)), .val (.int (2 : Int32)), .val (.int y)] []))
  refine OGo.by_ (fun t k => XS.goto X6.here hx rfl (pc0 := 41) (pc' := 3) rfl (hb hby d_cl3_41) (by decide) (by decide) k) ?_
  show OGo p e below _ (T6.setTop (mkF m 3 #[.val (.ref c8), .val (.int (2 : Int32)), .val (.ref b), .val (.int (2 : Int32)), .val (.int (3 : Int32)), .val (.int (2 : Int32)), .val (.int y)] []))
  refine OGo.by_ (fun t k => XS.iload X6.here hx rfl (hb hby d_cl3_3) rfl k) ?_
  show OGo p e below _ (T6.setTop (mkF m 5 #[.val (.ref c8), .val (.int (2 : Int32)), .val (.ref b), .val (.int (2 : Int32)), .val (.int (3 : Int32)), .val (.int (2 : Int32)), .val (.int y)] [(.int (2 : Int32))]))
  refine OGo.by_ (fun t k => XS.iload X6.here hx rfl (hb hby d_cl3_5) rfl k) ?_
  show OGo p e below _ (T6.setTop (mkF m 7 #[.val (.ref c8), .val (.int (2 : Int32)), .val (.ref b), .val (.int (2 : Int32)), .val (.int (3 : Int32)), .val (.int (2 : Int32)), .val (.int y)] [(.int (3 : Int32)), (.int (2 : Int32))]))
  refine OGo.by_ (fun t k => XS.icmpNo X6.here hx rfl (hb hby d_cl3_7) rfl (tlt (by decide)).2.1 k) ?_
  show OGo p e below _ (T6.setTop (mkF m 10 #[.val (.ref c8), .val (.int (2 : Int32)), .val (.ref b), .val (.int (2 : Int32)), .val (.int (3 : Int32)), .val (.int (2 : Int32)), .val (.int y)] []))
  refine OGo.by_ (fun t k => XS.aloadN X6.here hx rfl (hb hby d_cl3_10) rfl rfl k) ?_
  show OGo p e below _ (T6.setTop (mkF m 11 #[.val (.ref c8), .val (.int (2 : Int32)), .val (.ref b), .val (.int (2 : Int32)), .val (.int (3 : Int32)), .val (.int (2 : Int32)), .val (.int y)] [(.ref c8)]))
  refine OGo.by_ (fun t k => XS.iloadN X6.here hx rfl (hb hby d_cl3_11) rfl k) ?_
  show OGo p e below _ (T6.setTop (mkF m 12 #[.val (.ref c8), .val (.int (2 : Int32)), .val (.ref b), .val (.int (2 : Int32)), .val (.int (3 : Int32)), .val (.int (2 : Int32)), .val (.int y)] [(.int (2 : Int32)), (.ref c8)]))
  obtain ⟨cl7, Ar7, q7, S7, Nn7, H7, G7⟩ := id C2
  have in7 := inb_of S7 ⟨(by decide : ¬ (2 : Int32) < 0), (by decide : (2 : Int32) < (3 : Int32))⟩
  refine OGo.by_ (fun t kk => X6.caload hx (j := (2 : Int32)) (v := (.int z)) (by rw [e6]; exact Ar7.1) (State.isArrayOf_alike hZ.alike Ar7.2.1) Ar7.2.2 in7 (H7.at in7 (rfl)) (g := (mkF m 12 #[.val (.ref c8), .val (.int (2 : Int32)), .val (.ref b), .val (.int (2 : Int32)), .val (.int (3 : Int32)), .val (.int (2 : Int32)), .val (.int y)] [(.int (2 : Int32)), (.ref c8)])) rfl rfl (hb hby d_cl3_12) _ kk) ?_
  show OGo p e below _ (T6.setTop (mkF m 13 #[.val (.ref c8), .val (.int (2 : Int32)), .val (.ref b), .val (.int (2 : Int32)), .val (.int (3 : Int32)), .val (.int (2 : Int32)), .val (.int y)] [(.int z)]))
  refine OGo.by_ (fun t k => XS.istore X6.here hx rfl (hb hby d_cl3_13) rfl (l' := #[.val (.ref c8), .val (.int (2 : Int32)), .val (.ref b), .val (.int (2 : Int32)), .val (.int (3 : Int32)), .val (.int (2 : Int32)), .val (.int z)]) rfl k) ?_
  show OGo p e below _ (T6.setTop (mkF m 15 #[.val (.ref c8), .val (.int (2 : Int32)), .val (.ref b), .val (.int (2 : Int32)), .val (.int (3 : Int32)), .val (.int (2 : Int32)), .val (.int z)] []))
  refine OGo.by_ (fun t k => XS.iload X6.here hx rfl (hb hby d_cl3_15) rfl k) ?_
  show OGo p e below _ (T6.setTop (mkF m 17 #[.val (.ref c8), .val (.int (2 : Int32)), .val (.ref b), .val (.int (2 : Int32)), .val (.int (3 : Int32)), .val (.int (2 : Int32)), .val (.int z)] [(.int z)]))
  refine OGo.by_ (fun t k => XS.sipush X6.here hx rfl (hb hby d_cl3_17) k) ?_
  show OGo p e below _ (T6.setTop (mkF m 20 #[.val (.ref c8), .val (.int (2 : Int32)), .val (.ref b), .val (.int (2 : Int32)), .val (.int (3 : Int32)), .val (.int (2 : Int32)), .val (.int z)] [(.int (255 : Int32)), (.int z)]))
  refine OGo.by_ (fun t k => XS.icmpYes X6.here hx rfl (pc0 := 20) (pc' := 26) rfl (hb hby d_cl3_20) rfl (flt (own_chle c_z)).2.2.2 (by decide) (by decide) k) ?_
  show OGo p e below _ (T6.setTop (mkF m 26 #[.val (.ref c8), .val (.int (2 : Int32)), .val (.ref b), .val (.int (2 : Int32)), .val (.int (3 : Int32)), .val (.int (2 : Int32)), .val (.int z)] []))
  refine OGo.by_ (fun t k => XS.aloadN X6.here hx rfl (hb hby d_cl3_26) rfl rfl k) ?_
  show OGo p e below _ (T6.setTop (mkF m 27 #[.val (.ref c8), .val (.int (2 : Int32)), .val (.ref b), .val (.int (2 : Int32)), .val (.int (3 : Int32)), .val (.int (2 : Int32)), .val (.int z)] [(.ref b)]))
  refine OGo.by_ (fun t k => XS.iloadN X6.here hx rfl (hb hby d_cl3_27) rfl k) ?_
  show OGo p e below _ (T6.setTop (mkF m 28 #[.val (.ref c8), .val (.int (2 : Int32)), .val (.ref b), .val (.int (2 : Int32)), .val (.int (3 : Int32)), .val (.int (2 : Int32)), .val (.int z)] [(.int (2 : Int32)), (.ref b)]))
  refine OGo.by_ (fun t k => XS.iload X6.here hx rfl (hb hby d_cl3_28) rfl k) ?_
  show OGo p e below _ (T6.setTop (mkF m 30 #[.val (.ref c8), .val (.int (2 : Int32)), .val (.ref b), .val (.int (2 : Int32)), .val (.int (3 : Int32)), .val (.int (2 : Int32)), .val (.int z)] [(.int z), (.int (2 : Int32)), (.ref b)]))
  refine OGo.by_ (fun t k => XS.i2b X6.here hx rfl (hb hby d_cl3_30) rfl k) ?_
  show OGo p e below _ (T6.setTop (mkF m 31 #[.val (.ref c8), .val (.int (2 : Int32)), .val (.ref b), .val (.int (2 : Int32)), .val (.int (3 : Int32)), .val (.int (2 : Int32)), .val (.int z)] [(.int (z.toInt8.toInt32)), (.int (2 : Int32)), (.ref b)]))
  obtain ⟨cl8, Ar8, q8, S8, Nn8, H8, G8⟩ := id U2
  obtain ⟨T9, h9, X9, e9, W9, st9⟩ := stB X6 hx hZ e6 Ar8 (j := (2 : Int32)) (inb_of S8 ⟨(by decide : ¬ (2 : Int32) < 0), (by decide : (2 : Int32) < (3 : Int32))⟩) (g := (mkF m 31 #[.val (.ref c8), .val (.int (2 : Int32)), .val (.ref b), .val (.int (2 : Int32)), .val (.int (3 : Int32)), .val (.int (2 : Int32)), .val (.int z)] [(.int (z.toInt8.toInt32)), (.int (2 : Int32)), (.ref b)])) rfl rfl (hb hby d_cl3_31)
  refine OGo.by_ st9 ?_
  show OGo p e below _ (T9.setTop (mkF m 32 #[.val (.ref c8), .val (.int (2 : Int32)), .val (.ref b), .val (.int (2 : Int32)), .val (.int (3 : Int32)), .val (.int (2 : Int32)), .val (.int z)] []))
  have N9 := Fr.snoc X9 N6 gb
  rw [own_nb8] at W9
  have U3 := Arv.set Ar8 q8 S8 Nn8 H8 G8 (fits_nar_byte _) W9 2 (by decide) (Nat.le_of_ble_eq_true rfl)
  have C3 := C2.other W9 hcb
  have K3_ := Keep.wr K2_ W9 (Or.inl (List.mem_singleton.mpr rfl))
  refine OGo.by_ (fun t k => XS.iinc X9.here hx rfl (hb hby d_cl3_32) rfl (l' := #[.val (.ref c8), .val (.int (3 : Int32)), .val (.ref b), .val (.int (2 : Int32)), .val (.int (3 : Int32)), .val (.int (2 : Int32)), .val (.int z)]) rfl k) ?_
  show OGo p e below _ (T9.setTop (mkF m 35 #[.val (.ref c8), .val (.int (3 : Int32)), .val (.ref b), .val (.int (2 : Int32)), .val (.int (3 : Int32)), .val (.int (2 : Int32)), .val (.int z)] []))
  refine OGo.by_ (fun t k => XS.iinc X9.here hx rfl (hb hby d_cl3_35) rfl (l' := #[.val (.ref c8), .val (.int (3 : Int32)), .val (.ref b), .val (.int (3 : Int32)), .val (.int (3 : Int32)), .val (.int (2 : Int32)), .val (.int z)]) rfl k) ?_
  show OGo p e below _ (T9.setTop (mkF m 38 #[.val (.ref c8), .val (.int (3 : Int32)), .val (.ref b), .val (.int (3 : Int32)), .val (.int (3 : Int32)), .val (.int (2 : Int32)), .val (.int z)] []))
  refine OGo.by_ (fun t k => XS.iinc X9.here hx rfl (hb hby d_cl3_38) rfl (l' := #[.val (.ref c8), .val (.int (3 : Int32)), .val (.ref b), .val (.int (3 : Int32)), .val (.int (3 : Int32)), .val (.int (3 : Int32)), .val (.int z)]) rfl k) ?_
  show OGo p e below _ (T9.setTop (mkF m 41 #[.val (.ref c8), .val (.int (3 : Int32)), .val (.ref b), .val (.int (3 : Int32)), .val (.int (3 : Int32)), .val (.int (3 : Int32)), .val (.int z)] []))
  refine OGo.by_ (fun t k => XS.goto X9.here hx rfl (pc0 := 41) (pc' := 3) rfl (hb hby d_cl3_41) (by decide) (by decide) k) ?_
  show OGo p e below _ (T9.setTop (mkF m 3 #[.val (.ref c8), .val (.int (3 : Int32)), .val (.ref b), .val (.int (3 : Int32)), .val (.int (3 : Int32)), .val (.int (3 : Int32)), .val (.int z)] []))
  refine OGo.by_ (fun t k => XS.iload X9.here hx rfl (hb hby d_cl3_3) rfl k) ?_
  show OGo p e below _ (T9.setTop (mkF m 5 #[.val (.ref c8), .val (.int (3 : Int32)), .val (.ref b), .val (.int (3 : Int32)), .val (.int (3 : Int32)), .val (.int (3 : Int32)), .val (.int z)] [(.int (3 : Int32))]))
  refine OGo.by_ (fun t k => XS.iload X9.here hx rfl (hb hby d_cl3_5) rfl k) ?_
  show OGo p e below _ (T9.setTop (mkF m 7 #[.val (.ref c8), .val (.int (3 : Int32)), .val (.ref b), .val (.int (3 : Int32)), .val (.int (3 : Int32)), .val (.int (3 : Int32)), .val (.int z)] [(.int (3 : Int32)), (.int (3 : Int32))]))
  refine OGo.by_ (fun t k => XS.icmpYes X9.here hx rfl (pc0 := 7) (pc' := 44) rfl (hb hby d_cl3_7) rfl (flt (by decide)).2.1 (by decide) (by decide) k) ?_
  show OGo p e below _ (T9.setTop (mkF m 44 #[.val (.ref c8), .val (.int (3 : Int32)), .val (.ref b), .val (.int (3 : Int32)), .val (.int (3 : Int32)), .val (.int (3 : Int32)), .val (.int z)] []))
  refine OGo.by_ (fun t k => XS.iload X9.here hx rfl (hb hby d_cl3_44) rfl k) ?_
  show OGo p e below _ (T9.setTop (mkF m 46 #[.val (.ref c8), .val (.int (3 : Int32)), .val (.ref b), .val (.int (3 : Int32)), .val (.int (3 : Int32)), .val (.int (3 : Int32)), .val (.int z)] [(.int (3 : Int32))]))
  exact own_retI X9 hx hlk hret (hb hby d_cl3_46) (by decide) (by decide) (by rw [e9]; exact ⟨rfl, N9, K3_, show Arv Z _ b kb .byte (3 : Int32) [(.int x.toInt8.toInt32), (.int y.toInt8.toInt32), (.int z.toInt8.toInt32)] (.int (0 : Int32)) from U3⟩)
theorem d_cp1_0 : decode jdk_52_method_16_code 0 = .ok (.iload_n 2, 1) := by decide +kernel
theorem d_cp1_1 : decode jdk_52_method_16_code 1 = .ok (.newarray .byte, 2) := by decide +kernel
theorem d_cp1_3 : decode jdk_52_method_16_code 3 = .ok (.astore_n 3, 1) := by decide +kernel
theorem d_cp1_4 : decode jdk_52_method_16_code 4 = .ok (.aload_n 0, 1) := by decide +kernel
theorem d_cp1_5 : decode jdk_52_method_16_code 5 = .ok (.iload_n 1, 1) := by decide +kernel
theorem d_cp1_6 : decode jdk_52_method_16_code 6 = .ok (.aload_n 3, 1) := by decide +kernel
theorem d_cp1_7 : decode jdk_52_method_16_code 7 = .ok (.iconst 0, 1) := by decide +kernel
theorem d_cp1_8 : decode jdk_52_method_16_code 8 = .ok (.iload_n 2, 1) := by decide +kernel
theorem d_cp1_9 : decode jdk_52_method_16_code 9 = .ok (.invokestatic 115, 3) := by decide +kernel
theorem pd_oACIABIIcI : parseMethodDescriptor "([CI[BII)I" = some ⟨[(.array .char), .int, (.array .byte), .int, .int], some .int⟩ := by decide +kernel
theorem d_cp1_12 : decode jdk_52_method_16_code 12 = .ok (.istore 4, 2) := by decide +kernel
theorem d_cp1_14 : decode jdk_52_method_16_code 14 = .ok (.iload 4, 2) := by decide +kernel
theorem d_cp1_16 : decode jdk_52_method_16_code 16 = .ok (.iload_n 2, 1) := by decide +kernel
theorem d_cp1_17 : decode jdk_52_method_16_code 17 = .ok (.if_icmp .eq 40, 3) := by decide +kernel
theorem d_cp1_57 : decode jdk_52_method_16_code 57 = .ok (.aload_n 3, 1) := by decide +kernel
theorem d_cp1_58 : decode jdk_52_method_16_code 58 = .ok (.areturn, 1) := by decide +kernel
theorem ef_cp1 (m : MethodId) (x0 : Addr) (x1 : Int32) (x2 : Int32) : entryFrame m #[(.ref x0), (.int x1), (.int x2)] 6 = mkF m 0 #[.val (.ref x0), .val (.int x1), .val (.int x2), .unset, .unset, .unset] [] := by first | (simp [entryFrame, mkF, argsToLocals, Value.category]; done) | rfl
def Q_cp1 (Z : State) (c8 : Addr) (kc : ClassId) (x : Int32) (h0 : Heap) (n0 : Nat) (v : Option Value) (h : Heap) (L : List Loc) : Prop := v = some (.ref h0.size) ∧ Fr n0 L ∧ Keep h0 h [] ∧ ∃ kb, Arv Z h h0.size kb .byte (1 : Int32) [(.int x.toInt8.toInt32)] (.int (0 : Int32))
set_option maxRecDepth 65536 in
set_option maxHeartbeats 40000000 in
theorem rm_cp1 (l : Launch) (Z : State) (a0 : Array Value) (hw : ∀ d ∈ tables_1, d.before a0 Z = true) (ws : List Jvm.Cond) (c8 : Addr) (kc : ClassId) (x : Int32) (h0 : Heap) (n0 : Nat) (Z0 : n0 ≤ h0.size) (Vc : Arv Z h0 c8 kc .char (1 : Int32) [(.int x)] (.int (0 : Int32))) (c_x : own_ch x) :
    MetFree l (⟨"java/lang/StringUTF16", "compress", "([CII)[B"⟩ : MethodName) (head1 (Jvm.Cond.code (⟨"java/lang/StringUTF16", "compress", "([CII)[B"⟩ : MethodName) jdk_52_method_16_code 6 (some (.array .byte)) :: ws) ({ frames := 1, cells := 1, slots := 3, locals := 18 } : Room)) (fun a_ U => a_ = #[(.ref c8), (.int (0 : Int32)), (.int (1 : Int32))] ∧ Z.Warmed39 U.vm ∧ U.heap = h0) (fun _ _ _ _ _ => True) (fun _ U o U' => ∃ v L, o = .returned v ∧ Q_cp1 Z c8 kc x h0 n0 v U'.heap L ∧ FrameEnd U o U' L ({ frames := 1, cells := 1, slots := 3, locals := 18 } : Room).cells ({ frames := 1, cells := 1, slots := 3, locals := 18 } : Room).slots) := by
  refine MetFree.of_bodySF (plainFor_of_name pn_java_lang_StringUTF16) hisR ?_
  intro p e s m args below meth c s₁ Bd hml0 hP hK
  obtain ⟨rfl, hZ, hh⟩ := hP
  have hx := Bd.exec
  have hby := Bd.bytes
  have hml : c.maxLocals = 6 := hml0
  have hown : s.vm.findClass "java/lang/StringUTF16" = some m.cls := findClass_of_methodNamed Bd.named
  have hnm := (name_of_methodNamed Bd.named Bd.method).1
  have X0 : Stand p l e ({ frames := 1, cells := 1, slots := 3, locals := 18 } : Room) s m #[(.ref c8), (.int (0 : Int32)), (.int (1 : Int32))] below meth c s₁ [] 0 0 := Stand.of_body Bd
  have e0 : s₁.heap = h0 := by rw [← hh, Bd.state]; rfl
  have N0 := Fr.nil n0
  have hlk := Bd.notSynchronized
  have hret := Bd.returns
  show OGo p e below (OEnd s (Q_cp1 Z c8 kc x h0 n0) ({ frames := 1, cells := 1, slots := 3, locals := 18 } : Room).cells ({ frames := 1, cells := 1, slots := 3, locals := 18 } : Room).slots) (s₁.setTop (entryFrame m #[(.ref c8), (.int (0 : Int32)), (.int (1 : Int32))] 6))
  rw [ef_cp1]
  show OGo p e below _ (s₁.setTop (mkF m 0 #[.val (.ref c8), .val (.int (0 : Int32)), .val (.int (1 : Int32)), .unset, .unset, .unset] []))
  refine OGo.by_ (fun t k => XS.iloadN X0.here hx rfl (hb hby d_cp1_0) rfl k) ?_
  show OGo p e below _ (s₁.setTop (mkF m 1 #[.val (.ref c8), .val (.int (0 : Int32)), .val (.int (1 : Int32)), .unset, .unset, .unset] [(.int (1 : Int32))]))
  obtain ⟨T1, h1, k1, X1, e1, E1, A1, st1⟩ := newP X0 hx hZ (hw _ (List.mem_of_getElem? (i := 22) rfl)) e0 (g := (mkF m 1 #[.val (.ref c8), .val (.int (0 : Int32)), .val (.int (1 : Int32)), .unset, .unset, .unset] [(.int (1 : Int32))])) rfl (hb hby d_cp1_1) rfl (by decide) (cap := 3) (by decide) (by decide) (by decide) (by decide)
  obtain ⟨b, g_b⟩ : ∃ z, z = h0.size := ⟨_, rfl⟩
  rw [← g_b] at A1 st1
  have V_b := Arv.new A1 (by decide)
  have lt_b := own_lt V_b.lt
  refine OGo.by_ st1 ?_
  show OGo p e below _ (T1.setTop (mkF m 3 #[.val (.ref c8), .val (.int (0 : Int32)), .val (.int (1 : Int32)), .unset, .unset, .unset] [(.ref b)]))
  have c_lt : h0.size > c8 := Vc.lt
  have hcb : c8 ≠ b := own_ne (by omega)
  have gb : n0 ≤ b := by omega
  have Z1 : n0 ≤ h1.size := Nat.le_trans Z0 E1.1
  have Vb : Arv Z h1 b k1 .byte (1 : Int32) [(.int (0 : Int32))] (.int (0 : Int32)) := V_b.pad (pad_rep [] _ 1)
  refine OGo.by_ (fun t k => XS.astoreN X1.here hx rfl (hb hby d_cp1_3) rfl rfl (l' := #[.val (.ref c8), .val (.int (0 : Int32)), .val (.int (1 : Int32)), .val (.ref b), .unset, .unset]) rfl k) ?_
  show OGo p e below _ (T1.setTop (mkF m 4 #[.val (.ref c8), .val (.int (0 : Int32)), .val (.int (1 : Int32)), .val (.ref b), .unset, .unset] []))
  refine OGo.by_ (fun t k => XS.aloadN X1.here hx rfl (hb hby d_cp1_4) rfl rfl k) ?_
  show OGo p e below _ (T1.setTop (mkF m 5 #[.val (.ref c8), .val (.int (0 : Int32)), .val (.int (1 : Int32)), .val (.ref b), .unset, .unset] [(.ref c8)]))
  refine OGo.by_ (fun t k => XS.iloadN X1.here hx rfl (hb hby d_cp1_5) rfl k) ?_
  show OGo p e below _ (T1.setTop (mkF m 6 #[.val (.ref c8), .val (.int (0 : Int32)), .val (.int (1 : Int32)), .val (.ref b), .unset, .unset] [(.int (0 : Int32)), (.ref c8)]))
  refine OGo.by_ (fun t k => XS.aloadN X1.here hx rfl (hb hby d_cp1_6) rfl rfl k) ?_
  show OGo p e below _ (T1.setTop (mkF m 7 #[.val (.ref c8), .val (.int (0 : Int32)), .val (.int (1 : Int32)), .val (.ref b), .unset, .unset] [(.ref b), (.int (0 : Int32)), (.ref c8)]))
  refine OGo.by_ (fun t k => XS.iconst X1.here hx rfl (hb hby d_cp1_7) k) ?_
  show OGo p e below _ (T1.setTop (mkF m 8 #[.val (.ref c8), .val (.int (0 : Int32)), .val (.int (1 : Int32)), .val (.ref b), .unset, .unset] [(.int (0 : Int32)), (.ref b), (.int (0 : Int32)), (.ref c8)]))
  refine OGo.by_ (fun t k => XS.iloadN X1.here hx rfl (hb hby d_cp1_8) rfl k) ?_
  show OGo p e below _ (T1.setTop (mkF m 9 #[.val (.ref c8), .val (.int (0 : Int32)), .val (.int (1 : Int32)), .val (.ref b), .unset, .unset] [(.int (1 : Int32)), (.int (0 : Int32)), (.ref b), (.int (0 : Int32)), (.ref c8)]))
  obtain ⟨_, _, ⟨T2, L2, k2, n2⟩, -, X2, ⟨Lc2, hQ2, l2, y2, z2⟩, st2⟩ := Jvm.LawKit.callS X1 hx (y := (⟨"java/lang/StringUTF16", "compress", "([CI[BII)I"⟩ : MethodName)) hown (mvT hZ (hw _ (List.mem_of_getElem? (i := 34) rfl))) (mvT hZ (hw _ (List.mem_of_getElem? (i := 35) rfl))) (mvT hZ (hw _ (List.mem_of_getElem? (i := 32) rfl))) (mvT hZ (hw _ (List.mem_of_getElem? (i := 36) rfl))) (by decide) (backOf (W := 0) (rm_cl1 l Z a0 hw [] c8 b kc k1 x h1 n0 Z1 (Vc.ext E1) Vb hcb gb c_x) hZ (hw _ (List.mem_of_getElem? (i := 36) rfl)) (hw _ (List.mem_of_getElem? (i := 32) rfl)) (by decide) (by decide)) (g := (mkF m 9 #[.val (.ref c8), .val (.int (0 : Int32)), .val (.int (1 : Int32)), .val (.ref b), .unset, .unset] [(.int (1 : Int32)), (.int (0 : Int32)), (.ref b), (.int (0 : Int32)), (.ref c8)])) rfl (by rw [hml]; rfl) (argsL := [(.ref c8), (.int (0 : Int32)), (.ref b), (.int (0 : Int32)), (.int (1 : Int32))]) (rest := []) (lenOf pd_oACIABIIcI rfl) rfl (by show 2 * 0 + _ ≤ _; exact Nat.le_of_eq rfl) (hb hby d_cp1_9) (fun _ _ => ⟨rfl, e1, (by decide : 1 + 0 ≤ _), (by decide : 3 + 0 ≤ _)⟩)
  dsimp only [Pt.U, Pt.locs, Pt.cells, Pt.slots] at X2 l2 y2 z2 st2 hQ2
  subst l2 y2 z2
  obtain ⟨rfl, Nq2, K2, V2⟩ := hQ2
  have N2 := Fr.app N0 Nq2
  refine OGo.by_ st2 ?_
  show OGo p e below _ (T2.setTop (mkF m 12 #[.val (.ref c8), .val (.int (0 : Int32)), .val (.int (1 : Int32)), .val (.ref b), .unset, .unset] [(.int (1 : Int32))]))
  refine OGo.by_ (fun t k => XS.istore X2.here hx rfl (hb hby d_cp1_12) rfl (l' := #[.val (.ref c8), .val (.int (0 : Int32)), .val (.int (1 : Int32)), .val (.ref b), .val (.int (1 : Int32)), .unset]) rfl k) ?_
  show OGo p e below _ (T2.setTop (mkF m 14 #[.val (.ref c8), .val (.int (0 : Int32)), .val (.int (1 : Int32)), .val (.ref b), .val (.int (1 : Int32)), .unset] []))
  refine OGo.by_ (fun t k => XS.iload X2.here hx rfl (hb hby d_cp1_14) rfl k) ?_
  show OGo p e below _ (T2.setTop (mkF m 16 #[.val (.ref c8), .val (.int (0 : Int32)), .val (.int (1 : Int32)), .val (.ref b), .val (.int (1 : Int32)), .unset] [(.int (1 : Int32))]))
  refine OGo.by_ (fun t k => XS.iloadN X2.here hx rfl (hb hby d_cp1_16) rfl k) ?_
  show OGo p e below _ (T2.setTop (mkF m 17 #[.val (.ref c8), .val (.int (0 : Int32)), .val (.int (1 : Int32)), .val (.ref b), .val (.int (1 : Int32)), .unset] [(.int (1 : Int32)), (.int (1 : Int32))]))
  refine OGo.by_ (fun t k => XS.icmpYes X2.here hx rfl (pc0 := 17) (pc' := 57) rfl (hb hby d_cp1_17) rfl (teq rfl).1 (by decide) (by decide) k) ?_
  show OGo p e below _ (T2.setTop (mkF m 57 #[.val (.ref c8), .val (.int (0 : Int32)), .val (.int (1 : Int32)), .val (.ref b), .val (.int (1 : Int32)), .unset] []))
  refine OGo.by_ (fun t k => XS.aloadN X2.here hx rfl (hb hby d_cp1_57) rfl rfl k) ?_
  show OGo p e below _ (T2.setTop (mkF m 58 #[.val (.ref c8), .val (.int (0 : Int32)), .val (.int (1 : Int32)), .val (.ref b), .val (.int (1 : Int32)), .unset] [(.ref b)]))
  exact own_retA X2 hx hlk hret rfl rfl (hb hby d_cp1_58) (by decide) (by decide) (⟨congrArg (fun z => some (Value.ref z)) g_b, N2, Keep.trans (own_ext_keep E1) K2 (allS (Or.inr (Nat.le_of_eq g_b.symm)) all0), k1, g_b ▸ V2⟩)
theorem d_cp2_0 : decode jdk_52_method_16_code 0 = .ok (.iload_n 2, 1) := by decide +kernel
theorem d_cp2_1 : decode jdk_52_method_16_code 1 = .ok (.newarray .byte, 2) := by decide +kernel
theorem d_cp2_3 : decode jdk_52_method_16_code 3 = .ok (.astore_n 3, 1) := by decide +kernel
theorem d_cp2_4 : decode jdk_52_method_16_code 4 = .ok (.aload_n 0, 1) := by decide +kernel
theorem d_cp2_5 : decode jdk_52_method_16_code 5 = .ok (.iload_n 1, 1) := by decide +kernel
theorem d_cp2_6 : decode jdk_52_method_16_code 6 = .ok (.aload_n 3, 1) := by decide +kernel
theorem d_cp2_7 : decode jdk_52_method_16_code 7 = .ok (.iconst 0, 1) := by decide +kernel
theorem d_cp2_8 : decode jdk_52_method_16_code 8 = .ok (.iload_n 2, 1) := by decide +kernel
theorem d_cp2_9 : decode jdk_52_method_16_code 9 = .ok (.invokestatic 115, 3) := by decide +kernel
theorem d_cp2_12 : decode jdk_52_method_16_code 12 = .ok (.istore 4, 2) := by decide +kernel
theorem d_cp2_14 : decode jdk_52_method_16_code 14 = .ok (.iload 4, 2) := by decide +kernel
theorem d_cp2_16 : decode jdk_52_method_16_code 16 = .ok (.iload_n 2, 1) := by decide +kernel
theorem d_cp2_17 : decode jdk_52_method_16_code 17 = .ok (.if_icmp .eq 40, 3) := by decide +kernel
theorem d_cp2_57 : decode jdk_52_method_16_code 57 = .ok (.aload_n 3, 1) := by decide +kernel
theorem d_cp2_58 : decode jdk_52_method_16_code 58 = .ok (.areturn, 1) := by decide +kernel
theorem ef_cp2 (m : MethodId) (x0 : Addr) (x1 : Int32) (x2 : Int32) : entryFrame m #[(.ref x0), (.int x1), (.int x2)] 6 = mkF m 0 #[.val (.ref x0), .val (.int x1), .val (.int x2), .unset, .unset, .unset] [] := by first | (simp [entryFrame, mkF, argsToLocals, Value.category]; done) | rfl
def Q_cp2 (Z : State) (c8 : Addr) (kc : ClassId) (x y : Int32) (h0 : Heap) (n0 : Nat) (v : Option Value) (h : Heap) (L : List Loc) : Prop := v = some (.ref h0.size) ∧ Fr n0 L ∧ Keep h0 h [] ∧ ∃ kb, Arv Z h h0.size kb .byte (2 : Int32) [(.int x.toInt8.toInt32), (.int y.toInt8.toInt32)] (.int (0 : Int32))
set_option maxRecDepth 65536 in
set_option maxHeartbeats 40000000 in
theorem rm_cp2 (l : Launch) (Z : State) (a0 : Array Value) (hw : ∀ d ∈ tables_1, d.before a0 Z = true) (ws : List Jvm.Cond) (c8 : Addr) (kc : ClassId) (x y : Int32) (h0 : Heap) (n0 : Nat) (Z0 : n0 ≤ h0.size) (Vc : Arv Z h0 c8 kc .char (2 : Int32) [(.int x), (.int y)] (.int (0 : Int32))) (c_x : own_ch x) (c_y : own_ch y) :
    MetFree l (⟨"java/lang/StringUTF16", "compress", "([CII)[B"⟩ : MethodName) (head1 (Jvm.Cond.code (⟨"java/lang/StringUTF16", "compress", "([CII)[B"⟩ : MethodName) jdk_52_method_16_code 6 (some (.array .byte)) :: ws) ({ frames := 1, cells := 1, slots := 3, locals := 18 } : Room)) (fun a_ U => a_ = #[(.ref c8), (.int (0 : Int32)), (.int (2 : Int32))] ∧ Z.Warmed39 U.vm ∧ U.heap = h0) (fun _ _ _ _ _ => True) (fun _ U o U' => ∃ v L, o = .returned v ∧ Q_cp2 Z c8 kc x y h0 n0 v U'.heap L ∧ FrameEnd U o U' L ({ frames := 1, cells := 1, slots := 3, locals := 18 } : Room).cells ({ frames := 1, cells := 1, slots := 3, locals := 18 } : Room).slots) := by
  refine MetFree.of_bodySF (plainFor_of_name pn_java_lang_StringUTF16) hisR ?_
  intro p e s m args below meth c s₁ Bd hml0 hP hK
  obtain ⟨rfl, hZ, hh⟩ := hP
  have hx := Bd.exec
  have hby := Bd.bytes
  have hml : c.maxLocals = 6 := hml0
  have hown : s.vm.findClass "java/lang/StringUTF16" = some m.cls := findClass_of_methodNamed Bd.named
  have hnm := (name_of_methodNamed Bd.named Bd.method).1
  have X0 : Stand p l e ({ frames := 1, cells := 1, slots := 3, locals := 18 } : Room) s m #[(.ref c8), (.int (0 : Int32)), (.int (2 : Int32))] below meth c s₁ [] 0 0 := Stand.of_body Bd
  have e0 : s₁.heap = h0 := by rw [← hh, Bd.state]; rfl
  have N0 := Fr.nil n0
  have hlk := Bd.notSynchronized
  have hret := Bd.returns
  show OGo p e below (OEnd s (Q_cp2 Z c8 kc x y h0 n0) ({ frames := 1, cells := 1, slots := 3, locals := 18 } : Room).cells ({ frames := 1, cells := 1, slots := 3, locals := 18 } : Room).slots) (s₁.setTop (entryFrame m #[(.ref c8), (.int (0 : Int32)), (.int (2 : Int32))] 6))
  rw [ef_cp2]
  show OGo p e below _ (s₁.setTop (mkF m 0 #[.val (.ref c8), .val (.int (0 : Int32)), .val (.int (2 : Int32)), .unset, .unset, .unset] []))
  refine OGo.by_ (fun t k => XS.iloadN X0.here hx rfl (hb hby d_cp2_0) rfl k) ?_
  show OGo p e below _ (s₁.setTop (mkF m 1 #[.val (.ref c8), .val (.int (0 : Int32)), .val (.int (2 : Int32)), .unset, .unset, .unset] [(.int (2 : Int32))]))
  obtain ⟨T1, h1, k1, X1, e1, E1, A1, st1⟩ := newP X0 hx hZ (hw _ (List.mem_of_getElem? (i := 22) rfl)) e0 (g := (mkF m 1 #[.val (.ref c8), .val (.int (0 : Int32)), .val (.int (2 : Int32)), .unset, .unset, .unset] [(.int (2 : Int32))])) rfl (hb hby d_cp2_1) rfl (by decide) (cap := 3) (by decide) (by decide) (by decide) (by decide)
  obtain ⟨b, g_b⟩ : ∃ z, z = h0.size := ⟨_, rfl⟩
  rw [← g_b] at A1 st1
  have V_b := Arv.new A1 (by decide)
  have lt_b := own_lt V_b.lt
  refine OGo.by_ st1 ?_
  show OGo p e below _ (T1.setTop (mkF m 3 #[.val (.ref c8), .val (.int (0 : Int32)), .val (.int (2 : Int32)), .unset, .unset, .unset] [(.ref b)]))
  have c_lt : h0.size > c8 := Vc.lt
  have hcb : c8 ≠ b := own_ne (by omega)
  have gb : n0 ≤ b := by omega
  have Z1 : n0 ≤ h1.size := Nat.le_trans Z0 E1.1
  have Vb : Arv Z h1 b k1 .byte (2 : Int32) [(.int (0 : Int32)), (.int (0 : Int32))] (.int (0 : Int32)) := V_b.pad (pad_rep [] _ 2)
  refine OGo.by_ (fun t k => XS.astoreN X1.here hx rfl (hb hby d_cp2_3) rfl rfl (l' := #[.val (.ref c8), .val (.int (0 : Int32)), .val (.int (2 : Int32)), .val (.ref b), .unset, .unset]) rfl k) ?_
  show OGo p e below _ (T1.setTop (mkF m 4 #[.val (.ref c8), .val (.int (0 : Int32)), .val (.int (2 : Int32)), .val (.ref b), .unset, .unset] []))
  refine OGo.by_ (fun t k => XS.aloadN X1.here hx rfl (hb hby d_cp2_4) rfl rfl k) ?_
  show OGo p e below _ (T1.setTop (mkF m 5 #[.val (.ref c8), .val (.int (0 : Int32)), .val (.int (2 : Int32)), .val (.ref b), .unset, .unset] [(.ref c8)]))
  refine OGo.by_ (fun t k => XS.iloadN X1.here hx rfl (hb hby d_cp2_5) rfl k) ?_
  show OGo p e below _ (T1.setTop (mkF m 6 #[.val (.ref c8), .val (.int (0 : Int32)), .val (.int (2 : Int32)), .val (.ref b), .unset, .unset] [(.int (0 : Int32)), (.ref c8)]))
  refine OGo.by_ (fun t k => XS.aloadN X1.here hx rfl (hb hby d_cp2_6) rfl rfl k) ?_
  show OGo p e below _ (T1.setTop (mkF m 7 #[.val (.ref c8), .val (.int (0 : Int32)), .val (.int (2 : Int32)), .val (.ref b), .unset, .unset] [(.ref b), (.int (0 : Int32)), (.ref c8)]))
  refine OGo.by_ (fun t k => XS.iconst X1.here hx rfl (hb hby d_cp2_7) k) ?_
  show OGo p e below _ (T1.setTop (mkF m 8 #[.val (.ref c8), .val (.int (0 : Int32)), .val (.int (2 : Int32)), .val (.ref b), .unset, .unset] [(.int (0 : Int32)), (.ref b), (.int (0 : Int32)), (.ref c8)]))
  refine OGo.by_ (fun t k => XS.iloadN X1.here hx rfl (hb hby d_cp2_8) rfl k) ?_
  show OGo p e below _ (T1.setTop (mkF m 9 #[.val (.ref c8), .val (.int (0 : Int32)), .val (.int (2 : Int32)), .val (.ref b), .unset, .unset] [(.int (2 : Int32)), (.int (0 : Int32)), (.ref b), (.int (0 : Int32)), (.ref c8)]))
  obtain ⟨_, _, ⟨T2, L2, k2, n2⟩, -, X2, ⟨Lc2, hQ2, l2, y2, z2⟩, st2⟩ := Jvm.LawKit.callS X1 hx (y := (⟨"java/lang/StringUTF16", "compress", "([CI[BII)I"⟩ : MethodName)) hown (mvT hZ (hw _ (List.mem_of_getElem? (i := 34) rfl))) (mvT hZ (hw _ (List.mem_of_getElem? (i := 35) rfl))) (mvT hZ (hw _ (List.mem_of_getElem? (i := 32) rfl))) (mvT hZ (hw _ (List.mem_of_getElem? (i := 36) rfl))) (by decide) (backOf (W := 0) (rm_cl2 l Z a0 hw [] c8 b kc k1 x y h1 n0 Z1 (Vc.ext E1) Vb hcb gb c_x c_y) hZ (hw _ (List.mem_of_getElem? (i := 36) rfl)) (hw _ (List.mem_of_getElem? (i := 32) rfl)) (by decide) (by decide)) (g := (mkF m 9 #[.val (.ref c8), .val (.int (0 : Int32)), .val (.int (2 : Int32)), .val (.ref b), .unset, .unset] [(.int (2 : Int32)), (.int (0 : Int32)), (.ref b), (.int (0 : Int32)), (.ref c8)])) rfl (by rw [hml]; rfl) (argsL := [(.ref c8), (.int (0 : Int32)), (.ref b), (.int (0 : Int32)), (.int (2 : Int32))]) (rest := []) (lenOf pd_oACIABIIcI rfl) rfl (by show 2 * 0 + _ ≤ _; exact Nat.le_of_eq rfl) (hb hby d_cp2_9) (fun _ _ => ⟨rfl, e1, (by decide : 1 + 0 ≤ _), (by decide : 3 + 0 ≤ _)⟩)
  dsimp only [Pt.U, Pt.locs, Pt.cells, Pt.slots] at X2 l2 y2 z2 st2 hQ2
  subst l2 y2 z2
  obtain ⟨rfl, Nq2, K2, V2⟩ := hQ2
  have N2 := Fr.app N0 Nq2
  refine OGo.by_ st2 ?_
  show OGo p e below _ (T2.setTop (mkF m 12 #[.val (.ref c8), .val (.int (0 : Int32)), .val (.int (2 : Int32)), .val (.ref b), .unset, .unset] [(.int (2 : Int32))]))
  refine OGo.by_ (fun t k => XS.istore X2.here hx rfl (hb hby d_cp2_12) rfl (l' := #[.val (.ref c8), .val (.int (0 : Int32)), .val (.int (2 : Int32)), .val (.ref b), .val (.int (2 : Int32)), .unset]) rfl k) ?_
  show OGo p e below _ (T2.setTop (mkF m 14 #[.val (.ref c8), .val (.int (0 : Int32)), .val (.int (2 : Int32)), .val (.ref b), .val (.int (2 : Int32)), .unset] []))
  refine OGo.by_ (fun t k => XS.iload X2.here hx rfl (hb hby d_cp2_14) rfl k) ?_
  show OGo p e below _ (T2.setTop (mkF m 16 #[.val (.ref c8), .val (.int (0 : Int32)), .val (.int (2 : Int32)), .val (.ref b), .val (.int (2 : Int32)), .unset] [(.int (2 : Int32))]))
  refine OGo.by_ (fun t k => XS.iloadN X2.here hx rfl (hb hby d_cp2_16) rfl k) ?_
  show OGo p e below _ (T2.setTop (mkF m 17 #[.val (.ref c8), .val (.int (0 : Int32)), .val (.int (2 : Int32)), .val (.ref b), .val (.int (2 : Int32)), .unset] [(.int (2 : Int32)), (.int (2 : Int32))]))
  refine OGo.by_ (fun t k => XS.icmpYes X2.here hx rfl (pc0 := 17) (pc' := 57) rfl (hb hby d_cp2_17) rfl (teq rfl).1 (by decide) (by decide) k) ?_
  show OGo p e below _ (T2.setTop (mkF m 57 #[.val (.ref c8), .val (.int (0 : Int32)), .val (.int (2 : Int32)), .val (.ref b), .val (.int (2 : Int32)), .unset] []))
  refine OGo.by_ (fun t k => XS.aloadN X2.here hx rfl (hb hby d_cp2_57) rfl rfl k) ?_
  show OGo p e below _ (T2.setTop (mkF m 58 #[.val (.ref c8), .val (.int (0 : Int32)), .val (.int (2 : Int32)), .val (.ref b), .val (.int (2 : Int32)), .unset] [(.ref b)]))
  exact own_retA X2 hx hlk hret rfl rfl (hb hby d_cp2_58) (by decide) (by decide) (⟨congrArg (fun z => some (Value.ref z)) g_b, N2, Keep.trans (own_ext_keep E1) K2 (allS (Or.inr (Nat.le_of_eq g_b.symm)) all0), k1, g_b ▸ V2⟩)
theorem d_cp3_0 : decode jdk_52_method_16_code 0 = .ok (.iload_n 2, 1) := by decide +kernel
theorem d_cp3_1 : decode jdk_52_method_16_code 1 = .ok (.newarray .byte, 2) := by decide +kernel
theorem d_cp3_3 : decode jdk_52_method_16_code 3 = .ok (.astore_n 3, 1) := by decide +kernel
theorem d_cp3_4 : decode jdk_52_method_16_code 4 = .ok (.aload_n 0, 1) := by decide +kernel
theorem d_cp3_5 : decode jdk_52_method_16_code 5 = .ok (.iload_n 1, 1) := by decide +kernel
theorem d_cp3_6 : decode jdk_52_method_16_code 6 = .ok (.aload_n 3, 1) := by decide +kernel
theorem d_cp3_7 : decode jdk_52_method_16_code 7 = .ok (.iconst 0, 1) := by decide +kernel
theorem d_cp3_8 : decode jdk_52_method_16_code 8 = .ok (.iload_n 2, 1) := by decide +kernel
theorem d_cp3_9 : decode jdk_52_method_16_code 9 = .ok (.invokestatic 115, 3) := by decide +kernel
theorem d_cp3_12 : decode jdk_52_method_16_code 12 = .ok (.istore 4, 2) := by decide +kernel
theorem d_cp3_14 : decode jdk_52_method_16_code 14 = .ok (.iload 4, 2) := by decide +kernel
theorem d_cp3_16 : decode jdk_52_method_16_code 16 = .ok (.iload_n 2, 1) := by decide +kernel
theorem d_cp3_17 : decode jdk_52_method_16_code 17 = .ok (.if_icmp .eq 40, 3) := by decide +kernel
theorem d_cp3_57 : decode jdk_52_method_16_code 57 = .ok (.aload_n 3, 1) := by decide +kernel
theorem d_cp3_58 : decode jdk_52_method_16_code 58 = .ok (.areturn, 1) := by decide +kernel
theorem ef_cp3 (m : MethodId) (x0 : Addr) (x1 : Int32) (x2 : Int32) : entryFrame m #[(.ref x0), (.int x1), (.int x2)] 6 = mkF m 0 #[.val (.ref x0), .val (.int x1), .val (.int x2), .unset, .unset, .unset] [] := by first | (simp [entryFrame, mkF, argsToLocals, Value.category]; done) | rfl
def Q_cp3 (Z : State) (c8 : Addr) (kc : ClassId) (x y z : Int32) (h0 : Heap) (n0 : Nat) (v : Option Value) (h : Heap) (L : List Loc) : Prop := v = some (.ref h0.size) ∧ Fr n0 L ∧ Keep h0 h [] ∧ ∃ kb, Arv Z h h0.size kb .byte (3 : Int32) [(.int x.toInt8.toInt32), (.int y.toInt8.toInt32), (.int z.toInt8.toInt32)] (.int (0 : Int32))
set_option maxRecDepth 65536 in
set_option maxHeartbeats 40000000 in
theorem rm_cp3 (l : Launch) (Z : State) (a0 : Array Value) (hw : ∀ d ∈ tables_1, d.before a0 Z = true) (ws : List Jvm.Cond) (c8 : Addr) (kc : ClassId) (x y z : Int32) (h0 : Heap) (n0 : Nat) (Z0 : n0 ≤ h0.size) (Vc : Arv Z h0 c8 kc .char (3 : Int32) [(.int x), (.int y), (.int z)] (.int (0 : Int32))) (c_x : own_ch x) (c_y : own_ch y) (c_z : own_ch z) :
    MetFree l (⟨"java/lang/StringUTF16", "compress", "([CII)[B"⟩ : MethodName) (head1 (Jvm.Cond.code (⟨"java/lang/StringUTF16", "compress", "([CII)[B"⟩ : MethodName) jdk_52_method_16_code 6 (some (.array .byte)) :: ws) ({ frames := 1, cells := 1, slots := 3, locals := 18 } : Room)) (fun a_ U => a_ = #[(.ref c8), (.int (0 : Int32)), (.int (3 : Int32))] ∧ Z.Warmed39 U.vm ∧ U.heap = h0) (fun _ _ _ _ _ => True) (fun _ U o U' => ∃ v L, o = .returned v ∧ Q_cp3 Z c8 kc x y z h0 n0 v U'.heap L ∧ FrameEnd U o U' L ({ frames := 1, cells := 1, slots := 3, locals := 18 } : Room).cells ({ frames := 1, cells := 1, slots := 3, locals := 18 } : Room).slots) := by
  refine MetFree.of_bodySF (plainFor_of_name pn_java_lang_StringUTF16) hisR ?_
  intro p e s m args below meth c s₁ Bd hml0 hP hK
  obtain ⟨rfl, hZ, hh⟩ := hP
  have hx := Bd.exec
  have hby := Bd.bytes
  have hml : c.maxLocals = 6 := hml0
  have hown : s.vm.findClass "java/lang/StringUTF16" = some m.cls := findClass_of_methodNamed Bd.named
  have hnm := (name_of_methodNamed Bd.named Bd.method).1
  have X0 : Stand p l e ({ frames := 1, cells := 1, slots := 3, locals := 18 } : Room) s m #[(.ref c8), (.int (0 : Int32)), (.int (3 : Int32))] below meth c s₁ [] 0 0 := Stand.of_body Bd
  have e0 : s₁.heap = h0 := by rw [← hh, Bd.state]; rfl
  have N0 := Fr.nil n0
  have hlk := Bd.notSynchronized
  have hret := Bd.returns
  show OGo p e below (OEnd s (Q_cp3 Z c8 kc x y z h0 n0) ({ frames := 1, cells := 1, slots := 3, locals := 18 } : Room).cells ({ frames := 1, cells := 1, slots := 3, locals := 18 } : Room).slots) (s₁.setTop (entryFrame m #[(.ref c8), (.int (0 : Int32)), (.int (3 : Int32))] 6))
  rw [ef_cp3]
  show OGo p e below _ (s₁.setTop (mkF m 0 #[.val (.ref c8), .val (.int (0 : Int32)), .val (.int (3 : Int32)), .unset, .unset, .unset] []))
  refine OGo.by_ (fun t k => XS.iloadN X0.here hx rfl (hb hby d_cp3_0) rfl k) ?_
  show OGo p e below _ (s₁.setTop (mkF m 1 #[.val (.ref c8), .val (.int (0 : Int32)), .val (.int (3 : Int32)), .unset, .unset, .unset] [(.int (3 : Int32))]))
  obtain ⟨T1, h1, k1, X1, e1, E1, A1, st1⟩ := newP X0 hx hZ (hw _ (List.mem_of_getElem? (i := 22) rfl)) e0 (g := (mkF m 1 #[.val (.ref c8), .val (.int (0 : Int32)), .val (.int (3 : Int32)), .unset, .unset, .unset] [(.int (3 : Int32))])) rfl (hb hby d_cp3_1) rfl (by decide) (cap := 3) (by decide) (by decide) (by decide) (by decide)
  obtain ⟨b, g_b⟩ : ∃ z, z = h0.size := ⟨_, rfl⟩
  rw [← g_b] at A1 st1
  have V_b := Arv.new A1 (by decide)
  have lt_b := own_lt V_b.lt
  refine OGo.by_ st1 ?_
  show OGo p e below _ (T1.setTop (mkF m 3 #[.val (.ref c8), .val (.int (0 : Int32)), .val (.int (3 : Int32)), .unset, .unset, .unset] [(.ref b)]))
  have c_lt : h0.size > c8 := Vc.lt
  have hcb : c8 ≠ b := own_ne (by omega)
  have gb : n0 ≤ b := by omega
  have Z1 : n0 ≤ h1.size := Nat.le_trans Z0 E1.1
  have Vb : Arv Z h1 b k1 .byte (3 : Int32) [(.int (0 : Int32)), (.int (0 : Int32)), (.int (0 : Int32))] (.int (0 : Int32)) := V_b.pad (pad_rep [] _ 3)
  refine OGo.by_ (fun t k => XS.astoreN X1.here hx rfl (hb hby d_cp3_3) rfl rfl (l' := #[.val (.ref c8), .val (.int (0 : Int32)), .val (.int (3 : Int32)), .val (.ref b), .unset, .unset]) rfl k) ?_
  show OGo p e below _ (T1.setTop (mkF m 4 #[.val (.ref c8), .val (.int (0 : Int32)), .val (.int (3 : Int32)), .val (.ref b), .unset, .unset] []))
  refine OGo.by_ (fun t k => XS.aloadN X1.here hx rfl (hb hby d_cp3_4) rfl rfl k) ?_
  show OGo p e below _ (T1.setTop (mkF m 5 #[.val (.ref c8), .val (.int (0 : Int32)), .val (.int (3 : Int32)), .val (.ref b), .unset, .unset] [(.ref c8)]))
  refine OGo.by_ (fun t k => XS.iloadN X1.here hx rfl (hb hby d_cp3_5) rfl k) ?_
  show OGo p e below _ (T1.setTop (mkF m 6 #[.val (.ref c8), .val (.int (0 : Int32)), .val (.int (3 : Int32)), .val (.ref b), .unset, .unset] [(.int (0 : Int32)), (.ref c8)]))
  refine OGo.by_ (fun t k => XS.aloadN X1.here hx rfl (hb hby d_cp3_6) rfl rfl k) ?_
  show OGo p e below _ (T1.setTop (mkF m 7 #[.val (.ref c8), .val (.int (0 : Int32)), .val (.int (3 : Int32)), .val (.ref b), .unset, .unset] [(.ref b), (.int (0 : Int32)), (.ref c8)]))
  refine OGo.by_ (fun t k => XS.iconst X1.here hx rfl (hb hby d_cp3_7) k) ?_
  show OGo p e below _ (T1.setTop (mkF m 8 #[.val (.ref c8), .val (.int (0 : Int32)), .val (.int (3 : Int32)), .val (.ref b), .unset, .unset] [(.int (0 : Int32)), (.ref b), (.int (0 : Int32)), (.ref c8)]))
  refine OGo.by_ (fun t k => XS.iloadN X1.here hx rfl (hb hby d_cp3_8) rfl k) ?_
  show OGo p e below _ (T1.setTop (mkF m 9 #[.val (.ref c8), .val (.int (0 : Int32)), .val (.int (3 : Int32)), .val (.ref b), .unset, .unset] [(.int (3 : Int32)), (.int (0 : Int32)), (.ref b), (.int (0 : Int32)), (.ref c8)]))
  obtain ⟨_, _, ⟨T2, L2, k2, n2⟩, -, X2, ⟨Lc2, hQ2, l2, y2, z2⟩, st2⟩ := Jvm.LawKit.callS X1 hx (y := (⟨"java/lang/StringUTF16", "compress", "([CI[BII)I"⟩ : MethodName)) hown (mvT hZ (hw _ (List.mem_of_getElem? (i := 34) rfl))) (mvT hZ (hw _ (List.mem_of_getElem? (i := 35) rfl))) (mvT hZ (hw _ (List.mem_of_getElem? (i := 32) rfl))) (mvT hZ (hw _ (List.mem_of_getElem? (i := 36) rfl))) (by decide) (backOf (W := 0) (rm_cl3 l Z a0 hw [] c8 b kc k1 x y z h1 n0 Z1 (Vc.ext E1) Vb hcb gb c_x c_y c_z) hZ (hw _ (List.mem_of_getElem? (i := 36) rfl)) (hw _ (List.mem_of_getElem? (i := 32) rfl)) (by decide) (by decide)) (g := (mkF m 9 #[.val (.ref c8), .val (.int (0 : Int32)), .val (.int (3 : Int32)), .val (.ref b), .unset, .unset] [(.int (3 : Int32)), (.int (0 : Int32)), (.ref b), (.int (0 : Int32)), (.ref c8)])) rfl (by rw [hml]; rfl) (argsL := [(.ref c8), (.int (0 : Int32)), (.ref b), (.int (0 : Int32)), (.int (3 : Int32))]) (rest := []) (lenOf pd_oACIABIIcI rfl) rfl (by show 2 * 0 + _ ≤ _; exact Nat.le_of_eq rfl) (hb hby d_cp3_9) (fun _ _ => ⟨rfl, e1, (by decide : 1 + 0 ≤ _), (by decide : 3 + 0 ≤ _)⟩)
  dsimp only [Pt.U, Pt.locs, Pt.cells, Pt.slots] at X2 l2 y2 z2 st2 hQ2
  subst l2 y2 z2
  obtain ⟨rfl, Nq2, K2, V2⟩ := hQ2
  have N2 := Fr.app N0 Nq2
  refine OGo.by_ st2 ?_
  show OGo p e below _ (T2.setTop (mkF m 12 #[.val (.ref c8), .val (.int (0 : Int32)), .val (.int (3 : Int32)), .val (.ref b), .unset, .unset] [(.int (3 : Int32))]))
  refine OGo.by_ (fun t k => XS.istore X2.here hx rfl (hb hby d_cp3_12) rfl (l' := #[.val (.ref c8), .val (.int (0 : Int32)), .val (.int (3 : Int32)), .val (.ref b), .val (.int (3 : Int32)), .unset]) rfl k) ?_
  show OGo p e below _ (T2.setTop (mkF m 14 #[.val (.ref c8), .val (.int (0 : Int32)), .val (.int (3 : Int32)), .val (.ref b), .val (.int (3 : Int32)), .unset] []))
  refine OGo.by_ (fun t k => XS.iload X2.here hx rfl (hb hby d_cp3_14) rfl k) ?_
  show OGo p e below _ (T2.setTop (mkF m 16 #[.val (.ref c8), .val (.int (0 : Int32)), .val (.int (3 : Int32)), .val (.ref b), .val (.int (3 : Int32)), .unset] [(.int (3 : Int32))]))
  refine OGo.by_ (fun t k => XS.iloadN X2.here hx rfl (hb hby d_cp3_16) rfl k) ?_
  show OGo p e below _ (T2.setTop (mkF m 17 #[.val (.ref c8), .val (.int (0 : Int32)), .val (.int (3 : Int32)), .val (.ref b), .val (.int (3 : Int32)), .unset] [(.int (3 : Int32)), (.int (3 : Int32))]))
  refine OGo.by_ (fun t k => XS.icmpYes X2.here hx rfl (pc0 := 17) (pc' := 57) rfl (hb hby d_cp3_17) rfl (teq rfl).1 (by decide) (by decide) k) ?_
  show OGo p e below _ (T2.setTop (mkF m 57 #[.val (.ref c8), .val (.int (0 : Int32)), .val (.int (3 : Int32)), .val (.ref b), .val (.int (3 : Int32)), .unset] []))
  refine OGo.by_ (fun t k => XS.aloadN X2.here hx rfl (hb hby d_cp3_57) rfl rfl k) ?_
  show OGo p e below _ (T2.setTop (mkF m 58 #[.val (.ref c8), .val (.int (0 : Int32)), .val (.int (3 : Int32)), .val (.ref b), .val (.int (3 : Int32)), .unset] [(.ref b)]))
  exact own_retA X2 hx hlk hret rfl rfl (hb hby d_cp3_58) (by decide) (by decide) (⟨congrArg (fun z => some (Value.ref z)) g_b, N2, Keep.trans (own_ext_keep E1) K2 (allS (Or.inr (Nat.le_of_eq g_b.symm)) all0), k1, g_b ▸ V2⟩)
theorem d_cf1_0 : decode jdk_52_method_15_code 0 = .ok (.iload_n 1, 1) := by decide +kernel
theorem d_cf1_1 : decode jdk_52_method_15_code 1 = .ok (.aload_n 0, 1) := by decide +kernel
theorem d_cf1_2 : decode jdk_52_method_15_code 2 = .ok (.arraylength, 1) := by decide +kernel
theorem d_cf1_3 : decode jdk_52_method_15_code 3 = .ok (.isub, 1) := by decide +kernel
theorem d_cf1_4 : decode jdk_52_method_15_code 4 = .ok (.bipush 31, 2) := by decide +kernel
theorem d_cf1_6 : decode jdk_52_method_15_code 6 = .ok (.iushr, 1) := by decide +kernel
theorem d_cf1_7 : decode jdk_52_method_15_code 7 = .ok (.i2b, 1) := by decide +kernel
theorem d_cf1_8 : decode jdk_52_method_15_code 8 = .ok (.ireturn, 1) := by decide +kernel
theorem ef_cf1 (m : MethodId) (x0 : Addr) (x1 : Int32) : entryFrame m #[(.ref x0), (.int x1)] 2 = mkF m 0 #[.val (.ref x0), .val (.int x1)] [] := by first | (simp [entryFrame, mkF, argsToLocals, Value.category]; done) | rfl
def Q_cf1 (Z : State) (b : Addr) (kb : ClassId) (vs : List Value) (h0 : Heap) (n0 : Nat) (v : Option Value) (h : Heap) (L : List Loc) : Prop := v = some (.int (0 : Int32)) ∧ Fr n0 L ∧ h = h0
set_option maxRecDepth 65536 in
set_option maxHeartbeats 40000000 in
theorem rm_cf1 (l : Launch) (Z : State) (a0 : Array Value) (hw : ∀ d ∈ tables_1, d.before a0 Z = true) (ws : List Jvm.Cond) (b : Addr) (kb : ClassId) (vs : List Value) (h0 : Heap) (n0 : Nat) (Z0 : n0 ≤ h0.size) (Vb : Arv Z h0 b kb .byte (1 : Int32) vs (.int (0 : Int32))) :
    MetFree l (⟨"java/lang/StringUTF16", "coderFromArrayLen", "([BI)B"⟩ : MethodName) (head1 (Jvm.Cond.code (⟨"java/lang/StringUTF16", "coderFromArrayLen", "([BI)B"⟩ : MethodName) jdk_52_method_15_code 2 (some .byte) :: ws) ({ frames := 0, cells := 0, slots := 0, locals := 0 } : Room)) (fun a_ U => a_ = #[(.ref b), (.int (1 : Int32))] ∧ Z.Warmed39 U.vm ∧ U.heap = h0) (fun _ _ _ _ _ => True) (fun _ U o U' => ∃ v L, o = .returned v ∧ Q_cf1 Z b kb vs h0 n0 v U'.heap L ∧ FrameEnd U o U' L ({ frames := 0, cells := 0, slots := 0, locals := 0 } : Room).cells ({ frames := 0, cells := 0, slots := 0, locals := 0 } : Room).slots) := by
  refine MetFree.of_bodySF (plainFor_of_name pn_java_lang_StringUTF16) hisR ?_
  intro p e s m args below meth c s₁ Bd hml0 hP hK
  obtain ⟨rfl, hZ, hh⟩ := hP
  have hx := Bd.exec
  have hby := Bd.bytes
  have hml : c.maxLocals = 2 := hml0
  have hown : s.vm.findClass "java/lang/StringUTF16" = some m.cls := findClass_of_methodNamed Bd.named
  have hnm := (name_of_methodNamed Bd.named Bd.method).1
  have X0 : Stand p l e ({ frames := 0, cells := 0, slots := 0, locals := 0 } : Room) s m #[(.ref b), (.int (1 : Int32))] below meth c s₁ [] 0 0 := Stand.of_body Bd
  have e0 : s₁.heap = h0 := by rw [← hh, Bd.state]; rfl
  have N0 := Fr.nil n0
  have hlk := Bd.notSynchronized
  have hret := Bd.returns
  show OGo p e below (OEnd s (Q_cf1 Z b kb vs h0 n0) ({ frames := 0, cells := 0, slots := 0, locals := 0 } : Room).cells ({ frames := 0, cells := 0, slots := 0, locals := 0 } : Room).slots) (s₁.setTop (entryFrame m #[(.ref b), (.int (1 : Int32))] 2))
  rw [ef_cf1]
  show OGo p e below _ (s₁.setTop (mkF m 0 #[.val (.ref b), .val (.int (1 : Int32))] []))
  refine OGo.by_ (fun t k => XS.iloadN X0.here hx rfl (hb hby d_cf1_0) rfl k) ?_
  show OGo p e below _ (s₁.setTop (mkF m 1 #[.val (.ref b), .val (.int (1 : Int32))] [(.int (1 : Int32))]))
  refine OGo.by_ (fun t k => XS.aloadN X0.here hx rfl (hb hby d_cf1_1) rfl rfl k) ?_
  show OGo p e below _ (s₁.setTop (mkF m 2 #[.val (.ref b), .val (.int (1 : Int32))] [(.ref b), (.int (1 : Int32))]))
  obtain ⟨cl1, Ar1, q1, S1, Nn1, H1, G1⟩ := id Vb
  refine OGo.by_ (X0.arraylength hx (by rw [e0]; exact Ar1.1) (State.isArrayOf_alike hZ.alike Ar1.2.1) (g := (mkF m 2 #[.val (.ref b), .val (.int (1 : Int32))] [(.ref b), (.int (1 : Int32))])) rfl rfl (hb hby d_cf1_2)) ?_
  rw [len_of S1 Nn1]
  show OGo p e below _ (s₁.setTop (mkF m 3 #[.val (.ref b), .val (.int (1 : Int32))] [(.int (1 : Int32)), (.int (1 : Int32))]))
  refine OGo.by_ (fun t k => XS.isub X0.here hx rfl (hb hby d_cf1_3) rfl k) ?_
  show OGo p e below _ (s₁.setTop (mkF m 4 #[.val (.ref b), .val (.int (1 : Int32))] [(.int ((1 : Int32) - (1 : Int32)))]))
  refine OGo.by_ (fun t k => XS.bipush X0.here hx rfl (hb hby d_cf1_4) k) ?_
  show OGo p e below _ (s₁.setTop (mkF m 6 #[.val (.ref b), .val (.int (1 : Int32))] [(.int (31 : Int32)), (.int ((1 : Int32) - (1 : Int32)))]))
  refine OGo.by_ (fun t k => XS.iushr X0.here hx rfl (hb hby d_cf1_6) rfl k) ?_
  show OGo p e below _ (s₁.setTop (mkF m 7 #[.val (.ref b), .val (.int (1 : Int32))] [(.int ((((1 : Int32) - (1 : Int32)).toUInt32 >>> ((31 : Int32) &&& 31).toUInt32).toInt32))]))
  refine OGo.by_ (fun t k => XS.i2b X0.here hx rfl (hb hby d_cf1_7) rfl k) ?_
  show OGo p e below _ (s₁.setTop (mkF m 8 #[.val (.ref b), .val (.int (1 : Int32))] [(.int (((((1 : Int32) - (1 : Int32)).toUInt32 >>> ((31 : Int32) &&& 31).toUInt32).toInt32).toInt8.toInt32))]))
  exact own_retN X0 hx hlk (t := .byte) hret (by simp) (hb hby d_cf1_8) (by decide) (by decide) (⟨by decide, N0, e0⟩)
theorem d_cf2_0 : decode jdk_52_method_15_code 0 = .ok (.iload_n 1, 1) := by decide +kernel
theorem d_cf2_1 : decode jdk_52_method_15_code 1 = .ok (.aload_n 0, 1) := by decide +kernel
theorem d_cf2_2 : decode jdk_52_method_15_code 2 = .ok (.arraylength, 1) := by decide +kernel
theorem d_cf2_3 : decode jdk_52_method_15_code 3 = .ok (.isub, 1) := by decide +kernel
theorem d_cf2_4 : decode jdk_52_method_15_code 4 = .ok (.bipush 31, 2) := by decide +kernel
theorem d_cf2_6 : decode jdk_52_method_15_code 6 = .ok (.iushr, 1) := by decide +kernel
theorem d_cf2_7 : decode jdk_52_method_15_code 7 = .ok (.i2b, 1) := by decide +kernel
theorem d_cf2_8 : decode jdk_52_method_15_code 8 = .ok (.ireturn, 1) := by decide +kernel
theorem ef_cf2 (m : MethodId) (x0 : Addr) (x1 : Int32) : entryFrame m #[(.ref x0), (.int x1)] 2 = mkF m 0 #[.val (.ref x0), .val (.int x1)] [] := by first | (simp [entryFrame, mkF, argsToLocals, Value.category]; done) | rfl
def Q_cf2 (Z : State) (b : Addr) (kb : ClassId) (vs : List Value) (h0 : Heap) (n0 : Nat) (v : Option Value) (h : Heap) (L : List Loc) : Prop := v = some (.int (0 : Int32)) ∧ Fr n0 L ∧ h = h0
set_option maxRecDepth 65536 in
set_option maxHeartbeats 40000000 in
theorem rm_cf2 (l : Launch) (Z : State) (a0 : Array Value) (hw : ∀ d ∈ tables_1, d.before a0 Z = true) (ws : List Jvm.Cond) (b : Addr) (kb : ClassId) (vs : List Value) (h0 : Heap) (n0 : Nat) (Z0 : n0 ≤ h0.size) (Vb : Arv Z h0 b kb .byte (2 : Int32) vs (.int (0 : Int32))) :
    MetFree l (⟨"java/lang/StringUTF16", "coderFromArrayLen", "([BI)B"⟩ : MethodName) (head1 (Jvm.Cond.code (⟨"java/lang/StringUTF16", "coderFromArrayLen", "([BI)B"⟩ : MethodName) jdk_52_method_15_code 2 (some .byte) :: ws) ({ frames := 0, cells := 0, slots := 0, locals := 0 } : Room)) (fun a_ U => a_ = #[(.ref b), (.int (2 : Int32))] ∧ Z.Warmed39 U.vm ∧ U.heap = h0) (fun _ _ _ _ _ => True) (fun _ U o U' => ∃ v L, o = .returned v ∧ Q_cf2 Z b kb vs h0 n0 v U'.heap L ∧ FrameEnd U o U' L ({ frames := 0, cells := 0, slots := 0, locals := 0 } : Room).cells ({ frames := 0, cells := 0, slots := 0, locals := 0 } : Room).slots) := by
  refine MetFree.of_bodySF (plainFor_of_name pn_java_lang_StringUTF16) hisR ?_
  intro p e s m args below meth c s₁ Bd hml0 hP hK
  obtain ⟨rfl, hZ, hh⟩ := hP
  have hx := Bd.exec
  have hby := Bd.bytes
  have hml : c.maxLocals = 2 := hml0
  have hown : s.vm.findClass "java/lang/StringUTF16" = some m.cls := findClass_of_methodNamed Bd.named
  have hnm := (name_of_methodNamed Bd.named Bd.method).1
  have X0 : Stand p l e ({ frames := 0, cells := 0, slots := 0, locals := 0 } : Room) s m #[(.ref b), (.int (2 : Int32))] below meth c s₁ [] 0 0 := Stand.of_body Bd
  have e0 : s₁.heap = h0 := by rw [← hh, Bd.state]; rfl
  have N0 := Fr.nil n0
  have hlk := Bd.notSynchronized
  have hret := Bd.returns
  show OGo p e below (OEnd s (Q_cf2 Z b kb vs h0 n0) ({ frames := 0, cells := 0, slots := 0, locals := 0 } : Room).cells ({ frames := 0, cells := 0, slots := 0, locals := 0 } : Room).slots) (s₁.setTop (entryFrame m #[(.ref b), (.int (2 : Int32))] 2))
  rw [ef_cf2]
  show OGo p e below _ (s₁.setTop (mkF m 0 #[.val (.ref b), .val (.int (2 : Int32))] []))
  refine OGo.by_ (fun t k => XS.iloadN X0.here hx rfl (hb hby d_cf2_0) rfl k) ?_
  show OGo p e below _ (s₁.setTop (mkF m 1 #[.val (.ref b), .val (.int (2 : Int32))] [(.int (2 : Int32))]))
  refine OGo.by_ (fun t k => XS.aloadN X0.here hx rfl (hb hby d_cf2_1) rfl rfl k) ?_
  show OGo p e below _ (s₁.setTop (mkF m 2 #[.val (.ref b), .val (.int (2 : Int32))] [(.ref b), (.int (2 : Int32))]))
  obtain ⟨cl1, Ar1, q1, S1, Nn1, H1, G1⟩ := id Vb
  refine OGo.by_ (X0.arraylength hx (by rw [e0]; exact Ar1.1) (State.isArrayOf_alike hZ.alike Ar1.2.1) (g := (mkF m 2 #[.val (.ref b), .val (.int (2 : Int32))] [(.ref b), (.int (2 : Int32))])) rfl rfl (hb hby d_cf2_2)) ?_
  rw [len_of S1 Nn1]
  show OGo p e below _ (s₁.setTop (mkF m 3 #[.val (.ref b), .val (.int (2 : Int32))] [(.int (2 : Int32)), (.int (2 : Int32))]))
  refine OGo.by_ (fun t k => XS.isub X0.here hx rfl (hb hby d_cf2_3) rfl k) ?_
  show OGo p e below _ (s₁.setTop (mkF m 4 #[.val (.ref b), .val (.int (2 : Int32))] [(.int ((2 : Int32) - (2 : Int32)))]))
  refine OGo.by_ (fun t k => XS.bipush X0.here hx rfl (hb hby d_cf2_4) k) ?_
  show OGo p e below _ (s₁.setTop (mkF m 6 #[.val (.ref b), .val (.int (2 : Int32))] [(.int (31 : Int32)), (.int ((2 : Int32) - (2 : Int32)))]))
  refine OGo.by_ (fun t k => XS.iushr X0.here hx rfl (hb hby d_cf2_6) rfl k) ?_
  show OGo p e below _ (s₁.setTop (mkF m 7 #[.val (.ref b), .val (.int (2 : Int32))] [(.int ((((2 : Int32) - (2 : Int32)).toUInt32 >>> ((31 : Int32) &&& 31).toUInt32).toInt32))]))
  refine OGo.by_ (fun t k => XS.i2b X0.here hx rfl (hb hby d_cf2_7) rfl k) ?_
  show OGo p e below _ (s₁.setTop (mkF m 8 #[.val (.ref b), .val (.int (2 : Int32))] [(.int (((((2 : Int32) - (2 : Int32)).toUInt32 >>> ((31 : Int32) &&& 31).toUInt32).toInt32).toInt8.toInt32))]))
  exact own_retN X0 hx hlk (t := .byte) hret (by simp) (hb hby d_cf2_8) (by decide) (by decide) (⟨by decide, N0, e0⟩)
theorem d_cf3_0 : decode jdk_52_method_15_code 0 = .ok (.iload_n 1, 1) := by decide +kernel
theorem d_cf3_1 : decode jdk_52_method_15_code 1 = .ok (.aload_n 0, 1) := by decide +kernel
theorem d_cf3_2 : decode jdk_52_method_15_code 2 = .ok (.arraylength, 1) := by decide +kernel
theorem d_cf3_3 : decode jdk_52_method_15_code 3 = .ok (.isub, 1) := by decide +kernel
theorem d_cf3_4 : decode jdk_52_method_15_code 4 = .ok (.bipush 31, 2) := by decide +kernel
theorem d_cf3_6 : decode jdk_52_method_15_code 6 = .ok (.iushr, 1) := by decide +kernel
theorem d_cf3_7 : decode jdk_52_method_15_code 7 = .ok (.i2b, 1) := by decide +kernel
theorem d_cf3_8 : decode jdk_52_method_15_code 8 = .ok (.ireturn, 1) := by decide +kernel
theorem ef_cf3 (m : MethodId) (x0 : Addr) (x1 : Int32) : entryFrame m #[(.ref x0), (.int x1)] 2 = mkF m 0 #[.val (.ref x0), .val (.int x1)] [] := by first | (simp [entryFrame, mkF, argsToLocals, Value.category]; done) | rfl
def Q_cf3 (Z : State) (b : Addr) (kb : ClassId) (vs : List Value) (h0 : Heap) (n0 : Nat) (v : Option Value) (h : Heap) (L : List Loc) : Prop := v = some (.int (0 : Int32)) ∧ Fr n0 L ∧ h = h0
set_option maxRecDepth 65536 in
set_option maxHeartbeats 40000000 in
theorem rm_cf3 (l : Launch) (Z : State) (a0 : Array Value) (hw : ∀ d ∈ tables_1, d.before a0 Z = true) (ws : List Jvm.Cond) (b : Addr) (kb : ClassId) (vs : List Value) (h0 : Heap) (n0 : Nat) (Z0 : n0 ≤ h0.size) (Vb : Arv Z h0 b kb .byte (3 : Int32) vs (.int (0 : Int32))) :
    MetFree l (⟨"java/lang/StringUTF16", "coderFromArrayLen", "([BI)B"⟩ : MethodName) (head1 (Jvm.Cond.code (⟨"java/lang/StringUTF16", "coderFromArrayLen", "([BI)B"⟩ : MethodName) jdk_52_method_15_code 2 (some .byte) :: ws) ({ frames := 0, cells := 0, slots := 0, locals := 0 } : Room)) (fun a_ U => a_ = #[(.ref b), (.int (3 : Int32))] ∧ Z.Warmed39 U.vm ∧ U.heap = h0) (fun _ _ _ _ _ => True) (fun _ U o U' => ∃ v L, o = .returned v ∧ Q_cf3 Z b kb vs h0 n0 v U'.heap L ∧ FrameEnd U o U' L ({ frames := 0, cells := 0, slots := 0, locals := 0 } : Room).cells ({ frames := 0, cells := 0, slots := 0, locals := 0 } : Room).slots) := by
  refine MetFree.of_bodySF (plainFor_of_name pn_java_lang_StringUTF16) hisR ?_
  intro p e s m args below meth c s₁ Bd hml0 hP hK
  obtain ⟨rfl, hZ, hh⟩ := hP
  have hx := Bd.exec
  have hby := Bd.bytes
  have hml : c.maxLocals = 2 := hml0
  have hown : s.vm.findClass "java/lang/StringUTF16" = some m.cls := findClass_of_methodNamed Bd.named
  have hnm := (name_of_methodNamed Bd.named Bd.method).1
  have X0 : Stand p l e ({ frames := 0, cells := 0, slots := 0, locals := 0 } : Room) s m #[(.ref b), (.int (3 : Int32))] below meth c s₁ [] 0 0 := Stand.of_body Bd
  have e0 : s₁.heap = h0 := by rw [← hh, Bd.state]; rfl
  have N0 := Fr.nil n0
  have hlk := Bd.notSynchronized
  have hret := Bd.returns
  show OGo p e below (OEnd s (Q_cf3 Z b kb vs h0 n0) ({ frames := 0, cells := 0, slots := 0, locals := 0 } : Room).cells ({ frames := 0, cells := 0, slots := 0, locals := 0 } : Room).slots) (s₁.setTop (entryFrame m #[(.ref b), (.int (3 : Int32))] 2))
  rw [ef_cf3]
  show OGo p e below _ (s₁.setTop (mkF m 0 #[.val (.ref b), .val (.int (3 : Int32))] []))
  refine OGo.by_ (fun t k => XS.iloadN X0.here hx rfl (hb hby d_cf3_0) rfl k) ?_
  show OGo p e below _ (s₁.setTop (mkF m 1 #[.val (.ref b), .val (.int (3 : Int32))] [(.int (3 : Int32))]))
  refine OGo.by_ (fun t k => XS.aloadN X0.here hx rfl (hb hby d_cf3_1) rfl rfl k) ?_
  show OGo p e below _ (s₁.setTop (mkF m 2 #[.val (.ref b), .val (.int (3 : Int32))] [(.ref b), (.int (3 : Int32))]))
  obtain ⟨cl1, Ar1, q1, S1, Nn1, H1, G1⟩ := id Vb
  refine OGo.by_ (X0.arraylength hx (by rw [e0]; exact Ar1.1) (State.isArrayOf_alike hZ.alike Ar1.2.1) (g := (mkF m 2 #[.val (.ref b), .val (.int (3 : Int32))] [(.ref b), (.int (3 : Int32))])) rfl rfl (hb hby d_cf3_2)) ?_
  rw [len_of S1 Nn1]
  show OGo p e below _ (s₁.setTop (mkF m 3 #[.val (.ref b), .val (.int (3 : Int32))] [(.int (3 : Int32)), (.int (3 : Int32))]))
  refine OGo.by_ (fun t k => XS.isub X0.here hx rfl (hb hby d_cf3_3) rfl k) ?_
  show OGo p e below _ (s₁.setTop (mkF m 4 #[.val (.ref b), .val (.int (3 : Int32))] [(.int ((3 : Int32) - (3 : Int32)))]))
  refine OGo.by_ (fun t k => XS.bipush X0.here hx rfl (hb hby d_cf3_4) k) ?_
  show OGo p e below _ (s₁.setTop (mkF m 6 #[.val (.ref b), .val (.int (3 : Int32))] [(.int (31 : Int32)), (.int ((3 : Int32) - (3 : Int32)))]))
  refine OGo.by_ (fun t k => XS.iushr X0.here hx rfl (hb hby d_cf3_6) rfl k) ?_
  show OGo p e below _ (s₁.setTop (mkF m 7 #[.val (.ref b), .val (.int (3 : Int32))] [(.int ((((3 : Int32) - (3 : Int32)).toUInt32 >>> ((31 : Int32) &&& 31).toUInt32).toInt32))]))
  refine OGo.by_ (fun t k => XS.i2b X0.here hx rfl (hb hby d_cf3_7) rfl k) ?_
  show OGo p e below _ (s₁.setTop (mkF m 8 #[.val (.ref b), .val (.int (3 : Int32))] [(.int (((((3 : Int32) - (3 : Int32)).toUInt32 >>> ((31 : Int32) &&& 31).toUInt32).toInt32).toInt8.toInt32))]))
  exact own_retN X0 hx hlk (t := .byte) hret (by simp) (hb hby d_cf3_8) (by decide) (by decide) (⟨by decide, N0, e0⟩)
theorem own_all1 {x : Int32} (hx : own_ch x) : ∀ v ∈ [x], own_ch v := fun v hv => by cases List.mem_singleton.mp hv; exact hx
theorem own_all2 {x y : Int32} (hx : own_ch x) (hy : own_ch y) : ∀ v ∈ [x, y], own_ch v := fun v hv => by
  rcases List.mem_cons.mp hv with rfl | hv
  · exact hx
  · exact own_all1 hy v hv
theorem own_all3 {x y z : Int32} (hx : own_ch x) (hy : own_ch y) (hz : own_ch z) : ∀ v ∈ [x, y, z], own_ch v := fun v hv => by
  rcases List.mem_cons.mp hv with rfl | hv
  · exact hx
  · exact own_all2 hy hz v hv
theorem d_s41_0 : decode jdk_42_method_149_code 0 = .ok (.aload_n 0, 1) := by decide +kernel
theorem d_s41_1 : decode jdk_42_method_149_code 1 = .ok (.invokespecial 1, 3) := by decide +kernel
theorem d_s41_4 : decode jdk_42_method_149_code 4 = .ok (.iload_n 3, 1) := by decide +kernel
theorem d_s41_5 : decode jdk_42_method_149_code 5 = .ok (.ifCond .ne 22, 3) := by decide +kernel
theorem d_s41_27 : decode jdk_42_method_149_code 27 = .ok (.getstatic 38, 3) := by decide +kernel
theorem d_s41_30 : decode jdk_42_method_149_code 30 = .ok (.ifCond .eq 28, 3) := by decide +kernel
theorem d_s41_33 : decode jdk_42_method_149_code 33 = .ok (.aload_n 1, 1) := by decide +kernel
theorem d_s41_34 : decode jdk_42_method_149_code 34 = .ok (.iload_n 2, 1) := by decide +kernel
theorem d_s41_35 : decode jdk_42_method_149_code 35 = .ok (.iload_n 3, 1) := by decide +kernel
theorem d_s41_36 : decode jdk_42_method_149_code 36 = .ok (.invokestatic 177, 3) := by decide +kernel
theorem pd_oACIIcAB : parseMethodDescriptor "([CII)[B" = some ⟨[(.array .char), .int, .int], some (.array .byte)⟩ := by decide +kernel
theorem d_s41_39 : decode jdk_42_method_149_code 39 = .ok (.astore 5, 2) := by decide +kernel
theorem d_s41_41 : decode jdk_42_method_149_code 41 = .ok (.aload_n 0, 1) := by decide +kernel
theorem d_s41_42 : decode jdk_42_method_149_code 42 = .ok (.aload 5, 2) := by decide +kernel
theorem d_s41_44 : decode jdk_42_method_149_code 44 = .ok (.iload_n 3, 1) := by decide +kernel
theorem d_s41_45 : decode jdk_42_method_149_code 45 = .ok (.invokestatic 47, 3) := by decide +kernel
theorem pd_oABIcB : parseMethodDescriptor "([BI)B" = some ⟨[(.array .byte), .int], some .byte⟩ := by decide +kernel
theorem d_s41_48 : decode jdk_42_method_149_code 48 = .ok (.putfield 15, 3) := by decide +kernel
theorem d_s41_51 : decode jdk_42_method_149_code 51 = .ok (.aload_n 0, 1) := by decide +kernel
theorem d_s41_52 : decode jdk_42_method_149_code 52 = .ok (.aload 5, 2) := by decide +kernel
theorem d_s41_54 : decode jdk_42_method_149_code 54 = .ok (.putfield 9, 3) := by decide +kernel
theorem d_s41_57 : decode jdk_42_method_149_code 57 = .ok (.return_, 1) := by decide +kernel
theorem pn_java_lang_String : plainName "java/lang/String" = true := by first | (simp [plainName, overriddenIn]; done) | decide +kernel
theorem ef_s41 (m : MethodId) (x0 : Addr) (x1 : Addr) (x2 : Int32) (x3 : Int32) : entryFrame m #[(.ref x0), (.ref x1), (.int x2), (.int x3), .null] 6 = mkF m 0 #[.val (.ref x0), .val (.ref x1), .val (.int x2), .val (.int x3), .val .null, .unset] [] := by first | (simp [entryFrame, mkF, argsToLocals, Value.category]; done) | rfl
def Q_s41 (Z : State) (a c8 : Addr) (kc : ClassId) (cs : Int32) (x : Int32) (h0 : Heap) (n0 : Nat) (v : Option Value) (h : Heap) (L : List Loc) : Prop := v = none ∧ Fr n0 L ∧ Keep h0 h [a] ∧ ∃ b, own_S Z h a b (1 : Int32) [x]
set_option maxRecDepth 65536 in
set_option maxHeartbeats 40000000 in
theorem rm_s41 (l : Launch) (Z : State) (a0 : Array Value) (hw : ∀ d ∈ tables_1, d.before a0 Z = true) (ws : List Jvm.Cond) (a c8 : Addr) (kc : ClassId) (cs : Int32) (x : Int32) (h0 : Heap) (n0 : Nat) (Z0 : n0 ≤ h0.size) (E0 : Exa Z h0 a "java/lang/String") (F0 : Fld Z h0 a "java/lang/String" "value" "[B" .null) (F1 : Fld Z h0 a "java/lang/String" "coder" "B" (.int (0 : Int32))) (ga : n0 ≤ a) (SC : Sta Z h0 "java/lang/String" "COMPACT_STRINGS" "Z" (.int cs)) (hcs : ¬ cs = (0 : Int32)) (Vc : Arv Z h0 c8 kc .char (1 : Int32) [(.int x)] (.int (0 : Int32))) (c_x : own_ch x) :
    MetFree l (⟨"java/lang/String", "<init>", "([CIILjava/lang/Void;)V"⟩ : MethodName) (head1 (Jvm.Cond.code (⟨"java/lang/String", "<init>", "([CIILjava/lang/Void;)V"⟩ : MethodName) jdk_42_method_149_code 6 none :: ws) ({ frames := 2, cells := 1, slots := 3, locals := 35 } : Room)) (fun a_ U => a_ = #[(.ref a), (.ref c8), (.int (0 : Int32)), (.int (1 : Int32)), .null] ∧ Z.Warmed39 U.vm ∧ U.heap = h0) (fun _ _ _ _ _ => True) (fun _ U o U' => ∃ v L, o = .returned v ∧ Q_s41 Z a c8 kc cs x h0 n0 v U'.heap L ∧ FrameEnd U o U' L ({ frames := 2, cells := 1, slots := 3, locals := 35 } : Room).cells ({ frames := 2, cells := 1, slots := 3, locals := 35 } : Room).slots) := by
  refine MetFree.of_bodySF (plainFor_of_name pn_java_lang_String) hisR ?_
  intro p e s m args below meth c s₁ Bd hml0 hP hK
  obtain ⟨rfl, hZ, hh⟩ := hP
  have hx := Bd.exec
  have hby := Bd.bytes
  have hml : c.maxLocals = 6 := hml0
  have hown : s.vm.findClass "java/lang/String" = some m.cls := findClass_of_methodNamed Bd.named
  have hnm := (name_of_methodNamed Bd.named Bd.method).1
  have X0 : Stand p l e ({ frames := 2, cells := 1, slots := 3, locals := 35 } : Room) s m #[(.ref a), (.ref c8), (.int (0 : Int32)), (.int (1 : Int32)), .null] below meth c s₁ [] 0 0 := Stand.of_body Bd
  have e0 : s₁.heap = h0 := by rw [← hh, Bd.state]; rfl
  have N0 := Fr.nil n0
  have hlk := Bd.notSynchronized
  have hret := Bd.returns
  show OGo p e below (OEnd s (Q_s41 Z a c8 kc cs x h0 n0) ({ frames := 2, cells := 1, slots := 3, locals := 35 } : Room).cells ({ frames := 2, cells := 1, slots := 3, locals := 35 } : Room).slots) (s₁.setTop (entryFrame m #[(.ref a), (.ref c8), (.int (0 : Int32)), (.int (1 : Int32)), .null] 6))
  rw [ef_s41]
  show OGo p e below _ (s₁.setTop (mkF m 0 #[.val (.ref a), .val (.ref c8), .val (.int (0 : Int32)), .val (.int (1 : Int32)), .val .null, .unset] []))
  refine OGo.by_ (fun t k => XS.aloadN X0.here hx rfl (hb hby d_s41_0) rfl rfl k) ?_
  show OGo p e below _ (s₁.setTop (mkF m 1 #[.val (.ref a), .val (.ref c8), .val (.int (0 : Int32)), .val (.int (1 : Int32)), .val .null, .unset] [(.ref a)]))
  obtain ⟨T1, X1, e1, st1⟩ := initO X0 hx hZ hown (hw _ (List.mem_of_getElem? (i := 18) rfl)) (hw _ (List.mem_of_getElem? (i := 19) rfl)) (hw _ (List.mem_of_getElem? (i := 20) rfl)) e0 (g := (mkF m 1 #[.val (.ref a), .val (.ref c8), .val (.int (0 : Int32)), .val (.int (1 : Int32)), .val .null, .unset] [(.ref a)])) rfl (by rw [hml]; rfl) rfl (hb hby d_s41_1) (by decide) (W := 0) (by show 2 * 0 + _ ≤ _; exact Nat.le_of_eq rfl) (by decide)
  refine OGo.by_ st1 ?_
  show OGo p e below _ (T1.setTop (mkF m 4 #[.val (.ref a), .val (.ref c8), .val (.int (0 : Int32)), .val (.int (1 : Int32)), .val .null, .unset] []))
  refine OGo.by_ (fun t k => XS.iloadN X1.here hx rfl (hb hby d_s41_4) rfl k) ?_
  show OGo p e below _ (T1.setTop (mkF m 5 #[.val (.ref a), .val (.ref c8), .val (.int (0 : Int32)), .val (.int (1 : Int32)), .val .null, .unset] [(.int (1 : Int32))]))
  refine OGo.by_ (fun t k => XS.ifYes X1.here hx rfl (pc0 := 5) (pc' := 27) rfl (hb hby d_s41_5) rfl ((if0 _ _).trans (feq (by decide)).2) (by decide) (by decide) k) ?_
  show OGo p e below _ (T1.setTop (mkF m 27 #[.val (.ref a), .val (.ref c8), .val (.int (0 : Int32)), .val (.int (1 : Int32)), .val .null, .unset] []))
  obtain ⟨T2, X2, e2, st2⟩ := getS X1 hx hZ hown (host := "") (hw _ (List.mem_of_getElem? (i := 29) rfl)) Via.refl e1 SC (g := (mkF m 27 #[.val (.ref a), .val (.ref c8), .val (.int (0 : Int32)), .val (.int (1 : Int32)), .val .null, .unset] [])) rfl (hb hby d_s41_27)
  refine OGo.by_ st2 ?_
  show OGo p e below _ (T2.setTop (mkF m 30 #[.val (.ref a), .val (.ref c8), .val (.int (0 : Int32)), .val (.int (1 : Int32)), .val .null, .unset] [(.int cs)]))
  refine OGo.by_ (fun t k => XS.ifNo X2.here hx rfl (hb hby d_s41_30) rfl ((if0 _ _).trans (feq hcs).1) k) ?_
  show OGo p e below _ (T2.setTop (mkF m 33 #[.val (.ref a), .val (.ref c8), .val (.int (0 : Int32)), .val (.int (1 : Int32)), .val .null, .unset] []))
  refine OGo.by_ (fun t k => XS.aloadN X2.here hx rfl (hb hby d_s41_33) rfl rfl k) ?_
  show OGo p e below _ (T2.setTop (mkF m 34 #[.val (.ref a), .val (.ref c8), .val (.int (0 : Int32)), .val (.int (1 : Int32)), .val .null, .unset] [(.ref c8)]))
  refine OGo.by_ (fun t k => XS.iloadN X2.here hx rfl (hb hby d_s41_34) rfl k) ?_
  show OGo p e below _ (T2.setTop (mkF m 35 #[.val (.ref a), .val (.ref c8), .val (.int (0 : Int32)), .val (.int (1 : Int32)), .val .null, .unset] [(.int (0 : Int32)), (.ref c8)]))
  refine OGo.by_ (fun t k => XS.iloadN X2.here hx rfl (hb hby d_s41_35) rfl k) ?_
  show OGo p e below _ (T2.setTop (mkF m 36 #[.val (.ref a), .val (.ref c8), .val (.int (0 : Int32)), .val (.int (1 : Int32)), .val .null, .unset] [(.int (1 : Int32)), (.int (0 : Int32)), (.ref c8)]))
  obtain ⟨_, _, ⟨T3, L3, k3, n3⟩, -, X3, ⟨Lc3, hQ3, l3, y3, z3⟩, st3⟩ := Jvm.LawKit.callS X2 hx (y := (⟨"java/lang/StringUTF16", "compress", "([CII)[B"⟩ : MethodName)) hown (mvT hZ (hw _ (List.mem_of_getElem? (i := 30) rfl))) (mvT hZ (hw _ (List.mem_of_getElem? (i := 31) rfl))) (mvT hZ (hw _ (List.mem_of_getElem? (i := 32) rfl))) (mvT hZ (hw _ (List.mem_of_getElem? (i := 33) rfl))) (by decide) (backOf (W := 0) (rm_cp1 l Z a0 hw [] c8 kc x h0 n0 Z0 Vc c_x) hZ (hw _ (List.mem_of_getElem? (i := 33) rfl)) (hw _ (List.mem_of_getElem? (i := 32) rfl)) (by decide) (by decide)) (g := (mkF m 36 #[.val (.ref a), .val (.ref c8), .val (.int (0 : Int32)), .val (.int (1 : Int32)), .val .null, .unset] [(.int (1 : Int32)), (.int (0 : Int32)), (.ref c8)])) rfl (by rw [hml]; rfl) (argsL := [(.ref c8), (.int (0 : Int32)), (.int (1 : Int32))]) (rest := []) (lenOf pd_oACIIcAB rfl) rfl (by show 2 * 0 + _ ≤ _; exact Nat.le_of_eq rfl) (hb hby d_s41_36) (fun _ _ => ⟨rfl, e2, (by decide : 0 + 1 ≤ _), (by decide : 0 + 3 ≤ _)⟩)
  dsimp only [Pt.U, Pt.locs, Pt.cells, Pt.slots] at X3 l3 y3 z3 st3 hQ3
  subst l3 y3 z3
  obtain ⟨rfl, Nq3, K3, kb, V3⟩ := hQ3
  have N3 := Fr.app N0 Nq3
  refine OGo.by_ st3 ?_
  show OGo p e below _ (T3.setTop (mkF m 39 #[.val (.ref a), .val (.ref c8), .val (.int (0 : Int32)), .val (.int (1 : Int32)), .val .null, .unset] [(.ref h0.size)]))
  obtain ⟨b, g_b⟩ : ∃ q, q = h0.size := ⟨_, rfl⟩
  rw [← g_b] at V3
  rw [← g_b]
  show OGo p e below _ (T3.setTop (mkF m 39 #[.val (.ref a), .val (.ref c8), .val (.int (0 : Int32)), .val (.int (1 : Int32)), .val .null, .unset] [(.ref b)]))
  have a_lt : h0.size > a := E0.lt
  have hab : a ≠ b := own_ne (by omega)
  have Z1 : n0 ≤ T3.heap.size := Nat.le_trans Z0 K3.1
  have E1 := E0.keep K3
  have G0 := F0.keep K3 nin0
  have G1 := F1.keep K3 nin0
  refine OGo.by_ (fun t k => XS.astore X3.here hx rfl (hb hby d_s41_39) rfl rfl (l' := #[.val (.ref a), .val (.ref c8), .val (.int (0 : Int32)), .val (.int (1 : Int32)), .val .null, .val (.ref b)]) rfl k) ?_
  show OGo p e below _ (T3.setTop (mkF m 41 #[.val (.ref a), .val (.ref c8), .val (.int (0 : Int32)), .val (.int (1 : Int32)), .val .null, .val (.ref b)] []))
  refine OGo.by_ (fun t k => XS.aloadN X3.here hx rfl (hb hby d_s41_41) rfl rfl k) ?_
  show OGo p e below _ (T3.setTop (mkF m 42 #[.val (.ref a), .val (.ref c8), .val (.int (0 : Int32)), .val (.int (1 : Int32)), .val .null, .val (.ref b)] [(.ref a)]))
  refine OGo.by_ (fun t k => XS.aload X3.here hx rfl (hb hby d_s41_42) rfl rfl k) ?_
  show OGo p e below _ (T3.setTop (mkF m 44 #[.val (.ref a), .val (.ref c8), .val (.int (0 : Int32)), .val (.int (1 : Int32)), .val .null, .val (.ref b)] [(.ref b), (.ref a)]))
  refine OGo.by_ (fun t k => XS.iloadN X3.here hx rfl (hb hby d_s41_44) rfl k) ?_
  show OGo p e below _ (T3.setTop (mkF m 45 #[.val (.ref a), .val (.ref c8), .val (.int (0 : Int32)), .val (.int (1 : Int32)), .val .null, .val (.ref b)] [(.int (1 : Int32)), (.ref b), (.ref a)]))
  obtain ⟨_, _, ⟨T4, L4, k4, n4⟩, -, X4, ⟨Lc4, hQ4, l4, y4, z4⟩, st4⟩ := Jvm.LawKit.callS X3 hx (y := (⟨"java/lang/StringUTF16", "coderFromArrayLen", "([BI)B"⟩ : MethodName)) hown (mvT hZ (hw _ (List.mem_of_getElem? (i := 37) rfl))) (mvT hZ (hw _ (List.mem_of_getElem? (i := 38) rfl))) (mvT hZ (hw _ (List.mem_of_getElem? (i := 32) rfl))) (mvT hZ (hw _ (List.mem_of_getElem? (i := 39) rfl))) (by decide) (backOf (W := 1) (rm_cf1 l Z a0 hw [] b kb _ T3.heap n0 Z1 V3) hZ (hw _ (List.mem_of_getElem? (i := 39) rfl)) (hw _ (List.mem_of_getElem? (i := 32) rfl)) (by decide) (by decide)) (g := (mkF m 45 #[.val (.ref a), .val (.ref c8), .val (.int (0 : Int32)), .val (.int (1 : Int32)), .val .null, .val (.ref b)] [(.int (1 : Int32)), (.ref b), (.ref a)])) rfl (by rw [hml]; rfl) (argsL := [(.ref b), (.int (1 : Int32))]) (rest := [(.ref a)]) (lenOf pd_oABIcB rfl) rfl (by show 2 * 0 + _ ≤ _; exact Nat.le_of_eq rfl) (hb hby d_s41_45) (fun _ _ => ⟨rfl, rfl, (by decide : 1 + 0 ≤ _), (by decide : 3 + 0 ≤ _)⟩)
  dsimp only [Pt.U, Pt.locs, Pt.cells, Pt.slots] at X4 l4 y4 z4 st4 hQ4
  subst l4 y4 z4
  obtain ⟨rfl, Nq4, eq4⟩ := hQ4
  have N4 := Fr.app N3 Nq4
  refine OGo.by_ st4 ?_
  show OGo p e below _ (T4.setTop (mkF m 48 #[.val (.ref a), .val (.ref c8), .val (.int (0 : Int32)), .val (.int (1 : Int32)), .val .null, .val (.ref b)] [(.int (0 : Int32)), (.ref a)]))
  obtain ⟨T5, h5, X5, e5, W5, st5⟩ := putFN X4 hx hZ hown (hw _ (List.mem_of_getElem? (i := 28) rfl)) Via.refl eq4 G1 E1 (Or.inr ⟨(hw _ (List.mem_of_getElem? (i := 24) rfl)), rfl, hnm⟩) (hw _ (List.mem_of_getElem? (i := 8) rfl)) (ty := .byte) (v' := (.int (0 : Int32))) (by decide) rfl (by decide) (g := (mkF m 48 #[.val (.ref a), .val (.ref c8), .val (.int (0 : Int32)), .val (.int (1 : Int32)), .val .null, .val (.ref b)] [(.int (0 : Int32)), (.ref a)])) rfl rfl (hb hby d_s41_48)
  refine OGo.by_ st5 ?_
  show OGo p e below _ (T5.setTop (mkF m 51 #[.val (.ref a), .val (.ref c8), .val (.int (0 : Int32)), .val (.int (1 : Int32)), .val .null, .val (.ref b)] []))
  have N5 := Fr.snoc X5 N4 ga
  have G0' := G0.other W5 (Or.inr (slot_ne (C := "java/lang/String") (Or.inr (hw _ (List.mem_of_getElem? (i := 23) rfl))) (Or.inr (hw _ (List.mem_of_getElem? (i := 24) rfl))) (by decide) (t := (.array .byte)) (t' := .byte) (by decide) (by decide)))
  refine OGo.by_ (fun t k => XS.aloadN X5.here hx rfl (hb hby d_s41_51) rfl rfl k) ?_
  show OGo p e below _ (T5.setTop (mkF m 52 #[.val (.ref a), .val (.ref c8), .val (.int (0 : Int32)), .val (.int (1 : Int32)), .val .null, .val (.ref b)] [(.ref a)]))
  refine OGo.by_ (fun t k => XS.aload X5.here hx rfl (hb hby d_s41_52) rfl rfl k) ?_
  show OGo p e below _ (T5.setTop (mkF m 54 #[.val (.ref a), .val (.ref c8), .val (.int (0 : Int32)), .val (.int (1 : Int32)), .val .null, .val (.ref b)] [(.ref b), (.ref a)]))
  obtain ⟨T6, h6, X6, e6, W6, st6⟩ := putF X5 hx hZ hown (host := "") (Or.inl (hw _ (List.mem_of_getElem? (i := 27) rfl))) Via.refl e5 G0' (E1.wr W5) (Or.inr ⟨(hw _ (List.mem_of_getElem? (i := 23) rfl)), rfl, hnm⟩) (hw _ (List.mem_of_getElem? (i := 8) rfl)) (ty := (.array .byte)) (by decide) rfl rfl (g := (mkF m 54 #[.val (.ref a), .val (.ref c8), .val (.int (0 : Int32)), .val (.int (1 : Int32)), .val .null, .val (.ref b)] [(.ref b), (.ref a)])) rfl rfl (hb hby d_s41_54)
  refine OGo.by_ st6 ?_
  show OGo p e below _ (T6.setTop (mkF m 57 #[.val (.ref a), .val (.ref c8), .val (.int (0 : Int32)), .val (.int (1 : Int32)), .val .null, .val (.ref b)] []))
  have N6 := Fr.snoc X6 N5 ga
  have KK : Keep h0 h6 [a] := (((Keep.trans (Keep.refl h0 [a]) K3 all0)).wr W5 (Or.inl (List.mem_singleton.mpr rfl))).wr W6 (Or.inl (List.mem_singleton.mpr rfl))
  have Vf : Arv Z h6 b kb .byte (1 : Int32) ([x].map fun x => .int x.toInt8.toInt32) (.int (0 : Int32)) := (V3.other W5 hab.symm).other W6 hab.symm
  exact own_ret X6 hx hlk hret (hb hby d_s41_57) (by decide) (by decide) (by rw [e6]; exact ⟨rfl, N6, KK, b, (E1.wr W5).wr W6, (G1.same W5).other W6 (Or.inr (slot_ne (C := "java/lang/String") (Or.inr (hw _ (List.mem_of_getElem? (i := 24) rfl))) (Or.inr (hw _ (List.mem_of_getElem? (i := 23) rfl))) (by decide) (t := .byte) (t' := (.array .byte)) (by decide) (by decide))), G0'.same W6, ⟨kb, Vf⟩, Or.inr (Or.inl ⟨rfl, _, rfl⟩), (own_all1 c_x)⟩)
theorem d_sc1_0 : decode jdk_42_method_3_code 0 = .ok (.aload_n 0, 1) := by decide +kernel
theorem d_sc1_1 : decode jdk_42_method_3_code 1 = .ok (.aload_n 1, 1) := by decide +kernel
theorem d_sc1_2 : decode jdk_42_method_3_code 2 = .ok (.iconst 0, 1) := by decide +kernel
theorem d_sc1_3 : decode jdk_42_method_3_code 3 = .ok (.aload_n 1, 1) := by decide +kernel
theorem d_sc1_4 : decode jdk_42_method_3_code 4 = .ok (.arraylength, 1) := by decide +kernel
theorem d_sc1_5 : decode jdk_42_method_3_code 5 = .ok (.aconst_null, 1) := by decide +kernel
theorem d_sc1_6 : decode jdk_42_method_3_code 6 = .ok (.invokespecial 27, 3) := by decide +kernel
theorem pd_oACIILjava_lang_Void_cV : parseMethodDescriptor "([CIILjava/lang/Void;)V" = some ⟨[(.array .char), .int, .int, (.object "java/lang/Void")], none⟩ := by decide +kernel
theorem d_sc1_9 : decode jdk_42_method_3_code 9 = .ok (.return_, 1) := by decide +kernel
theorem ef_sc1 (m : MethodId) (x0 : Addr) (x1 : Addr) : entryFrame m #[(.ref x0), (.ref x1)] 2 = mkF m 0 #[.val (.ref x0), .val (.ref x1)] [] := by first | (simp [entryFrame, mkF, argsToLocals, Value.category]; done) | rfl
def Q_sc1 (Z : State) (a c8 : Addr) (kc : ClassId) (cs : Int32) (x : Int32) (h0 : Heap) (n0 : Nat) (v : Option Value) (h : Heap) (L : List Loc) : Prop := v = none ∧ Fr n0 L ∧ Keep h0 h [a] ∧ ∃ b, own_S Z h a b (1 : Int32) [x]
set_option maxRecDepth 65536 in
set_option maxHeartbeats 40000000 in
theorem rm_sc1 (l : Launch) (Z : State) (a0 : Array Value) (hw : ∀ d ∈ tables_1, d.before a0 Z = true) (ws : List Jvm.Cond) (a c8 : Addr) (kc : ClassId) (cs : Int32) (x : Int32) (h0 : Heap) (n0 : Nat) (Z0 : n0 ≤ h0.size) (E0 : Exa Z h0 a "java/lang/String") (F0 : Fld Z h0 a "java/lang/String" "value" "[B" .null) (F1 : Fld Z h0 a "java/lang/String" "coder" "B" (.int (0 : Int32))) (ga : n0 ≤ a) (SC : Sta Z h0 "java/lang/String" "COMPACT_STRINGS" "Z" (.int cs)) (hcs : ¬ cs = (0 : Int32)) (Vc : Arv Z h0 c8 kc .char (1 : Int32) [(.int x)] (.int (0 : Int32))) (c_x : own_ch x) :
    MetFree l (⟨"java/lang/String", "<init>", "([C)V"⟩ : MethodName) (head1 (Jvm.Cond.code (⟨"java/lang/String", "<init>", "([C)V"⟩ : MethodName) jdk_42_method_3_code 2 none :: ws) ({ frames := 3, cells := 1, slots := 3, locals := 52 } : Room)) (fun a_ U => a_ = #[(.ref a), (.ref c8)] ∧ Z.Warmed39 U.vm ∧ U.heap = h0) (fun _ _ _ _ _ => True) (fun _ U o U' => ∃ v L, o = .returned v ∧ Q_sc1 Z a c8 kc cs x h0 n0 v U'.heap L ∧ FrameEnd U o U' L ({ frames := 3, cells := 1, slots := 3, locals := 52 } : Room).cells ({ frames := 3, cells := 1, slots := 3, locals := 52 } : Room).slots) := by
  refine MetFree.of_bodySF (plainFor_of_name pn_java_lang_String) hisR ?_
  intro p e s m args below meth c s₁ Bd hml0 hP hK
  obtain ⟨rfl, hZ, hh⟩ := hP
  have hx := Bd.exec
  have hby := Bd.bytes
  have hml : c.maxLocals = 2 := hml0
  have hown : s.vm.findClass "java/lang/String" = some m.cls := findClass_of_methodNamed Bd.named
  have hnm := (name_of_methodNamed Bd.named Bd.method).1
  have X0 : Stand p l e ({ frames := 3, cells := 1, slots := 3, locals := 52 } : Room) s m #[(.ref a), (.ref c8)] below meth c s₁ [] 0 0 := Stand.of_body Bd
  have e0 : s₁.heap = h0 := by rw [← hh, Bd.state]; rfl
  have N0 := Fr.nil n0
  have hlk := Bd.notSynchronized
  have hret := Bd.returns
  show OGo p e below (OEnd s (Q_sc1 Z a c8 kc cs x h0 n0) ({ frames := 3, cells := 1, slots := 3, locals := 52 } : Room).cells ({ frames := 3, cells := 1, slots := 3, locals := 52 } : Room).slots) (s₁.setTop (entryFrame m #[(.ref a), (.ref c8)] 2))
  rw [ef_sc1]
  show OGo p e below _ (s₁.setTop (mkF m 0 #[.val (.ref a), .val (.ref c8)] []))
  refine OGo.by_ (fun t k => XS.aloadN X0.here hx rfl (hb hby d_sc1_0) rfl rfl k) ?_
  show OGo p e below _ (s₁.setTop (mkF m 1 #[.val (.ref a), .val (.ref c8)] [(.ref a)]))
  refine OGo.by_ (fun t k => XS.aloadN X0.here hx rfl (hb hby d_sc1_1) rfl rfl k) ?_
  show OGo p e below _ (s₁.setTop (mkF m 2 #[.val (.ref a), .val (.ref c8)] [(.ref c8), (.ref a)]))
  refine OGo.by_ (fun t k => XS.iconst X0.here hx rfl (hb hby d_sc1_2) k) ?_
  show OGo p e below _ (s₁.setTop (mkF m 3 #[.val (.ref a), .val (.ref c8)] [(.int (0 : Int32)), (.ref c8), (.ref a)]))
  refine OGo.by_ (fun t k => XS.aloadN X0.here hx rfl (hb hby d_sc1_3) rfl rfl k) ?_
  show OGo p e below _ (s₁.setTop (mkF m 4 #[.val (.ref a), .val (.ref c8)] [(.ref c8), (.int (0 : Int32)), (.ref c8), (.ref a)]))
  obtain ⟨cl1, Ar1, q1, S1, Nn1, H1, G1⟩ := id Vc
  refine OGo.by_ (X0.arraylength hx (by rw [e0]; exact Ar1.1) (State.isArrayOf_alike hZ.alike Ar1.2.1) (g := (mkF m 4 #[.val (.ref a), .val (.ref c8)] [(.ref c8), (.int (0 : Int32)), (.ref c8), (.ref a)])) rfl rfl (hb hby d_sc1_4)) ?_
  rw [len_of S1 Nn1]
  show OGo p e below _ (s₁.setTop (mkF m 5 #[.val (.ref a), .val (.ref c8)] [(.int (1 : Int32)), (.int (0 : Int32)), (.ref c8), (.ref a)]))
  refine OGo.by_ (fun t k => XS.aconstNull X0.here hx rfl (hb hby d_sc1_5) k) ?_
  show OGo p e below _ (s₁.setTop (mkF m 6 #[.val (.ref a), .val (.ref c8)] [.null, (.int (1 : Int32)), (.int (0 : Int32)), (.ref c8), (.ref a)]))
  obtain ⟨_, _, ⟨T2, L2, k2, n2⟩, -, X2, ⟨Lc2, hQ2, l2, y2, z2⟩, st2⟩ := X0.specialBack hx (y := (⟨"java/lang/String", "<init>", "([CIILjava/lang/Void;)V"⟩ : MethodName)) rfl hown (mvT hZ (hw _ (List.mem_of_getElem? (i := 14) rfl))) (mvT hZ (hw _ (List.mem_of_getElem? (i := 15) rfl))) (mvT hZ (hw _ (List.mem_of_getElem? (i := 17) rfl))) (by decide) (backOf (W := 0) (rm_s41 l Z a0 hw [] a c8 kc cs x h0 n0 Z0 E0 F0 F1 ga SC hcs Vc c_x) hZ (hw _ (List.mem_of_getElem? (i := 17) rfl)) (hw _ (List.mem_of_getElem? (i := 9) rfl)) (by decide) (by decide)) (g := (mkF m 6 #[.val (.ref a), .val (.ref c8)] [.null, (.int (1 : Int32)), (.int (0 : Int32)), (.ref c8), (.ref a)])) rfl (by rw [hml]; rfl) (Steps.refl _) (a := a) (argsL := [(.ref c8), (.int (0 : Int32)), (.int (1 : Int32)), .null]) (rest := []) (lenOf pd_oACIILjava_lang_Void_cV rfl) rfl (by show 2 * 0 + _ ≤ _; exact Nat.le_of_eq rfl) (hb hby d_sc1_6) (fun _ _ => ⟨rfl, e0, (by decide : 0 + 1 ≤ _), (by decide : 0 + 3 ≤ _)⟩)
  dsimp only [Pt.U, Pt.locs, Pt.cells, Pt.slots] at X2 l2 y2 z2 st2 hQ2
  subst l2 y2 z2
  obtain ⟨rfl, Nq2, K2, b, S2⟩ := hQ2
  have N2 := Fr.app N0 Nq2
  refine OGo.by_ (fun t k => st2.trans k) ?_
  show OGo p e below _ (T2.setTop (mkF m 9 #[.val (.ref a), .val (.ref c8)] []))
  exact own_ret X2 hx hlk hret (hb hby d_sc1_9) (by decide) (by decide) (⟨rfl, N2, K2, b, S2⟩)
theorem d_s42_0 : decode jdk_42_method_149_code 0 = .ok (.aload_n 0, 1) := by decide +kernel
theorem d_s42_1 : decode jdk_42_method_149_code 1 = .ok (.invokespecial 1, 3) := by decide +kernel
theorem d_s42_4 : decode jdk_42_method_149_code 4 = .ok (.iload_n 3, 1) := by decide +kernel
theorem d_s42_5 : decode jdk_42_method_149_code 5 = .ok (.ifCond .ne 22, 3) := by decide +kernel
theorem d_s42_27 : decode jdk_42_method_149_code 27 = .ok (.getstatic 38, 3) := by decide +kernel
theorem d_s42_30 : decode jdk_42_method_149_code 30 = .ok (.ifCond .eq 28, 3) := by decide +kernel
theorem d_s42_33 : decode jdk_42_method_149_code 33 = .ok (.aload_n 1, 1) := by decide +kernel
theorem d_s42_34 : decode jdk_42_method_149_code 34 = .ok (.iload_n 2, 1) := by decide +kernel
theorem d_s42_35 : decode jdk_42_method_149_code 35 = .ok (.iload_n 3, 1) := by decide +kernel
theorem d_s42_36 : decode jdk_42_method_149_code 36 = .ok (.invokestatic 177, 3) := by decide +kernel
theorem d_s42_39 : decode jdk_42_method_149_code 39 = .ok (.astore 5, 2) := by decide +kernel
theorem d_s42_41 : decode jdk_42_method_149_code 41 = .ok (.aload_n 0, 1) := by decide +kernel
theorem d_s42_42 : decode jdk_42_method_149_code 42 = .ok (.aload 5, 2) := by decide +kernel
theorem d_s42_44 : decode jdk_42_method_149_code 44 = .ok (.iload_n 3, 1) := by decide +kernel
theorem d_s42_45 : decode jdk_42_method_149_code 45 = .ok (.invokestatic 47, 3) := by decide +kernel
theorem d_s42_48 : decode jdk_42_method_149_code 48 = .ok (.putfield 15, 3) := by decide +kernel
theorem d_s42_51 : decode jdk_42_method_149_code 51 = .ok (.aload_n 0, 1) := by decide +kernel
theorem d_s42_52 : decode jdk_42_method_149_code 52 = .ok (.aload 5, 2) := by decide +kernel
theorem d_s42_54 : decode jdk_42_method_149_code 54 = .ok (.putfield 9, 3) := by decide +kernel
theorem d_s42_57 : decode jdk_42_method_149_code 57 = .ok (.return_, 1) := by decide +kernel
theorem ef_s42 (m : MethodId) (x0 : Addr) (x1 : Addr) (x2 : Int32) (x3 : Int32) : entryFrame m #[(.ref x0), (.ref x1), (.int x2), (.int x3), .null] 6 = mkF m 0 #[.val (.ref x0), .val (.ref x1), .val (.int x2), .val (.int x3), .val .null, .unset] [] := by first | (simp [entryFrame, mkF, argsToLocals, Value.category]; done) | rfl
def Q_s42 (Z : State) (a c8 : Addr) (kc : ClassId) (cs : Int32) (x y : Int32) (h0 : Heap) (n0 : Nat) (v : Option Value) (h : Heap) (L : List Loc) : Prop := v = none ∧ Fr n0 L ∧ Keep h0 h [a] ∧ ∃ b, own_S Z h a b (2 : Int32) [x, y]
set_option maxRecDepth 65536 in
set_option maxHeartbeats 40000000 in
theorem rm_s42 (l : Launch) (Z : State) (a0 : Array Value) (hw : ∀ d ∈ tables_1, d.before a0 Z = true) (ws : List Jvm.Cond) (a c8 : Addr) (kc : ClassId) (cs : Int32) (x y : Int32) (h0 : Heap) (n0 : Nat) (Z0 : n0 ≤ h0.size) (E0 : Exa Z h0 a "java/lang/String") (F0 : Fld Z h0 a "java/lang/String" "value" "[B" .null) (F1 : Fld Z h0 a "java/lang/String" "coder" "B" (.int (0 : Int32))) (ga : n0 ≤ a) (SC : Sta Z h0 "java/lang/String" "COMPACT_STRINGS" "Z" (.int cs)) (hcs : ¬ cs = (0 : Int32)) (Vc : Arv Z h0 c8 kc .char (2 : Int32) [(.int x), (.int y)] (.int (0 : Int32))) (c_x : own_ch x) (c_y : own_ch y) :
    MetFree l (⟨"java/lang/String", "<init>", "([CIILjava/lang/Void;)V"⟩ : MethodName) (head1 (Jvm.Cond.code (⟨"java/lang/String", "<init>", "([CIILjava/lang/Void;)V"⟩ : MethodName) jdk_42_method_149_code 6 none :: ws) ({ frames := 2, cells := 1, slots := 3, locals := 35 } : Room)) (fun a_ U => a_ = #[(.ref a), (.ref c8), (.int (0 : Int32)), (.int (2 : Int32)), .null] ∧ Z.Warmed39 U.vm ∧ U.heap = h0) (fun _ _ _ _ _ => True) (fun _ U o U' => ∃ v L, o = .returned v ∧ Q_s42 Z a c8 kc cs x y h0 n0 v U'.heap L ∧ FrameEnd U o U' L ({ frames := 2, cells := 1, slots := 3, locals := 35 } : Room).cells ({ frames := 2, cells := 1, slots := 3, locals := 35 } : Room).slots) := by
  refine MetFree.of_bodySF (plainFor_of_name pn_java_lang_String) hisR ?_
  intro p e s m args below meth c s₁ Bd hml0 hP hK
  obtain ⟨rfl, hZ, hh⟩ := hP
  have hx := Bd.exec
  have hby := Bd.bytes
  have hml : c.maxLocals = 6 := hml0
  have hown : s.vm.findClass "java/lang/String" = some m.cls := findClass_of_methodNamed Bd.named
  have hnm := (name_of_methodNamed Bd.named Bd.method).1
  have X0 : Stand p l e ({ frames := 2, cells := 1, slots := 3, locals := 35 } : Room) s m #[(.ref a), (.ref c8), (.int (0 : Int32)), (.int (2 : Int32)), .null] below meth c s₁ [] 0 0 := Stand.of_body Bd
  have e0 : s₁.heap = h0 := by rw [← hh, Bd.state]; rfl
  have N0 := Fr.nil n0
  have hlk := Bd.notSynchronized
  have hret := Bd.returns
  show OGo p e below (OEnd s (Q_s42 Z a c8 kc cs x y h0 n0) ({ frames := 2, cells := 1, slots := 3, locals := 35 } : Room).cells ({ frames := 2, cells := 1, slots := 3, locals := 35 } : Room).slots) (s₁.setTop (entryFrame m #[(.ref a), (.ref c8), (.int (0 : Int32)), (.int (2 : Int32)), .null] 6))
  rw [ef_s42]
  show OGo p e below _ (s₁.setTop (mkF m 0 #[.val (.ref a), .val (.ref c8), .val (.int (0 : Int32)), .val (.int (2 : Int32)), .val .null, .unset] []))
  refine OGo.by_ (fun t k => XS.aloadN X0.here hx rfl (hb hby d_s42_0) rfl rfl k) ?_
  show OGo p e below _ (s₁.setTop (mkF m 1 #[.val (.ref a), .val (.ref c8), .val (.int (0 : Int32)), .val (.int (2 : Int32)), .val .null, .unset] [(.ref a)]))
  obtain ⟨T1, X1, e1, st1⟩ := initO X0 hx hZ hown (hw _ (List.mem_of_getElem? (i := 18) rfl)) (hw _ (List.mem_of_getElem? (i := 19) rfl)) (hw _ (List.mem_of_getElem? (i := 20) rfl)) e0 (g := (mkF m 1 #[.val (.ref a), .val (.ref c8), .val (.int (0 : Int32)), .val (.int (2 : Int32)), .val .null, .unset] [(.ref a)])) rfl (by rw [hml]; rfl) rfl (hb hby d_s42_1) (by decide) (W := 0) (by show 2 * 0 + _ ≤ _; exact Nat.le_of_eq rfl) (by decide)
  refine OGo.by_ st1 ?_
  show OGo p e below _ (T1.setTop (mkF m 4 #[.val (.ref a), .val (.ref c8), .val (.int (0 : Int32)), .val (.int (2 : Int32)), .val .null, .unset] []))
  refine OGo.by_ (fun t k => XS.iloadN X1.here hx rfl (hb hby d_s42_4) rfl k) ?_
  show OGo p e below _ (T1.setTop (mkF m 5 #[.val (.ref a), .val (.ref c8), .val (.int (0 : Int32)), .val (.int (2 : Int32)), .val .null, .unset] [(.int (2 : Int32))]))
  refine OGo.by_ (fun t k => XS.ifYes X1.here hx rfl (pc0 := 5) (pc' := 27) rfl (hb hby d_s42_5) rfl ((if0 _ _).trans (feq (by decide)).2) (by decide) (by decide) k) ?_
  show OGo p e below _ (T1.setTop (mkF m 27 #[.val (.ref a), .val (.ref c8), .val (.int (0 : Int32)), .val (.int (2 : Int32)), .val .null, .unset] []))
  obtain ⟨T2, X2, e2, st2⟩ := getS X1 hx hZ hown (host := "") (hw _ (List.mem_of_getElem? (i := 29) rfl)) Via.refl e1 SC (g := (mkF m 27 #[.val (.ref a), .val (.ref c8), .val (.int (0 : Int32)), .val (.int (2 : Int32)), .val .null, .unset] [])) rfl (hb hby d_s42_27)
  refine OGo.by_ st2 ?_
  show OGo p e below _ (T2.setTop (mkF m 30 #[.val (.ref a), .val (.ref c8), .val (.int (0 : Int32)), .val (.int (2 : Int32)), .val .null, .unset] [(.int cs)]))
  refine OGo.by_ (fun t k => XS.ifNo X2.here hx rfl (hb hby d_s42_30) rfl ((if0 _ _).trans (feq hcs).1) k) ?_
  show OGo p e below _ (T2.setTop (mkF m 33 #[.val (.ref a), .val (.ref c8), .val (.int (0 : Int32)), .val (.int (2 : Int32)), .val .null, .unset] []))
  refine OGo.by_ (fun t k => XS.aloadN X2.here hx rfl (hb hby d_s42_33) rfl rfl k) ?_
  show OGo p e below _ (T2.setTop (mkF m 34 #[.val (.ref a), .val (.ref c8), .val (.int (0 : Int32)), .val (.int (2 : Int32)), .val .null, .unset] [(.ref c8)]))
  refine OGo.by_ (fun t k => XS.iloadN X2.here hx rfl (hb hby d_s42_34) rfl k) ?_
  show OGo p e below _ (T2.setTop (mkF m 35 #[.val (.ref a), .val (.ref c8), .val (.int (0 : Int32)), .val (.int (2 : Int32)), .val .null, .unset] [(.int (0 : Int32)), (.ref c8)]))
  refine OGo.by_ (fun t k => XS.iloadN X2.here hx rfl (hb hby d_s42_35) rfl k) ?_
  show OGo p e below _ (T2.setTop (mkF m 36 #[.val (.ref a), .val (.ref c8), .val (.int (0 : Int32)), .val (.int (2 : Int32)), .val .null, .unset] [(.int (2 : Int32)), (.int (0 : Int32)), (.ref c8)]))
  obtain ⟨_, _, ⟨T3, L3, k3, n3⟩, -, X3, ⟨Lc3, hQ3, l3, y3, z3⟩, st3⟩ := Jvm.LawKit.callS X2 hx (y := (⟨"java/lang/StringUTF16", "compress", "([CII)[B"⟩ : MethodName)) hown (mvT hZ (hw _ (List.mem_of_getElem? (i := 30) rfl))) (mvT hZ (hw _ (List.mem_of_getElem? (i := 31) rfl))) (mvT hZ (hw _ (List.mem_of_getElem? (i := 32) rfl))) (mvT hZ (hw _ (List.mem_of_getElem? (i := 33) rfl))) (by decide) (backOf (W := 0) (rm_cp2 l Z a0 hw [] c8 kc x y h0 n0 Z0 Vc c_x c_y) hZ (hw _ (List.mem_of_getElem? (i := 33) rfl)) (hw _ (List.mem_of_getElem? (i := 32) rfl)) (by decide) (by decide)) (g := (mkF m 36 #[.val (.ref a), .val (.ref c8), .val (.int (0 : Int32)), .val (.int (2 : Int32)), .val .null, .unset] [(.int (2 : Int32)), (.int (0 : Int32)), (.ref c8)])) rfl (by rw [hml]; rfl) (argsL := [(.ref c8), (.int (0 : Int32)), (.int (2 : Int32))]) (rest := []) (lenOf pd_oACIIcAB rfl) rfl (by show 2 * 0 + _ ≤ _; exact Nat.le_of_eq rfl) (hb hby d_s42_36) (fun _ _ => ⟨rfl, e2, (by decide : 0 + 1 ≤ _), (by decide : 0 + 3 ≤ _)⟩)
  dsimp only [Pt.U, Pt.locs, Pt.cells, Pt.slots] at X3 l3 y3 z3 st3 hQ3
  subst l3 y3 z3
  obtain ⟨rfl, Nq3, K3, kb, V3⟩ := hQ3
  have N3 := Fr.app N0 Nq3
  refine OGo.by_ st3 ?_
  show OGo p e below _ (T3.setTop (mkF m 39 #[.val (.ref a), .val (.ref c8), .val (.int (0 : Int32)), .val (.int (2 : Int32)), .val .null, .unset] [(.ref h0.size)]))
  obtain ⟨b, g_b⟩ : ∃ q, q = h0.size := ⟨_, rfl⟩
  rw [← g_b] at V3
  rw [← g_b]
  show OGo p e below _ (T3.setTop (mkF m 39 #[.val (.ref a), .val (.ref c8), .val (.int (0 : Int32)), .val (.int (2 : Int32)), .val .null, .unset] [(.ref b)]))
  have a_lt : h0.size > a := E0.lt
  have hab : a ≠ b := own_ne (by omega)
  have Z1 : n0 ≤ T3.heap.size := Nat.le_trans Z0 K3.1
  have E1 := E0.keep K3
  have G0 := F0.keep K3 nin0
  have G1 := F1.keep K3 nin0
  refine OGo.by_ (fun t k => XS.astore X3.here hx rfl (hb hby d_s42_39) rfl rfl (l' := #[.val (.ref a), .val (.ref c8), .val (.int (0 : Int32)), .val (.int (2 : Int32)), .val .null, .val (.ref b)]) rfl k) ?_
  show OGo p e below _ (T3.setTop (mkF m 41 #[.val (.ref a), .val (.ref c8), .val (.int (0 : Int32)), .val (.int (2 : Int32)), .val .null, .val (.ref b)] []))
  refine OGo.by_ (fun t k => XS.aloadN X3.here hx rfl (hb hby d_s42_41) rfl rfl k) ?_
  show OGo p e below _ (T3.setTop (mkF m 42 #[.val (.ref a), .val (.ref c8), .val (.int (0 : Int32)), .val (.int (2 : Int32)), .val .null, .val (.ref b)] [(.ref a)]))
  refine OGo.by_ (fun t k => XS.aload X3.here hx rfl (hb hby d_s42_42) rfl rfl k) ?_
  show OGo p e below _ (T3.setTop (mkF m 44 #[.val (.ref a), .val (.ref c8), .val (.int (0 : Int32)), .val (.int (2 : Int32)), .val .null, .val (.ref b)] [(.ref b), (.ref a)]))
  refine OGo.by_ (fun t k => XS.iloadN X3.here hx rfl (hb hby d_s42_44) rfl k) ?_
  show OGo p e below _ (T3.setTop (mkF m 45 #[.val (.ref a), .val (.ref c8), .val (.int (0 : Int32)), .val (.int (2 : Int32)), .val .null, .val (.ref b)] [(.int (2 : Int32)), (.ref b), (.ref a)]))
  obtain ⟨_, _, ⟨T4, L4, k4, n4⟩, -, X4, ⟨Lc4, hQ4, l4, y4, z4⟩, st4⟩ := Jvm.LawKit.callS X3 hx (y := (⟨"java/lang/StringUTF16", "coderFromArrayLen", "([BI)B"⟩ : MethodName)) hown (mvT hZ (hw _ (List.mem_of_getElem? (i := 37) rfl))) (mvT hZ (hw _ (List.mem_of_getElem? (i := 38) rfl))) (mvT hZ (hw _ (List.mem_of_getElem? (i := 32) rfl))) (mvT hZ (hw _ (List.mem_of_getElem? (i := 39) rfl))) (by decide) (backOf (W := 1) (rm_cf2 l Z a0 hw [] b kb _ T3.heap n0 Z1 V3) hZ (hw _ (List.mem_of_getElem? (i := 39) rfl)) (hw _ (List.mem_of_getElem? (i := 32) rfl)) (by decide) (by decide)) (g := (mkF m 45 #[.val (.ref a), .val (.ref c8), .val (.int (0 : Int32)), .val (.int (2 : Int32)), .val .null, .val (.ref b)] [(.int (2 : Int32)), (.ref b), (.ref a)])) rfl (by rw [hml]; rfl) (argsL := [(.ref b), (.int (2 : Int32))]) (rest := [(.ref a)]) (lenOf pd_oABIcB rfl) rfl (by show 2 * 0 + _ ≤ _; exact Nat.le_of_eq rfl) (hb hby d_s42_45) (fun _ _ => ⟨rfl, rfl, (by decide : 1 + 0 ≤ _), (by decide : 3 + 0 ≤ _)⟩)
  dsimp only [Pt.U, Pt.locs, Pt.cells, Pt.slots] at X4 l4 y4 z4 st4 hQ4
  subst l4 y4 z4
  obtain ⟨rfl, Nq4, eq4⟩ := hQ4
  have N4 := Fr.app N3 Nq4
  refine OGo.by_ st4 ?_
  show OGo p e below _ (T4.setTop (mkF m 48 #[.val (.ref a), .val (.ref c8), .val (.int (0 : Int32)), .val (.int (2 : Int32)), .val .null, .val (.ref b)] [(.int (0 : Int32)), (.ref a)]))
  obtain ⟨T5, h5, X5, e5, W5, st5⟩ := putFN X4 hx hZ hown (hw _ (List.mem_of_getElem? (i := 28) rfl)) Via.refl eq4 G1 E1 (Or.inr ⟨(hw _ (List.mem_of_getElem? (i := 24) rfl)), rfl, hnm⟩) (hw _ (List.mem_of_getElem? (i := 8) rfl)) (ty := .byte) (v' := (.int (0 : Int32))) (by decide) rfl (by decide) (g := (mkF m 48 #[.val (.ref a), .val (.ref c8), .val (.int (0 : Int32)), .val (.int (2 : Int32)), .val .null, .val (.ref b)] [(.int (0 : Int32)), (.ref a)])) rfl rfl (hb hby d_s42_48)
  refine OGo.by_ st5 ?_
  show OGo p e below _ (T5.setTop (mkF m 51 #[.val (.ref a), .val (.ref c8), .val (.int (0 : Int32)), .val (.int (2 : Int32)), .val .null, .val (.ref b)] []))
  have N5 := Fr.snoc X5 N4 ga
  have G0' := G0.other W5 (Or.inr (slot_ne (C := "java/lang/String") (Or.inr (hw _ (List.mem_of_getElem? (i := 23) rfl))) (Or.inr (hw _ (List.mem_of_getElem? (i := 24) rfl))) (by decide) (t := (.array .byte)) (t' := .byte) (by decide) (by decide)))
  refine OGo.by_ (fun t k => XS.aloadN X5.here hx rfl (hb hby d_s42_51) rfl rfl k) ?_
  show OGo p e below _ (T5.setTop (mkF m 52 #[.val (.ref a), .val (.ref c8), .val (.int (0 : Int32)), .val (.int (2 : Int32)), .val .null, .val (.ref b)] [(.ref a)]))
  refine OGo.by_ (fun t k => XS.aload X5.here hx rfl (hb hby d_s42_52) rfl rfl k) ?_
  show OGo p e below _ (T5.setTop (mkF m 54 #[.val (.ref a), .val (.ref c8), .val (.int (0 : Int32)), .val (.int (2 : Int32)), .val .null, .val (.ref b)] [(.ref b), (.ref a)]))
  obtain ⟨T6, h6, X6, e6, W6, st6⟩ := putF X5 hx hZ hown (host := "") (Or.inl (hw _ (List.mem_of_getElem? (i := 27) rfl))) Via.refl e5 G0' (E1.wr W5) (Or.inr ⟨(hw _ (List.mem_of_getElem? (i := 23) rfl)), rfl, hnm⟩) (hw _ (List.mem_of_getElem? (i := 8) rfl)) (ty := (.array .byte)) (by decide) rfl rfl (g := (mkF m 54 #[.val (.ref a), .val (.ref c8), .val (.int (0 : Int32)), .val (.int (2 : Int32)), .val .null, .val (.ref b)] [(.ref b), (.ref a)])) rfl rfl (hb hby d_s42_54)
  refine OGo.by_ st6 ?_
  show OGo p e below _ (T6.setTop (mkF m 57 #[.val (.ref a), .val (.ref c8), .val (.int (0 : Int32)), .val (.int (2 : Int32)), .val .null, .val (.ref b)] []))
  have N6 := Fr.snoc X6 N5 ga
  have KK : Keep h0 h6 [a] := (((Keep.trans (Keep.refl h0 [a]) K3 all0)).wr W5 (Or.inl (List.mem_singleton.mpr rfl))).wr W6 (Or.inl (List.mem_singleton.mpr rfl))
  have Vf : Arv Z h6 b kb .byte (2 : Int32) ([x, y].map fun x => .int x.toInt8.toInt32) (.int (0 : Int32)) := (V3.other W5 hab.symm).other W6 hab.symm
  exact own_ret X6 hx hlk hret (hb hby d_s42_57) (by decide) (by decide) (by rw [e6]; exact ⟨rfl, N6, KK, b, (E1.wr W5).wr W6, (G1.same W5).other W6 (Or.inr (slot_ne (C := "java/lang/String") (Or.inr (hw _ (List.mem_of_getElem? (i := 24) rfl))) (Or.inr (hw _ (List.mem_of_getElem? (i := 23) rfl))) (by decide) (t := .byte) (t' := (.array .byte)) (by decide) (by decide))), G0'.same W6, ⟨kb, Vf⟩, Or.inr (Or.inr (Or.inl ⟨rfl, _, _, rfl⟩)), (own_all2 c_x c_y)⟩)
theorem d_sc2_0 : decode jdk_42_method_3_code 0 = .ok (.aload_n 0, 1) := by decide +kernel
theorem d_sc2_1 : decode jdk_42_method_3_code 1 = .ok (.aload_n 1, 1) := by decide +kernel
theorem d_sc2_2 : decode jdk_42_method_3_code 2 = .ok (.iconst 0, 1) := by decide +kernel
theorem d_sc2_3 : decode jdk_42_method_3_code 3 = .ok (.aload_n 1, 1) := by decide +kernel
theorem d_sc2_4 : decode jdk_42_method_3_code 4 = .ok (.arraylength, 1) := by decide +kernel
theorem d_sc2_5 : decode jdk_42_method_3_code 5 = .ok (.aconst_null, 1) := by decide +kernel
theorem d_sc2_6 : decode jdk_42_method_3_code 6 = .ok (.invokespecial 27, 3) := by decide +kernel
theorem d_sc2_9 : decode jdk_42_method_3_code 9 = .ok (.return_, 1) := by decide +kernel
theorem ef_sc2 (m : MethodId) (x0 : Addr) (x1 : Addr) : entryFrame m #[(.ref x0), (.ref x1)] 2 = mkF m 0 #[.val (.ref x0), .val (.ref x1)] [] := by first | (simp [entryFrame, mkF, argsToLocals, Value.category]; done) | rfl
def Q_sc2 (Z : State) (a c8 : Addr) (kc : ClassId) (cs : Int32) (x y : Int32) (h0 : Heap) (n0 : Nat) (v : Option Value) (h : Heap) (L : List Loc) : Prop := v = none ∧ Fr n0 L ∧ Keep h0 h [a] ∧ ∃ b, own_S Z h a b (2 : Int32) [x, y]
set_option maxRecDepth 65536 in
set_option maxHeartbeats 40000000 in
theorem rm_sc2 (l : Launch) (Z : State) (a0 : Array Value) (hw : ∀ d ∈ tables_1, d.before a0 Z = true) (ws : List Jvm.Cond) (a c8 : Addr) (kc : ClassId) (cs : Int32) (x y : Int32) (h0 : Heap) (n0 : Nat) (Z0 : n0 ≤ h0.size) (E0 : Exa Z h0 a "java/lang/String") (F0 : Fld Z h0 a "java/lang/String" "value" "[B" .null) (F1 : Fld Z h0 a "java/lang/String" "coder" "B" (.int (0 : Int32))) (ga : n0 ≤ a) (SC : Sta Z h0 "java/lang/String" "COMPACT_STRINGS" "Z" (.int cs)) (hcs : ¬ cs = (0 : Int32)) (Vc : Arv Z h0 c8 kc .char (2 : Int32) [(.int x), (.int y)] (.int (0 : Int32))) (c_x : own_ch x) (c_y : own_ch y) :
    MetFree l (⟨"java/lang/String", "<init>", "([C)V"⟩ : MethodName) (head1 (Jvm.Cond.code (⟨"java/lang/String", "<init>", "([C)V"⟩ : MethodName) jdk_42_method_3_code 2 none :: ws) ({ frames := 3, cells := 1, slots := 3, locals := 52 } : Room)) (fun a_ U => a_ = #[(.ref a), (.ref c8)] ∧ Z.Warmed39 U.vm ∧ U.heap = h0) (fun _ _ _ _ _ => True) (fun _ U o U' => ∃ v L, o = .returned v ∧ Q_sc2 Z a c8 kc cs x y h0 n0 v U'.heap L ∧ FrameEnd U o U' L ({ frames := 3, cells := 1, slots := 3, locals := 52 } : Room).cells ({ frames := 3, cells := 1, slots := 3, locals := 52 } : Room).slots) := by
  refine MetFree.of_bodySF (plainFor_of_name pn_java_lang_String) hisR ?_
  intro p e s m args below meth c s₁ Bd hml0 hP hK
  obtain ⟨rfl, hZ, hh⟩ := hP
  have hx := Bd.exec
  have hby := Bd.bytes
  have hml : c.maxLocals = 2 := hml0
  have hown : s.vm.findClass "java/lang/String" = some m.cls := findClass_of_methodNamed Bd.named
  have hnm := (name_of_methodNamed Bd.named Bd.method).1
  have X0 : Stand p l e ({ frames := 3, cells := 1, slots := 3, locals := 52 } : Room) s m #[(.ref a), (.ref c8)] below meth c s₁ [] 0 0 := Stand.of_body Bd
  have e0 : s₁.heap = h0 := by rw [← hh, Bd.state]; rfl
  have N0 := Fr.nil n0
  have hlk := Bd.notSynchronized
  have hret := Bd.returns
  show OGo p e below (OEnd s (Q_sc2 Z a c8 kc cs x y h0 n0) ({ frames := 3, cells := 1, slots := 3, locals := 52 } : Room).cells ({ frames := 3, cells := 1, slots := 3, locals := 52 } : Room).slots) (s₁.setTop (entryFrame m #[(.ref a), (.ref c8)] 2))
  rw [ef_sc2]
  show OGo p e below _ (s₁.setTop (mkF m 0 #[.val (.ref a), .val (.ref c8)] []))
  refine OGo.by_ (fun t k => XS.aloadN X0.here hx rfl (hb hby d_sc2_0) rfl rfl k) ?_
  show OGo p e below _ (s₁.setTop (mkF m 1 #[.val (.ref a), .val (.ref c8)] [(.ref a)]))
  refine OGo.by_ (fun t k => XS.aloadN X0.here hx rfl (hb hby d_sc2_1) rfl rfl k) ?_
  show OGo p e below _ (s₁.setTop (mkF m 2 #[.val (.ref a), .val (.ref c8)] [(.ref c8), (.ref a)]))
  refine OGo.by_ (fun t k => XS.iconst X0.here hx rfl (hb hby d_sc2_2) k) ?_
  show OGo p e below _ (s₁.setTop (mkF m 3 #[.val (.ref a), .val (.ref c8)] [(.int (0 : Int32)), (.ref c8), (.ref a)]))
  refine OGo.by_ (fun t k => XS.aloadN X0.here hx rfl (hb hby d_sc2_3) rfl rfl k) ?_
  show OGo p e below _ (s₁.setTop (mkF m 4 #[.val (.ref a), .val (.ref c8)] [(.ref c8), (.int (0 : Int32)), (.ref c8), (.ref a)]))
  obtain ⟨cl1, Ar1, q1, S1, Nn1, H1, G1⟩ := id Vc
  refine OGo.by_ (X0.arraylength hx (by rw [e0]; exact Ar1.1) (State.isArrayOf_alike hZ.alike Ar1.2.1) (g := (mkF m 4 #[.val (.ref a), .val (.ref c8)] [(.ref c8), (.int (0 : Int32)), (.ref c8), (.ref a)])) rfl rfl (hb hby d_sc2_4)) ?_
  rw [len_of S1 Nn1]
  show OGo p e below _ (s₁.setTop (mkF m 5 #[.val (.ref a), .val (.ref c8)] [(.int (2 : Int32)), (.int (0 : Int32)), (.ref c8), (.ref a)]))
  refine OGo.by_ (fun t k => XS.aconstNull X0.here hx rfl (hb hby d_sc2_5) k) ?_
  show OGo p e below _ (s₁.setTop (mkF m 6 #[.val (.ref a), .val (.ref c8)] [.null, (.int (2 : Int32)), (.int (0 : Int32)), (.ref c8), (.ref a)]))
  obtain ⟨_, _, ⟨T2, L2, k2, n2⟩, -, X2, ⟨Lc2, hQ2, l2, y2, z2⟩, st2⟩ := X0.specialBack hx (y := (⟨"java/lang/String", "<init>", "([CIILjava/lang/Void;)V"⟩ : MethodName)) rfl hown (mvT hZ (hw _ (List.mem_of_getElem? (i := 14) rfl))) (mvT hZ (hw _ (List.mem_of_getElem? (i := 15) rfl))) (mvT hZ (hw _ (List.mem_of_getElem? (i := 17) rfl))) (by decide) (backOf (W := 0) (rm_s42 l Z a0 hw [] a c8 kc cs x y h0 n0 Z0 E0 F0 F1 ga SC hcs Vc c_x c_y) hZ (hw _ (List.mem_of_getElem? (i := 17) rfl)) (hw _ (List.mem_of_getElem? (i := 9) rfl)) (by decide) (by decide)) (g := (mkF m 6 #[.val (.ref a), .val (.ref c8)] [.null, (.int (2 : Int32)), (.int (0 : Int32)), (.ref c8), (.ref a)])) rfl (by rw [hml]; rfl) (Steps.refl _) (a := a) (argsL := [(.ref c8), (.int (0 : Int32)), (.int (2 : Int32)), .null]) (rest := []) (lenOf pd_oACIILjava_lang_Void_cV rfl) rfl (by show 2 * 0 + _ ≤ _; exact Nat.le_of_eq rfl) (hb hby d_sc2_6) (fun _ _ => ⟨rfl, e0, (by decide : 0 + 1 ≤ _), (by decide : 0 + 3 ≤ _)⟩)
  dsimp only [Pt.U, Pt.locs, Pt.cells, Pt.slots] at X2 l2 y2 z2 st2 hQ2
  subst l2 y2 z2
  obtain ⟨rfl, Nq2, K2, b, S2⟩ := hQ2
  have N2 := Fr.app N0 Nq2
  refine OGo.by_ (fun t k => st2.trans k) ?_
  show OGo p e below _ (T2.setTop (mkF m 9 #[.val (.ref a), .val (.ref c8)] []))
  exact own_ret X2 hx hlk hret (hb hby d_sc2_9) (by decide) (by decide) (⟨rfl, N2, K2, b, S2⟩)
theorem d_s43_0 : decode jdk_42_method_149_code 0 = .ok (.aload_n 0, 1) := by decide +kernel
theorem d_s43_1 : decode jdk_42_method_149_code 1 = .ok (.invokespecial 1, 3) := by decide +kernel
theorem d_s43_4 : decode jdk_42_method_149_code 4 = .ok (.iload_n 3, 1) := by decide +kernel
theorem d_s43_5 : decode jdk_42_method_149_code 5 = .ok (.ifCond .ne 22, 3) := by decide +kernel
theorem d_s43_27 : decode jdk_42_method_149_code 27 = .ok (.getstatic 38, 3) := by decide +kernel
theorem d_s43_30 : decode jdk_42_method_149_code 30 = .ok (.ifCond .eq 28, 3) := by decide +kernel
theorem d_s43_33 : decode jdk_42_method_149_code 33 = .ok (.aload_n 1, 1) := by decide +kernel
theorem d_s43_34 : decode jdk_42_method_149_code 34 = .ok (.iload_n 2, 1) := by decide +kernel
theorem d_s43_35 : decode jdk_42_method_149_code 35 = .ok (.iload_n 3, 1) := by decide +kernel
theorem d_s43_36 : decode jdk_42_method_149_code 36 = .ok (.invokestatic 177, 3) := by decide +kernel
theorem d_s43_39 : decode jdk_42_method_149_code 39 = .ok (.astore 5, 2) := by decide +kernel
theorem d_s43_41 : decode jdk_42_method_149_code 41 = .ok (.aload_n 0, 1) := by decide +kernel
theorem d_s43_42 : decode jdk_42_method_149_code 42 = .ok (.aload 5, 2) := by decide +kernel
theorem d_s43_44 : decode jdk_42_method_149_code 44 = .ok (.iload_n 3, 1) := by decide +kernel
theorem d_s43_45 : decode jdk_42_method_149_code 45 = .ok (.invokestatic 47, 3) := by decide +kernel
theorem d_s43_48 : decode jdk_42_method_149_code 48 = .ok (.putfield 15, 3) := by decide +kernel
theorem d_s43_51 : decode jdk_42_method_149_code 51 = .ok (.aload_n 0, 1) := by decide +kernel
theorem d_s43_52 : decode jdk_42_method_149_code 52 = .ok (.aload 5, 2) := by decide +kernel
theorem d_s43_54 : decode jdk_42_method_149_code 54 = .ok (.putfield 9, 3) := by decide +kernel
theorem d_s43_57 : decode jdk_42_method_149_code 57 = .ok (.return_, 1) := by decide +kernel
theorem ef_s43 (m : MethodId) (x0 : Addr) (x1 : Addr) (x2 : Int32) (x3 : Int32) : entryFrame m #[(.ref x0), (.ref x1), (.int x2), (.int x3), .null] 6 = mkF m 0 #[.val (.ref x0), .val (.ref x1), .val (.int x2), .val (.int x3), .val .null, .unset] [] := by first | (simp [entryFrame, mkF, argsToLocals, Value.category]; done) | rfl
def Q_s43 (Z : State) (a c8 : Addr) (kc : ClassId) (cs : Int32) (x y z : Int32) (h0 : Heap) (n0 : Nat) (v : Option Value) (h : Heap) (L : List Loc) : Prop := v = none ∧ Fr n0 L ∧ Keep h0 h [a] ∧ ∃ b, own_S Z h a b (3 : Int32) [x, y, z]
set_option maxRecDepth 65536 in
set_option maxHeartbeats 40000000 in
theorem rm_s43 (l : Launch) (Z : State) (a0 : Array Value) (hw : ∀ d ∈ tables_1, d.before a0 Z = true) (ws : List Jvm.Cond) (a c8 : Addr) (kc : ClassId) (cs : Int32) (x y z : Int32) (h0 : Heap) (n0 : Nat) (Z0 : n0 ≤ h0.size) (E0 : Exa Z h0 a "java/lang/String") (F0 : Fld Z h0 a "java/lang/String" "value" "[B" .null) (F1 : Fld Z h0 a "java/lang/String" "coder" "B" (.int (0 : Int32))) (ga : n0 ≤ a) (SC : Sta Z h0 "java/lang/String" "COMPACT_STRINGS" "Z" (.int cs)) (hcs : ¬ cs = (0 : Int32)) (Vc : Arv Z h0 c8 kc .char (3 : Int32) [(.int x), (.int y), (.int z)] (.int (0 : Int32))) (c_x : own_ch x) (c_y : own_ch y) (c_z : own_ch z) :
    MetFree l (⟨"java/lang/String", "<init>", "([CIILjava/lang/Void;)V"⟩ : MethodName) (head1 (Jvm.Cond.code (⟨"java/lang/String", "<init>", "([CIILjava/lang/Void;)V"⟩ : MethodName) jdk_42_method_149_code 6 none :: ws) ({ frames := 2, cells := 1, slots := 3, locals := 35 } : Room)) (fun a_ U => a_ = #[(.ref a), (.ref c8), (.int (0 : Int32)), (.int (3 : Int32)), .null] ∧ Z.Warmed39 U.vm ∧ U.heap = h0) (fun _ _ _ _ _ => True) (fun _ U o U' => ∃ v L, o = .returned v ∧ Q_s43 Z a c8 kc cs x y z h0 n0 v U'.heap L ∧ FrameEnd U o U' L ({ frames := 2, cells := 1, slots := 3, locals := 35 } : Room).cells ({ frames := 2, cells := 1, slots := 3, locals := 35 } : Room).slots) := by
  refine MetFree.of_bodySF (plainFor_of_name pn_java_lang_String) hisR ?_
  intro p e s m args below meth c s₁ Bd hml0 hP hK
  obtain ⟨rfl, hZ, hh⟩ := hP
  have hx := Bd.exec
  have hby := Bd.bytes
  have hml : c.maxLocals = 6 := hml0
  have hown : s.vm.findClass "java/lang/String" = some m.cls := findClass_of_methodNamed Bd.named
  have hnm := (name_of_methodNamed Bd.named Bd.method).1
  have X0 : Stand p l e ({ frames := 2, cells := 1, slots := 3, locals := 35 } : Room) s m #[(.ref a), (.ref c8), (.int (0 : Int32)), (.int (3 : Int32)), .null] below meth c s₁ [] 0 0 := Stand.of_body Bd
  have e0 : s₁.heap = h0 := by rw [← hh, Bd.state]; rfl
  have N0 := Fr.nil n0
  have hlk := Bd.notSynchronized
  have hret := Bd.returns
  show OGo p e below (OEnd s (Q_s43 Z a c8 kc cs x y z h0 n0) ({ frames := 2, cells := 1, slots := 3, locals := 35 } : Room).cells ({ frames := 2, cells := 1, slots := 3, locals := 35 } : Room).slots) (s₁.setTop (entryFrame m #[(.ref a), (.ref c8), (.int (0 : Int32)), (.int (3 : Int32)), .null] 6))
  rw [ef_s43]
  show OGo p e below _ (s₁.setTop (mkF m 0 #[.val (.ref a), .val (.ref c8), .val (.int (0 : Int32)), .val (.int (3 : Int32)), .val .null, .unset] []))
  refine OGo.by_ (fun t k => XS.aloadN X0.here hx rfl (hb hby d_s43_0) rfl rfl k) ?_
  show OGo p e below _ (s₁.setTop (mkF m 1 #[.val (.ref a), .val (.ref c8), .val (.int (0 : Int32)), .val (.int (3 : Int32)), .val .null, .unset] [(.ref a)]))
  obtain ⟨T1, X1, e1, st1⟩ := initO X0 hx hZ hown (hw _ (List.mem_of_getElem? (i := 18) rfl)) (hw _ (List.mem_of_getElem? (i := 19) rfl)) (hw _ (List.mem_of_getElem? (i := 20) rfl)) e0 (g := (mkF m 1 #[.val (.ref a), .val (.ref c8), .val (.int (0 : Int32)), .val (.int (3 : Int32)), .val .null, .unset] [(.ref a)])) rfl (by rw [hml]; rfl) rfl (hb hby d_s43_1) (by decide) (W := 0) (by show 2 * 0 + _ ≤ _; exact Nat.le_of_eq rfl) (by decide)
  refine OGo.by_ st1 ?_
  show OGo p e below _ (T1.setTop (mkF m 4 #[.val (.ref a), .val (.ref c8), .val (.int (0 : Int32)), .val (.int (3 : Int32)), .val .null, .unset] []))
  refine OGo.by_ (fun t k => XS.iloadN X1.here hx rfl (hb hby d_s43_4) rfl k) ?_
  show OGo p e below _ (T1.setTop (mkF m 5 #[.val (.ref a), .val (.ref c8), .val (.int (0 : Int32)), .val (.int (3 : Int32)), .val .null, .unset] [(.int (3 : Int32))]))
  refine OGo.by_ (fun t k => XS.ifYes X1.here hx rfl (pc0 := 5) (pc' := 27) rfl (hb hby d_s43_5) rfl ((if0 _ _).trans (feq (by decide)).2) (by decide) (by decide) k) ?_
  show OGo p e below _ (T1.setTop (mkF m 27 #[.val (.ref a), .val (.ref c8), .val (.int (0 : Int32)), .val (.int (3 : Int32)), .val .null, .unset] []))
  obtain ⟨T2, X2, e2, st2⟩ := getS X1 hx hZ hown (host := "") (hw _ (List.mem_of_getElem? (i := 29) rfl)) Via.refl e1 SC (g := (mkF m 27 #[.val (.ref a), .val (.ref c8), .val (.int (0 : Int32)), .val (.int (3 : Int32)), .val .null, .unset] [])) rfl (hb hby d_s43_27)
  refine OGo.by_ st2 ?_
  show OGo p e below _ (T2.setTop (mkF m 30 #[.val (.ref a), .val (.ref c8), .val (.int (0 : Int32)), .val (.int (3 : Int32)), .val .null, .unset] [(.int cs)]))
  refine OGo.by_ (fun t k => XS.ifNo X2.here hx rfl (hb hby d_s43_30) rfl ((if0 _ _).trans (feq hcs).1) k) ?_
  show OGo p e below _ (T2.setTop (mkF m 33 #[.val (.ref a), .val (.ref c8), .val (.int (0 : Int32)), .val (.int (3 : Int32)), .val .null, .unset] []))
  refine OGo.by_ (fun t k => XS.aloadN X2.here hx rfl (hb hby d_s43_33) rfl rfl k) ?_
  show OGo p e below _ (T2.setTop (mkF m 34 #[.val (.ref a), .val (.ref c8), .val (.int (0 : Int32)), .val (.int (3 : Int32)), .val .null, .unset] [(.ref c8)]))
  refine OGo.by_ (fun t k => XS.iloadN X2.here hx rfl (hb hby d_s43_34) rfl k) ?_
  show OGo p e below _ (T2.setTop (mkF m 35 #[.val (.ref a), .val (.ref c8), .val (.int (0 : Int32)), .val (.int (3 : Int32)), .val .null, .unset] [(.int (0 : Int32)), (.ref c8)]))
  refine OGo.by_ (fun t k => XS.iloadN X2.here hx rfl (hb hby d_s43_35) rfl k) ?_
  show OGo p e below _ (T2.setTop (mkF m 36 #[.val (.ref a), .val (.ref c8), .val (.int (0 : Int32)), .val (.int (3 : Int32)), .val .null, .unset] [(.int (3 : Int32)), (.int (0 : Int32)), (.ref c8)]))
  obtain ⟨_, _, ⟨T3, L3, k3, n3⟩, -, X3, ⟨Lc3, hQ3, l3, y3, z3⟩, st3⟩ := Jvm.LawKit.callS X2 hx (y := (⟨"java/lang/StringUTF16", "compress", "([CII)[B"⟩ : MethodName)) hown (mvT hZ (hw _ (List.mem_of_getElem? (i := 30) rfl))) (mvT hZ (hw _ (List.mem_of_getElem? (i := 31) rfl))) (mvT hZ (hw _ (List.mem_of_getElem? (i := 32) rfl))) (mvT hZ (hw _ (List.mem_of_getElem? (i := 33) rfl))) (by decide) (backOf (W := 0) (rm_cp3 l Z a0 hw [] c8 kc x y z h0 n0 Z0 Vc c_x c_y c_z) hZ (hw _ (List.mem_of_getElem? (i := 33) rfl)) (hw _ (List.mem_of_getElem? (i := 32) rfl)) (by decide) (by decide)) (g := (mkF m 36 #[.val (.ref a), .val (.ref c8), .val (.int (0 : Int32)), .val (.int (3 : Int32)), .val .null, .unset] [(.int (3 : Int32)), (.int (0 : Int32)), (.ref c8)])) rfl (by rw [hml]; rfl) (argsL := [(.ref c8), (.int (0 : Int32)), (.int (3 : Int32))]) (rest := []) (lenOf pd_oACIIcAB rfl) rfl (by show 2 * 0 + _ ≤ _; exact Nat.le_of_eq rfl) (hb hby d_s43_36) (fun _ _ => ⟨rfl, e2, (by decide : 0 + 1 ≤ _), (by decide : 0 + 3 ≤ _)⟩)
  dsimp only [Pt.U, Pt.locs, Pt.cells, Pt.slots] at X3 l3 y3 z3 st3 hQ3
  subst l3 y3 z3
  obtain ⟨rfl, Nq3, K3, kb, V3⟩ := hQ3
  have N3 := Fr.app N0 Nq3
  refine OGo.by_ st3 ?_
  show OGo p e below _ (T3.setTop (mkF m 39 #[.val (.ref a), .val (.ref c8), .val (.int (0 : Int32)), .val (.int (3 : Int32)), .val .null, .unset] [(.ref h0.size)]))
  obtain ⟨b, g_b⟩ : ∃ q, q = h0.size := ⟨_, rfl⟩
  rw [← g_b] at V3
  rw [← g_b]
  show OGo p e below _ (T3.setTop (mkF m 39 #[.val (.ref a), .val (.ref c8), .val (.int (0 : Int32)), .val (.int (3 : Int32)), .val .null, .unset] [(.ref b)]))
  have a_lt : h0.size > a := E0.lt
  have hab : a ≠ b := own_ne (by omega)
  have Z1 : n0 ≤ T3.heap.size := Nat.le_trans Z0 K3.1
  have E1 := E0.keep K3
  have G0 := F0.keep K3 nin0
  have G1 := F1.keep K3 nin0
  refine OGo.by_ (fun t k => XS.astore X3.here hx rfl (hb hby d_s43_39) rfl rfl (l' := #[.val (.ref a), .val (.ref c8), .val (.int (0 : Int32)), .val (.int (3 : Int32)), .val .null, .val (.ref b)]) rfl k) ?_
  show OGo p e below _ (T3.setTop (mkF m 41 #[.val (.ref a), .val (.ref c8), .val (.int (0 : Int32)), .val (.int (3 : Int32)), .val .null, .val (.ref b)] []))
  refine OGo.by_ (fun t k => XS.aloadN X3.here hx rfl (hb hby d_s43_41) rfl rfl k) ?_
  show OGo p e below _ (T3.setTop (mkF m 42 #[.val (.ref a), .val (.ref c8), .val (.int (0 : Int32)), .val (.int (3 : Int32)), .val .null, .val (.ref b)] [(.ref a)]))
  refine OGo.by_ (fun t k => XS.aload X3.here hx rfl (hb hby d_s43_42) rfl rfl k) ?_
  show OGo p e below _ (T3.setTop (mkF m 44 #[.val (.ref a), .val (.ref c8), .val (.int (0 : Int32)), .val (.int (3 : Int32)), .val .null, .val (.ref b)] [(.ref b), (.ref a)]))
  refine OGo.by_ (fun t k => XS.iloadN X3.here hx rfl (hb hby d_s43_44) rfl k) ?_
  show OGo p e below _ (T3.setTop (mkF m 45 #[.val (.ref a), .val (.ref c8), .val (.int (0 : Int32)), .val (.int (3 : Int32)), .val .null, .val (.ref b)] [(.int (3 : Int32)), (.ref b), (.ref a)]))
  obtain ⟨_, _, ⟨T4, L4, k4, n4⟩, -, X4, ⟨Lc4, hQ4, l4, y4, z4⟩, st4⟩ := Jvm.LawKit.callS X3 hx (y := (⟨"java/lang/StringUTF16", "coderFromArrayLen", "([BI)B"⟩ : MethodName)) hown (mvT hZ (hw _ (List.mem_of_getElem? (i := 37) rfl))) (mvT hZ (hw _ (List.mem_of_getElem? (i := 38) rfl))) (mvT hZ (hw _ (List.mem_of_getElem? (i := 32) rfl))) (mvT hZ (hw _ (List.mem_of_getElem? (i := 39) rfl))) (by decide) (backOf (W := 1) (rm_cf3 l Z a0 hw [] b kb _ T3.heap n0 Z1 V3) hZ (hw _ (List.mem_of_getElem? (i := 39) rfl)) (hw _ (List.mem_of_getElem? (i := 32) rfl)) (by decide) (by decide)) (g := (mkF m 45 #[.val (.ref a), .val (.ref c8), .val (.int (0 : Int32)), .val (.int (3 : Int32)), .val .null, .val (.ref b)] [(.int (3 : Int32)), (.ref b), (.ref a)])) rfl (by rw [hml]; rfl) (argsL := [(.ref b), (.int (3 : Int32))]) (rest := [(.ref a)]) (lenOf pd_oABIcB rfl) rfl (by show 2 * 0 + _ ≤ _; exact Nat.le_of_eq rfl) (hb hby d_s43_45) (fun _ _ => ⟨rfl, rfl, (by decide : 1 + 0 ≤ _), (by decide : 3 + 0 ≤ _)⟩)
  dsimp only [Pt.U, Pt.locs, Pt.cells, Pt.slots] at X4 l4 y4 z4 st4 hQ4
  subst l4 y4 z4
  obtain ⟨rfl, Nq4, eq4⟩ := hQ4
  have N4 := Fr.app N3 Nq4
  refine OGo.by_ st4 ?_
  show OGo p e below _ (T4.setTop (mkF m 48 #[.val (.ref a), .val (.ref c8), .val (.int (0 : Int32)), .val (.int (3 : Int32)), .val .null, .val (.ref b)] [(.int (0 : Int32)), (.ref a)]))
  obtain ⟨T5, h5, X5, e5, W5, st5⟩ := putFN X4 hx hZ hown (hw _ (List.mem_of_getElem? (i := 28) rfl)) Via.refl eq4 G1 E1 (Or.inr ⟨(hw _ (List.mem_of_getElem? (i := 24) rfl)), rfl, hnm⟩) (hw _ (List.mem_of_getElem? (i := 8) rfl)) (ty := .byte) (v' := (.int (0 : Int32))) (by decide) rfl (by decide) (g := (mkF m 48 #[.val (.ref a), .val (.ref c8), .val (.int (0 : Int32)), .val (.int (3 : Int32)), .val .null, .val (.ref b)] [(.int (0 : Int32)), (.ref a)])) rfl rfl (hb hby d_s43_48)
  refine OGo.by_ st5 ?_
  show OGo p e below _ (T5.setTop (mkF m 51 #[.val (.ref a), .val (.ref c8), .val (.int (0 : Int32)), .val (.int (3 : Int32)), .val .null, .val (.ref b)] []))
  have N5 := Fr.snoc X5 N4 ga
  have G0' := G0.other W5 (Or.inr (slot_ne (C := "java/lang/String") (Or.inr (hw _ (List.mem_of_getElem? (i := 23) rfl))) (Or.inr (hw _ (List.mem_of_getElem? (i := 24) rfl))) (by decide) (t := (.array .byte)) (t' := .byte) (by decide) (by decide)))
  refine OGo.by_ (fun t k => XS.aloadN X5.here hx rfl (hb hby d_s43_51) rfl rfl k) ?_
  show OGo p e below _ (T5.setTop (mkF m 52 #[.val (.ref a), .val (.ref c8), .val (.int (0 : Int32)), .val (.int (3 : Int32)), .val .null, .val (.ref b)] [(.ref a)]))
  refine OGo.by_ (fun t k => XS.aload X5.here hx rfl (hb hby d_s43_52) rfl rfl k) ?_
  show OGo p e below _ (T5.setTop (mkF m 54 #[.val (.ref a), .val (.ref c8), .val (.int (0 : Int32)), .val (.int (3 : Int32)), .val .null, .val (.ref b)] [(.ref b), (.ref a)]))
  obtain ⟨T6, h6, X6, e6, W6, st6⟩ := putF X5 hx hZ hown (host := "") (Or.inl (hw _ (List.mem_of_getElem? (i := 27) rfl))) Via.refl e5 G0' (E1.wr W5) (Or.inr ⟨(hw _ (List.mem_of_getElem? (i := 23) rfl)), rfl, hnm⟩) (hw _ (List.mem_of_getElem? (i := 8) rfl)) (ty := (.array .byte)) (by decide) rfl rfl (g := (mkF m 54 #[.val (.ref a), .val (.ref c8), .val (.int (0 : Int32)), .val (.int (3 : Int32)), .val .null, .val (.ref b)] [(.ref b), (.ref a)])) rfl rfl (hb hby d_s43_54)
  refine OGo.by_ st6 ?_
  show OGo p e below _ (T6.setTop (mkF m 57 #[.val (.ref a), .val (.ref c8), .val (.int (0 : Int32)), .val (.int (3 : Int32)), .val .null, .val (.ref b)] []))
  have N6 := Fr.snoc X6 N5 ga
  have KK : Keep h0 h6 [a] := (((Keep.trans (Keep.refl h0 [a]) K3 all0)).wr W5 (Or.inl (List.mem_singleton.mpr rfl))).wr W6 (Or.inl (List.mem_singleton.mpr rfl))
  have Vf : Arv Z h6 b kb .byte (3 : Int32) ([x, y, z].map fun x => .int x.toInt8.toInt32) (.int (0 : Int32)) := (V3.other W5 hab.symm).other W6 hab.symm
  exact own_ret X6 hx hlk hret (hb hby d_s43_57) (by decide) (by decide) (by rw [e6]; exact ⟨rfl, N6, KK, b, (E1.wr W5).wr W6, (G1.same W5).other W6 (Or.inr (slot_ne (C := "java/lang/String") (Or.inr (hw _ (List.mem_of_getElem? (i := 24) rfl))) (Or.inr (hw _ (List.mem_of_getElem? (i := 23) rfl))) (by decide) (t := .byte) (t' := (.array .byte)) (by decide) (by decide))), G0'.same W6, ⟨kb, Vf⟩, Or.inr (Or.inr (Or.inr ⟨rfl, _, _, _, rfl⟩)), (own_all3 c_x c_y c_z)⟩)
theorem d_sc3_0 : decode jdk_42_method_3_code 0 = .ok (.aload_n 0, 1) := by decide +kernel
theorem d_sc3_1 : decode jdk_42_method_3_code 1 = .ok (.aload_n 1, 1) := by decide +kernel
theorem d_sc3_2 : decode jdk_42_method_3_code 2 = .ok (.iconst 0, 1) := by decide +kernel
theorem d_sc3_3 : decode jdk_42_method_3_code 3 = .ok (.aload_n 1, 1) := by decide +kernel
theorem d_sc3_4 : decode jdk_42_method_3_code 4 = .ok (.arraylength, 1) := by decide +kernel
theorem d_sc3_5 : decode jdk_42_method_3_code 5 = .ok (.aconst_null, 1) := by decide +kernel
theorem d_sc3_6 : decode jdk_42_method_3_code 6 = .ok (.invokespecial 27, 3) := by decide +kernel
theorem d_sc3_9 : decode jdk_42_method_3_code 9 = .ok (.return_, 1) := by decide +kernel
theorem ef_sc3 (m : MethodId) (x0 : Addr) (x1 : Addr) : entryFrame m #[(.ref x0), (.ref x1)] 2 = mkF m 0 #[.val (.ref x0), .val (.ref x1)] [] := by first | (simp [entryFrame, mkF, argsToLocals, Value.category]; done) | rfl
def Q_sc3 (Z : State) (a c8 : Addr) (kc : ClassId) (cs : Int32) (x y z : Int32) (h0 : Heap) (n0 : Nat) (v : Option Value) (h : Heap) (L : List Loc) : Prop := v = none ∧ Fr n0 L ∧ Keep h0 h [a] ∧ ∃ b, own_S Z h a b (3 : Int32) [x, y, z]
set_option maxRecDepth 65536 in
set_option maxHeartbeats 40000000 in
theorem rm_sc3 (l : Launch) (Z : State) (a0 : Array Value) (hw : ∀ d ∈ tables_1, d.before a0 Z = true) (ws : List Jvm.Cond) (a c8 : Addr) (kc : ClassId) (cs : Int32) (x y z : Int32) (h0 : Heap) (n0 : Nat) (Z0 : n0 ≤ h0.size) (E0 : Exa Z h0 a "java/lang/String") (F0 : Fld Z h0 a "java/lang/String" "value" "[B" .null) (F1 : Fld Z h0 a "java/lang/String" "coder" "B" (.int (0 : Int32))) (ga : n0 ≤ a) (SC : Sta Z h0 "java/lang/String" "COMPACT_STRINGS" "Z" (.int cs)) (hcs : ¬ cs = (0 : Int32)) (Vc : Arv Z h0 c8 kc .char (3 : Int32) [(.int x), (.int y), (.int z)] (.int (0 : Int32))) (c_x : own_ch x) (c_y : own_ch y) (c_z : own_ch z) :
    MetFree l (⟨"java/lang/String", "<init>", "([C)V"⟩ : MethodName) (head1 (Jvm.Cond.code (⟨"java/lang/String", "<init>", "([C)V"⟩ : MethodName) jdk_42_method_3_code 2 none :: ws) ({ frames := 3, cells := 1, slots := 3, locals := 52 } : Room)) (fun a_ U => a_ = #[(.ref a), (.ref c8)] ∧ Z.Warmed39 U.vm ∧ U.heap = h0) (fun _ _ _ _ _ => True) (fun _ U o U' => ∃ v L, o = .returned v ∧ Q_sc3 Z a c8 kc cs x y z h0 n0 v U'.heap L ∧ FrameEnd U o U' L ({ frames := 3, cells := 1, slots := 3, locals := 52 } : Room).cells ({ frames := 3, cells := 1, slots := 3, locals := 52 } : Room).slots) := by
  refine MetFree.of_bodySF (plainFor_of_name pn_java_lang_String) hisR ?_
  intro p e s m args below meth c s₁ Bd hml0 hP hK
  obtain ⟨rfl, hZ, hh⟩ := hP
  have hx := Bd.exec
  have hby := Bd.bytes
  have hml : c.maxLocals = 2 := hml0
  have hown : s.vm.findClass "java/lang/String" = some m.cls := findClass_of_methodNamed Bd.named
  have hnm := (name_of_methodNamed Bd.named Bd.method).1
  have X0 : Stand p l e ({ frames := 3, cells := 1, slots := 3, locals := 52 } : Room) s m #[(.ref a), (.ref c8)] below meth c s₁ [] 0 0 := Stand.of_body Bd
  have e0 : s₁.heap = h0 := by rw [← hh, Bd.state]; rfl
  have N0 := Fr.nil n0
  have hlk := Bd.notSynchronized
  have hret := Bd.returns
  show OGo p e below (OEnd s (Q_sc3 Z a c8 kc cs x y z h0 n0) ({ frames := 3, cells := 1, slots := 3, locals := 52 } : Room).cells ({ frames := 3, cells := 1, slots := 3, locals := 52 } : Room).slots) (s₁.setTop (entryFrame m #[(.ref a), (.ref c8)] 2))
  rw [ef_sc3]
  show OGo p e below _ (s₁.setTop (mkF m 0 #[.val (.ref a), .val (.ref c8)] []))
  refine OGo.by_ (fun t k => XS.aloadN X0.here hx rfl (hb hby d_sc3_0) rfl rfl k) ?_
  show OGo p e below _ (s₁.setTop (mkF m 1 #[.val (.ref a), .val (.ref c8)] [(.ref a)]))
  refine OGo.by_ (fun t k => XS.aloadN X0.here hx rfl (hb hby d_sc3_1) rfl rfl k) ?_
  show OGo p e below _ (s₁.setTop (mkF m 2 #[.val (.ref a), .val (.ref c8)] [(.ref c8), (.ref a)]))
  refine OGo.by_ (fun t k => XS.iconst X0.here hx rfl (hb hby d_sc3_2) k) ?_
  show OGo p e below _ (s₁.setTop (mkF m 3 #[.val (.ref a), .val (.ref c8)] [(.int (0 : Int32)), (.ref c8), (.ref a)]))
  refine OGo.by_ (fun t k => XS.aloadN X0.here hx rfl (hb hby d_sc3_3) rfl rfl k) ?_
  show OGo p e below _ (s₁.setTop (mkF m 4 #[.val (.ref a), .val (.ref c8)] [(.ref c8), (.int (0 : Int32)), (.ref c8), (.ref a)]))
  obtain ⟨cl1, Ar1, q1, S1, Nn1, H1, G1⟩ := id Vc
  refine OGo.by_ (X0.arraylength hx (by rw [e0]; exact Ar1.1) (State.isArrayOf_alike hZ.alike Ar1.2.1) (g := (mkF m 4 #[.val (.ref a), .val (.ref c8)] [(.ref c8), (.int (0 : Int32)), (.ref c8), (.ref a)])) rfl rfl (hb hby d_sc3_4)) ?_
  rw [len_of S1 Nn1]
  show OGo p e below _ (s₁.setTop (mkF m 5 #[.val (.ref a), .val (.ref c8)] [(.int (3 : Int32)), (.int (0 : Int32)), (.ref c8), (.ref a)]))
  refine OGo.by_ (fun t k => XS.aconstNull X0.here hx rfl (hb hby d_sc3_5) k) ?_
  show OGo p e below _ (s₁.setTop (mkF m 6 #[.val (.ref a), .val (.ref c8)] [.null, (.int (3 : Int32)), (.int (0 : Int32)), (.ref c8), (.ref a)]))
  obtain ⟨_, _, ⟨T2, L2, k2, n2⟩, -, X2, ⟨Lc2, hQ2, l2, y2, z2⟩, st2⟩ := X0.specialBack hx (y := (⟨"java/lang/String", "<init>", "([CIILjava/lang/Void;)V"⟩ : MethodName)) rfl hown (mvT hZ (hw _ (List.mem_of_getElem? (i := 14) rfl))) (mvT hZ (hw _ (List.mem_of_getElem? (i := 15) rfl))) (mvT hZ (hw _ (List.mem_of_getElem? (i := 17) rfl))) (by decide) (backOf (W := 0) (rm_s43 l Z a0 hw [] a c8 kc cs x y z h0 n0 Z0 E0 F0 F1 ga SC hcs Vc c_x c_y c_z) hZ (hw _ (List.mem_of_getElem? (i := 17) rfl)) (hw _ (List.mem_of_getElem? (i := 9) rfl)) (by decide) (by decide)) (g := (mkF m 6 #[.val (.ref a), .val (.ref c8)] [.null, (.int (3 : Int32)), (.int (0 : Int32)), (.ref c8), (.ref a)])) rfl (by rw [hml]; rfl) (Steps.refl _) (a := a) (argsL := [(.ref c8), (.int (0 : Int32)), (.int (3 : Int32)), .null]) (rest := []) (lenOf pd_oACIILjava_lang_Void_cV rfl) rfl (by show 2 * 0 + _ ≤ _; exact Nat.le_of_eq rfl) (hb hby d_sc3_6) (fun _ _ => ⟨rfl, e0, (by decide : 0 + 1 ≤ _), (by decide : 0 + 3 ≤ _)⟩)
  dsimp only [Pt.U, Pt.locs, Pt.cells, Pt.slots] at X2 l2 y2 z2 st2 hQ2
  subst l2 y2 z2
  obtain ⟨rfl, Nq2, K2, b, S2⟩ := hQ2
  have N2 := Fr.app N0 Nq2
  refine OGo.by_ (fun t k => st2.trans k) ?_
  show OGo p e below _ (T2.setTop (mkF m 9 #[.val (.ref a), .val (.ref c8)] []))
  exact own_ret X2 hx hlk hret (hb hby d_sc3_9) (by decide) (by decide) (⟨rfl, N2, K2, b, S2⟩)
theorem d_s40_0 : decode jdk_42_method_149_code 0 = .ok (.aload_n 0, 1) := by decide +kernel
theorem d_s40_1 : decode jdk_42_method_149_code 1 = .ok (.invokespecial 1, 3) := by decide +kernel
theorem d_s40_4 : decode jdk_42_method_149_code 4 = .ok (.iload_n 3, 1) := by decide +kernel
theorem d_s40_5 : decode jdk_42_method_149_code 5 = .ok (.ifCond .ne 22, 3) := by decide +kernel
theorem d_s40_8 : decode jdk_42_method_149_code 8 = .ok (.aload_n 0, 1) := by decide +kernel
theorem d_s40_9 : decode jdk_42_method_149_code 9 = .ok (.ldc 7, 2) := by decide +kernel
theorem d_s40_11 : decode jdk_42_method_149_code 11 = .ok (.getfield 9, 3) := by decide +kernel
theorem d_s40_14 : decode jdk_42_method_149_code 14 = .ok (.putfield 9, 3) := by decide +kernel
theorem d_s40_17 : decode jdk_42_method_149_code 17 = .ok (.aload_n 0, 1) := by decide +kernel
theorem d_s40_18 : decode jdk_42_method_149_code 18 = .ok (.ldc 7, 2) := by decide +kernel
theorem d_s40_20 : decode jdk_42_method_149_code 20 = .ok (.getfield 15, 3) := by decide +kernel
theorem d_s40_23 : decode jdk_42_method_149_code 23 = .ok (.putfield 15, 3) := by decide +kernel
theorem d_s40_26 : decode jdk_42_method_149_code 26 = .ok (.return_, 1) := by decide +kernel
theorem ef_s40 (m : MethodId) (x0 : Addr) (x1 : Addr) (x2 : Int32) (x3 : Int32) : entryFrame m #[(.ref x0), (.ref x1), (.int x2), (.int x3), .null] 6 = mkF m 0 #[.val (.ref x0), .val (.ref x1), .val (.int x2), .val (.int x3), .val .null, .unset] [] := by first | (simp [entryFrame, mkF, argsToLocals, Value.category]; done) | rfl
def Q_s40 (Z : State) (a c8 : Addr) (kc : ClassId) (h0 : Heap) (n0 : Nat) (v : Option Value) (h : Heap) (L : List Loc) : Prop := v = none ∧ Fr n0 L ∧ Keep h0 h [a] ∧ ∃ b, own_S Z h a b (0 : Int32) []
set_option maxRecDepth 65536 in
set_option maxHeartbeats 40000000 in
theorem rm_s40 (l : Launch) (Z : State) (a0 : Array Value) (hw : ∀ d ∈ tables_1, d.before a0 Z = true) (ws : List Jvm.Cond) (a c8 : Addr) (kc : ClassId) (h0 : Heap) (n0 : Nat) (Z0 : n0 ≤ h0.size) (E0 : Exa Z h0 a "java/lang/String") (F0 : Fld Z h0 a "java/lang/String" "value" "[B" .null) (F1 : Fld Z h0 a "java/lang/String" "coder" "B" (.int (0 : Int32))) (ga : n0 ≤ a) :
    MetFree l (⟨"java/lang/String", "<init>", "([CIILjava/lang/Void;)V"⟩ : MethodName) (head1 (Jvm.Cond.code (⟨"java/lang/String", "<init>", "([CIILjava/lang/Void;)V"⟩ : MethodName) jdk_42_method_149_code 6 none :: ws) ({ frames := 1, cells := 4, slots := 8, locals := 12 } : Room)) (fun a_ U => a_ = #[(.ref a), (.ref c8), (.int (0 : Int32)), (.int (0 : Int32)), .null] ∧ Z.Warmed39 U.vm ∧ U.heap = h0 ∧ CHv Z own_EL U.vm h0) (fun _ _ _ _ _ => True) (fun _ U o U' => ∃ v L, o = .returned v ∧ Q_s40 Z a c8 kc h0 n0 v U'.heap L ∧ CHr Z own_EL U.vm U.heap U'.vm U'.heap ∧ ReturnedEndW U o U' L ({ frames := 1, cells := 4, slots := 8, locals := 12 } : Room).cells ({ frames := 1, cells := 4, slots := 8, locals := 12 } : Room).slots) := by
  refine MetFree.of_bodySF (plainFor_of_name pn_java_lang_String) hisR ?_
  intro p e s m args below meth c s₁ Bd hml0 hP hK
  obtain ⟨rfl, hZ, hh, HC⟩ := hP
  have hx := Bd.exec
  have hby := Bd.bytes
  have hml : c.maxLocals = 6 := hml0
  have hown : s.vm.findClass "java/lang/String" = some m.cls := findClass_of_methodNamed Bd.named
  have hnm := (name_of_methodNamed Bd.named Bd.method).1
  have X0 : Stand p l e ({ frames := 1, cells := 4, slots := 8, locals := 12 } : Room) s m #[(.ref a), (.ref c8), (.int (0 : Int32)), (.int (0 : Int32)), .null] below meth c s₁ [] 0 0 := Stand.of_body Bd
  have e0 : s₁.heap = h0 := by rw [← hh, Bd.state]; rfl
  have N0 := Fr.nil n0
  have hlk := Bd.notSynchronized
  have hret := Bd.returns
  show OGo p e below (OEndH Z own_EL s (Q_s40 Z a c8 kc h0 n0) ({ frames := 1, cells := 4, slots := 8, locals := 12 } : Room).cells ({ frames := 1, cells := 4, slots := 8, locals := 12 } : Room).slots) (s₁.setTop (entryFrame m #[(.ref a), (.ref c8), (.int (0 : Int32)), (.int (0 : Int32)), .null] 6))
  rw [ef_s40]
  show OGo p e below _ (s₁.setTop (mkF m 0 #[.val (.ref a), .val (.ref c8), .val (.int (0 : Int32)), .val (.int (0 : Int32)), .val .null, .unset] []))
  have X0 : Stand p l e ({ frames := 1, cells := 4, slots := 8, locals := 12 } : Room) (s.setVm s.vm) m #[(.ref a), (.ref c8), (.int (0 : Int32)), (.int (0 : Int32)), .null] below meth c s₁ [] 0 0 := X0
  have hZ : Z.Warmed39 (s.setVm s.vm).vm := hZ
  have hown : (s.setVm s.vm).vm.findClass "java/lang/String" = some m.cls := hown
  have hS : s.Since s.vm s.heap.size := (State.WarmedH.refl s).since _
  have hk : s.heap.size ≤ h0.size := by rw [hh]; exact Nat.le_refl _
  have HR := CHr.refl HC
  refine OGo.by_ (fun t k => XS.aloadN X0.here hx rfl (hb hby d_s40_0) rfl rfl k) ?_
  show OGo p e below _ (s₁.setTop (mkF m 1 #[.val (.ref a), .val (.ref c8), .val (.int (0 : Int32)), .val (.int (0 : Int32)), .val .null, .unset] [(.ref a)]))
  obtain ⟨T1, X1, e1, st1⟩ := initO X0 hx hZ hown (hw _ (List.mem_of_getElem? (i := 18) rfl)) (hw _ (List.mem_of_getElem? (i := 19) rfl)) (hw _ (List.mem_of_getElem? (i := 20) rfl)) e0 (g := (mkF m 1 #[.val (.ref a), .val (.ref c8), .val (.int (0 : Int32)), .val (.int (0 : Int32)), .val .null, .unset] [(.ref a)])) rfl (by rw [hml]; rfl) rfl (hb hby d_s40_1) (by decide) (W := 0) (by show 2 * 0 + _ ≤ _; exact Nat.le_of_eq rfl) (by decide)
  refine OGo.by_ st1 ?_
  show OGo p e below _ (T1.setTop (mkF m 4 #[.val (.ref a), .val (.ref c8), .val (.int (0 : Int32)), .val (.int (0 : Int32)), .val .null, .unset] []))
  refine OGo.by_ (fun t k => XS.iloadN X1.here hx rfl (hb hby d_s40_4) rfl k) ?_
  show OGo p e below _ (T1.setTop (mkF m 5 #[.val (.ref a), .val (.ref c8), .val (.int (0 : Int32)), .val (.int (0 : Int32)), .val .null, .unset] [(.int (0 : Int32))]))
  refine OGo.by_ (fun t k => XS.ifNo X1.here hx rfl (hb hby d_s40_5) rfl ((if0 _ _).trans (teq rfl).2) k) ?_
  show OGo p e below _ (T1.setTop (mkF m 8 #[.val (.ref a), .val (.ref c8), .val (.int (0 : Int32)), .val (.int (0 : Int32)), .val .null, .unset] []))
  refine OGo.by_ (fun t k => XS.aloadN X1.here hx rfl (hb hby d_s40_8) rfl rfl k) ?_
  show OGo p e below _ (T1.setTop (mkF m 9 #[.val (.ref a), .val (.ref c8), .val (.int (0 : Int32)), .val (.int (0 : Int32)), .val .null, .unset] [(.ref a)]))
  obtain ⟨la, T2, h2, kx2, lb, kb_lb, X2, e2, E2, hS, hk, hZ, hown, Ex_la, Fc_la, Fv_la, V_lb, la_la, lb_lb, HR2, hL2, hne2, st2⟩ := ldcCH X1 hx hZ hown (hw _ (List.mem_of_getElem? (i := 21) rfl)) (own_strA hw) e1 hS hk (own_ew hw) (List.mem_of_getElem? (i := 0) rfl) HR.1 (vs := []) (z := (0 : Int32)) ⟨by decide, rfl⟩ (by decide) (by decide) (g := (mkF m 9 #[.val (.ref a), .val (.ref c8), .val (.int (0 : Int32)), .val (.int (0 : Int32)), .val .null, .unset] [(.ref a)])) rfl (hb hby d_s40_9) (n := 0) (by decide) (by decide) (by decide) (by decide)
  have HR := HR.trans HR2
  refine OGo.by_ st2 ?_
  show OGo p e below _ (T2.setTop (mkF m 11 #[.val (.ref a), .val (.ref c8), .val (.int (0 : Int32)), .val (.int (0 : Int32)), .val .null, .unset] [(.ref la), (.ref a)]))
  have XE1 := E0.ext E2
  have G0 := F0.ext E2
  have G1 := F1.ext E2
  obtain ⟨T3, X3, e3, st3⟩ := getF X2 hx hZ hown (host := "") (Or.inl (hw _ (List.mem_of_getElem? (i := 27) rfl))) Via.refl e2 Fv_la (g := (mkF m 11 #[.val (.ref a), .val (.ref c8), .val (.int (0 : Int32)), .val (.int (0 : Int32)), .val .null, .unset] [(.ref la), (.ref a)])) rfl rfl (hb hby d_s40_11)
  refine OGo.by_ st3 ?_
  show OGo p e below _ (T3.setTop (mkF m 14 #[.val (.ref a), .val (.ref c8), .val (.int (0 : Int32)), .val (.int (0 : Int32)), .val .null, .unset] [(.ref lb), (.ref a)]))
  obtain ⟨T4, h4, X4, e4, W4, st4⟩ := putF X3 hx hZ hown (host := "") (Or.inl (hw _ (List.mem_of_getElem? (i := 27) rfl))) Via.refl e3 G0 XE1 (Or.inr ⟨(hw _ (List.mem_of_getElem? (i := 23) rfl)), rfl, hnm⟩) (hw _ (List.mem_of_getElem? (i := 8) rfl)) (ty := (.array .byte)) (by decide) rfl rfl (g := (mkF m 14 #[.val (.ref a), .val (.ref c8), .val (.int (0 : Int32)), .val (.int (0 : Int32)), .val .null, .unset] [(.ref lb), (.ref a)])) rfl rfl (hb hby d_s40_14)
  refine OGo.by_ st4 ?_
  show OGo p e below _ (T4.setTop (mkF m 17 #[.val (.ref a), .val (.ref c8), .val (.int (0 : Int32)), .val (.int (0 : Int32)), .val .null, .unset] []))
  have N4 := Fr.snoc X4 N0 ga
  have hk := Nat.le_trans hk (Nat.le_of_eq W4.size.symm)
  have HS4 := own_safe (EL := own_EL) hZ.alike XE1 G0
  have HP4 := HR.1
  have HR := HR.trans (CHr.wr W4 HS4 HR.1)
  have XE2 := XE1.wr W4
  have G1' := G1.other W4 (Or.inr (slot_ne (C := "java/lang/String") (Or.inr (hw _ (List.mem_of_getElem? (i := 24) rfl))) (Or.inr (hw _ (List.mem_of_getElem? (i := 23) rfl))) (by decide) (t := .byte) (t' := (.array .byte)) (by decide) (by decide)))
  have G0' := G0.same W4
  have Sf := Safe.wr W4 HS4 HP4 HS4
  have a_lt := XE2.lt
  have nb := (hne2 a (own_safe hZ.alike XE1 G0)).2
  have Vl := V_lb.other W4 nb.symm
  refine OGo.by_ (fun t k => XS.aloadN X4.here hx rfl (hb hby d_s40_17) rfl rfl k) ?_
  show OGo p e below _ (T4.setTop (mkF m 18 #[.val (.ref a), .val (.ref c8), .val (.int (0 : Int32)), .val (.int (0 : Int32)), .val .null, .unset] [(.ref a)]))
  obtain ⟨ma, T5, h5, kx5, mb, kb_mb, X5, e5, E5, hS, hk, hZ, hown, Ex_ma, Fc_ma, Fv_ma, V_mb, la_ma, lb_mb, HR5, hL5, hne5, st5⟩ := ldcCH X4 hx hZ hown (hw _ (List.mem_of_getElem? (i := 21) rfl)) (own_strA hw) e4 hS hk (own_ew hw) (List.mem_of_getElem? (i := 0) rfl) HR.1 (vs := []) (z := (0 : Int32)) ⟨by decide, rfl⟩ (by decide) (by decide) (g := (mkF m 18 #[.val (.ref a), .val (.ref c8), .val (.int (0 : Int32)), .val (.int (0 : Int32)), .val .null, .unset] [(.ref a)])) rfl (hb hby d_s40_18) (n := 0) (by decide) (by decide) (by decide) (by decide)
  have HR := HR.trans HR5
  refine OGo.by_ st5 ?_
  show OGo p e below _ (T5.setTop (mkF m 20 #[.val (.ref a), .val (.ref c8), .val (.int (0 : Int32)), .val (.int (0 : Int32)), .val .null, .unset] [(.ref ma), (.ref a)]))
  have Sf2 := CHr.safe HR5 a_lt Sf
  have XE3 := XE2.ext E5
  have G1b := G1'.ext E5
  have G0b := G0'.ext E5
  obtain ⟨T6, X6, e6, st6⟩ := getF X5 hx hZ hown (host := "") (Or.inl (hw _ (List.mem_of_getElem? (i := 28) rfl))) Via.refl e5 Fc_ma (g := (mkF m 20 #[.val (.ref a), .val (.ref c8), .val (.int (0 : Int32)), .val (.int (0 : Int32)), .val .null, .unset] [(.ref ma), (.ref a)])) rfl rfl (hb hby d_s40_20)
  refine OGo.by_ st6 ?_
  show OGo p e below _ (T6.setTop (mkF m 23 #[.val (.ref a), .val (.ref c8), .val (.int (0 : Int32)), .val (.int (0 : Int32)), .val .null, .unset] [(.int (0 : Int32)), (.ref a)]))
  obtain ⟨T7, h7, X7, e7, W7, st7⟩ := putFN X6 hx hZ hown (hw _ (List.mem_of_getElem? (i := 28) rfl)) Via.refl e6 G1b XE3 (Or.inr ⟨(hw _ (List.mem_of_getElem? (i := 24) rfl)), rfl, hnm⟩) (hw _ (List.mem_of_getElem? (i := 8) rfl)) (ty := .byte) (v' := (.int (0 : Int32))) (by decide) rfl (by decide) (g := (mkF m 23 #[.val (.ref a), .val (.ref c8), .val (.int (0 : Int32)), .val (.int (0 : Int32)), .val .null, .unset] [(.int (0 : Int32)), (.ref a)])) rfl rfl (hb hby d_s40_23)
  refine OGo.by_ st7 ?_
  show OGo p e below _ (T7.setTop (mkF m 26 #[.val (.ref a), .val (.ref c8), .val (.int (0 : Int32)), .val (.int (0 : Int32)), .val .null, .unset] []))
  have N7 := Fr.snoc X7 N4 ga
  have hk := Nat.le_trans hk (Nat.le_of_eq W7.size.symm)
  have HS7 := Sf2
  have HP7 := HR.1
  have HR := HR.trans (CHr.wr W7 HS7 HR.1)
  have KK : Keep h0 h7 [a] := ((((Keep.refl h0 [a]).ext E2).wr W4 (Or.inl (List.mem_singleton.mpr rfl))).ext E5).wr W7 (Or.inl (List.mem_singleton.mpr rfl))
  have Vf := (Vl.ext E5).other W7 nb.symm
  exact own_hret X7 hS (show _ ≤ T7.heap.size by rw [e7]; exact hk) (by rw [e7]; show CHr Z own_EL s.vm s.heap T7.vm _; rw [hh]; exact HR.trans (CHv.at X7 hZ (own_ew hw) HR.1)) hx hlk hret (hb hby d_s40_26) (by decide) (by decide) (by rw [e7]; exact ⟨rfl, N7, KK, lb, XE3.wr W7, G1b.same W7, G0b.other W7 (Or.inr (slot_ne (C := "java/lang/String") (Or.inr (hw _ (List.mem_of_getElem? (i := 23) rfl))) (Or.inr (hw _ (List.mem_of_getElem? (i := 24) rfl))) (by decide) (t := (.array .byte)) (t' := .byte) (by decide) (by decide))), ⟨_, Vf⟩, Or.inl ⟨rfl, rfl⟩, fun x hx => nomatch hx⟩)
theorem d_sc0_0 : decode jdk_42_method_3_code 0 = .ok (.aload_n 0, 1) := by decide +kernel
theorem d_sc0_1 : decode jdk_42_method_3_code 1 = .ok (.aload_n 1, 1) := by decide +kernel
theorem d_sc0_2 : decode jdk_42_method_3_code 2 = .ok (.iconst 0, 1) := by decide +kernel
theorem d_sc0_3 : decode jdk_42_method_3_code 3 = .ok (.aload_n 1, 1) := by decide +kernel
theorem d_sc0_4 : decode jdk_42_method_3_code 4 = .ok (.arraylength, 1) := by decide +kernel
theorem d_sc0_5 : decode jdk_42_method_3_code 5 = .ok (.aconst_null, 1) := by decide +kernel
theorem d_sc0_6 : decode jdk_42_method_3_code 6 = .ok (.invokespecial 27, 3) := by decide +kernel
theorem d_sc0_9 : decode jdk_42_method_3_code 9 = .ok (.return_, 1) := by decide +kernel
theorem ef_sc0 (m : MethodId) (x0 : Addr) (x1 : Addr) : entryFrame m #[(.ref x0), (.ref x1)] 2 = mkF m 0 #[.val (.ref x0), .val (.ref x1)] [] := by first | (simp [entryFrame, mkF, argsToLocals, Value.category]; done) | rfl
def Q_sc0 (Z : State) (a c8 : Addr) (kc : ClassId) (h0 : Heap) (n0 : Nat) (v : Option Value) (h : Heap) (L : List Loc) : Prop := v = none ∧ Fr n0 L ∧ Keep h0 h [a] ∧ ∃ b, own_S Z h a b (0 : Int32) []
set_option maxRecDepth 65536 in
set_option maxHeartbeats 40000000 in
theorem rm_sc0 (l : Launch) (Z : State) (a0 : Array Value) (hw : ∀ d ∈ tables_1, d.before a0 Z = true) (ws : List Jvm.Cond) (a c8 : Addr) (kc : ClassId) (h0 : Heap) (n0 : Nat) (Z0 : n0 ≤ h0.size) (E0 : Exa Z h0 a "java/lang/String") (F0 : Fld Z h0 a "java/lang/String" "value" "[B" .null) (F1 : Fld Z h0 a "java/lang/String" "coder" "B" (.int (0 : Int32))) (ga : n0 ≤ a) (Vc : Arv Z h0 c8 kc .char (0 : Int32) [] (.int (0 : Int32))) :
    MetFree l (⟨"java/lang/String", "<init>", "([C)V"⟩ : MethodName) (head1 (Jvm.Cond.code (⟨"java/lang/String", "<init>", "([C)V"⟩ : MethodName) jdk_42_method_3_code 2 none :: ws) ({ frames := 2, cells := 4, slots := 8, locals := 29 } : Room)) (fun a_ U => a_ = #[(.ref a), (.ref c8)] ∧ Z.Warmed39 U.vm ∧ U.heap = h0 ∧ CHv Z own_EL U.vm h0) (fun _ _ _ _ _ => True) (fun _ U o U' => ∃ v L, o = .returned v ∧ Q_sc0 Z a c8 kc h0 n0 v U'.heap L ∧ CHr Z own_EL U.vm U.heap U'.vm U'.heap ∧ ReturnedEndW U o U' L ({ frames := 2, cells := 4, slots := 8, locals := 29 } : Room).cells ({ frames := 2, cells := 4, slots := 8, locals := 29 } : Room).slots) := by
  refine MetFree.of_bodySF (plainFor_of_name pn_java_lang_String) hisR ?_
  intro p e s m args below meth c s₁ Bd hml0 hP hK
  obtain ⟨rfl, hZ, hh, HC⟩ := hP
  have hx := Bd.exec
  have hby := Bd.bytes
  have hml : c.maxLocals = 2 := hml0
  have hown : s.vm.findClass "java/lang/String" = some m.cls := findClass_of_methodNamed Bd.named
  have hnm := (name_of_methodNamed Bd.named Bd.method).1
  have X0 : Stand p l e ({ frames := 2, cells := 4, slots := 8, locals := 29 } : Room) s m #[(.ref a), (.ref c8)] below meth c s₁ [] 0 0 := Stand.of_body Bd
  have e0 : s₁.heap = h0 := by rw [← hh, Bd.state]; rfl
  have N0 := Fr.nil n0
  have hlk := Bd.notSynchronized
  have hret := Bd.returns
  show OGo p e below (OEndH Z own_EL s (Q_sc0 Z a c8 kc h0 n0) ({ frames := 2, cells := 4, slots := 8, locals := 29 } : Room).cells ({ frames := 2, cells := 4, slots := 8, locals := 29 } : Room).slots) (s₁.setTop (entryFrame m #[(.ref a), (.ref c8)] 2))
  rw [ef_sc0]
  show OGo p e below _ (s₁.setTop (mkF m 0 #[.val (.ref a), .val (.ref c8)] []))
  have X0 : Stand p l e ({ frames := 2, cells := 4, slots := 8, locals := 29 } : Room) (s.setVm s.vm) m #[(.ref a), (.ref c8)] below meth c s₁ [] 0 0 := X0
  have hZ : Z.Warmed39 (s.setVm s.vm).vm := hZ
  have hown : (s.setVm s.vm).vm.findClass "java/lang/String" = some m.cls := hown
  have hS : s.Since s.vm s.heap.size := (State.WarmedH.refl s).since _
  have hk : s.heap.size ≤ h0.size := by rw [hh]; exact Nat.le_refl _
  have HR := CHr.refl HC
  refine OGo.by_ (fun t k => XS.aloadN X0.here hx rfl (hb hby d_sc0_0) rfl rfl k) ?_
  show OGo p e below _ (s₁.setTop (mkF m 1 #[.val (.ref a), .val (.ref c8)] [(.ref a)]))
  refine OGo.by_ (fun t k => XS.aloadN X0.here hx rfl (hb hby d_sc0_1) rfl rfl k) ?_
  show OGo p e below _ (s₁.setTop (mkF m 2 #[.val (.ref a), .val (.ref c8)] [(.ref c8), (.ref a)]))
  refine OGo.by_ (fun t k => XS.iconst X0.here hx rfl (hb hby d_sc0_2) k) ?_
  show OGo p e below _ (s₁.setTop (mkF m 3 #[.val (.ref a), .val (.ref c8)] [(.int (0 : Int32)), (.ref c8), (.ref a)]))
  refine OGo.by_ (fun t k => XS.aloadN X0.here hx rfl (hb hby d_sc0_3) rfl rfl k) ?_
  show OGo p e below _ (s₁.setTop (mkF m 4 #[.val (.ref a), .val (.ref c8)] [(.ref c8), (.int (0 : Int32)), (.ref c8), (.ref a)]))
  obtain ⟨cl1, Ar1, q1, S1, Nn1, H1, G1⟩ := id Vc
  refine OGo.by_ (X0.arraylength hx (by rw [e0]; exact Ar1.1) (State.isArrayOf_alike hZ.alike Ar1.2.1) (g := (mkF m 4 #[.val (.ref a), .val (.ref c8)] [(.ref c8), (.int (0 : Int32)), (.ref c8), (.ref a)])) rfl rfl (hb hby d_sc0_4)) ?_
  rw [len_of S1 Nn1]
  show OGo p e below _ (s₁.setTop (mkF m 5 #[.val (.ref a), .val (.ref c8)] [(.int (0 : Int32)), (.int (0 : Int32)), (.ref c8), (.ref a)]))
  refine OGo.by_ (fun t k => XS.aconstNull X0.here hx rfl (hb hby d_sc0_5) k) ?_
  show OGo p e below _ (s₁.setTop (mkF m 6 #[.val (.ref a), .val (.ref c8)] [.null, (.int (0 : Int32)), (.int (0 : Int32)), (.ref c8), (.ref a)]))
  obtain ⟨_, _, ⟨T2, L2, k2, n2⟩, -, X2, hS2, hg2, ⟨Lc2, hQ2, l2, y2, z2, HR2⟩, st2⟩ := X0.specialBackS hx (y := (⟨"java/lang/String", "<init>", "([CIILjava/lang/Void;)V"⟩ : MethodName)) rfl hown (mvT hZ (hw _ (List.mem_of_getElem? (i := 14) rfl))) (mvT hZ (hw _ (List.mem_of_getElem? (i := 15) rfl))) (mvT hZ (hw _ (List.mem_of_getElem? (i := 17) rfl))) (by decide) (backOfSH (W := 0) (rm_s40 l Z a0 hw [] a c8 kc h0 n0 Z0 E0 F0 F1 ga) hZ (hw _ (List.mem_of_getElem? (i := 17) rfl)) (hw _ (List.mem_of_getElem? (i := 9) rfl)) (by decide) (by decide) (own_ew hw) HR.1) (g := (mkF m 6 #[.val (.ref a), .val (.ref c8)] [.null, (.int (0 : Int32)), (.int (0 : Int32)), (.ref c8), (.ref a)])) rfl (by rw [hml]; rfl) (Steps.refl _) (a := a) (argsL := [(.ref c8), (.int (0 : Int32)), (.int (0 : Int32)), .null]) (rest := []) (lenOf pd_oACIILjava_lang_Void_cV rfl) rfl (by show 2 * 0 + _ ≤ _; exact Nat.le_of_eq rfl) (hb hby d_sc0_6) (fun _ _ => ⟨rfl, e0, (by decide : 0 + 4 ≤ _), (by decide : 0 + 8 ≤ _)⟩)
  dsimp only [Pt.U, Pt.locs, Pt.cells, Pt.slots] at X2 l2 y2 z2 st2 hQ2 hS2 hg2 HR2
  subst l2 y2 z2
  obtain ⟨rfl, Nq2, K2, b, S2⟩ := hQ2
  have N2 := Fr.app N0 Nq2
  obtain ⟨X2, hS, hZ, hown⟩ := rebS hS (show _ ≤ s₁.heap.size by rw [e0]; exact hk) X2 hS2 hg2 hZ hown
  have hk := Nat.le_refl T2.heap.size
  have HR := HR.trans HR2
  refine OGo.by_ (fun t k => st2.trans k) ?_
  show OGo p e below _ (T2.setTop (mkF m 9 #[.val (.ref a), .val (.ref c8)] []))
  exact own_hret X2 hS (show _ ≤ T2.heap.size by rw [show T2.heap = T2.heap from rfl]; exact hk) (by rw [show T2.heap = T2.heap from rfl]; show CHr Z own_EL s.vm s.heap T2.vm _; rw [hh]; exact HR.trans (CHv.at X2 hZ (own_ew hw) HR.1)) hx hlk hret (hb hby d_sc0_9) (by decide) (by decide) (⟨rfl, N2, K2, b, S2⟩)
def own_c0 (x : Int32) : Int32 := (((x.toUInt32 >>> ((2 : Int32) &&& 31).toUInt32).toInt32) &&& (255 : Int32))
def own_c1 (x : Int32) : Int32 := (((x.toUInt32 >>> ((10 : Int32) &&& 31).toUInt32).toInt32) &&& (255 : Int32))
def own_c2 (x : Int32) : Int32 := (((x.toUInt32 >>> ((18 : Int32) &&& 31).toUInt32).toInt32) &&& (255 : Int32))
def own_xs (x : Int32) : List Int32 := if (x &&& (3 : Int32)) = 0 then [] else if (x &&& (3 : Int32)) = 1 then [own_c0 x] else if (x &&& (3 : Int32)) = 2 then [own_c0 x, own_c1 x] else [own_c0 x, own_c1 x, own_c2 x]
theorem own_mch (y : Int32) : own_ch (y &&& (255 : Int32)) := by
  have e1 := own_mask y 255 8 (by decide) (by decide)
  show ((y &&& (255 : Int32)).toInt8.toInt32 &&& (255 : Int32)) = (y &&& (255 : Int32))
  rw [← Int32.toInt_inj, own_mask _ 255 8 (by decide) (by decide)]
  have hb := c_i2b (y &&& (255 : Int32))
  omega
theorem own_and3 (p : Int32) : (p &&& (3 : Int32)) = 0 ∨ (p &&& (3 : Int32)) = 1 ∨ (p &&& (3 : Int32)) = 2 ∨ (p &&& (3 : Int32)) = 3 := by
  have h : (p &&& (3 : Int32)).toInt = p.toInt % 2 ^ 2 := own_mask p 3 2 (by decide) (by decide)
  simp only [← Int32.toInt_inj]
  have e0 : (0 : Int32).toInt = 0 := by decide
  have e1 : (1 : Int32).toInt = 1 := by decide
  have e2 : (2 : Int32).toInt = 2 := by decide
  have e3 : (3 : Int32).toInt = 3 := by decide
  omega
theorem own_i2c (y : Int32) : (y &&& (255 : Int32)).toUInt32.toUInt16.toUInt32.toInt32 = y &&& (255 : Int32) := i2c_mask y
theorem own_ncc (y : Int32) : nar .char (y &&& (255 : Int32)) = y &&& (255 : Int32) := i2c_mask y
theorem own_nc0 (x : Int32) : nar .char (own_c0 x) = own_c0 x := own_ncc _
theorem own_nc1 (x : Int32) : nar .char (own_c1 x) = own_c1 x := own_ncc _
theorem own_nc2 (x : Int32) : nar .char (own_c2 x) = own_c2 x := own_ncc _
theorem d_mk_0 : decode method_2_code 0 = .ok (.iload_n 0, 1) := by decide +kernel
theorem d_mk_1 : decode method_2_code 1 = .ok (.iconst 3, 1) := by decide +kernel
theorem d_mk_2 : decode method_2_code 2 = .ok (.iand, 1) := by decide +kernel
theorem d_mk_3 : decode method_2_code 3 = .ok (.istore_n 1, 1) := by decide +kernel
theorem d_mk_4 : decode method_2_code 4 = .ok (.iload_n 0, 1) := by decide +kernel
theorem d_mk_5 : decode method_2_code 5 = .ok (.iconst 2, 1) := by decide +kernel
theorem d_mk_6 : decode method_2_code 6 = .ok (.iushr, 1) := by decide +kernel
theorem d_mk_7 : decode method_2_code 7 = .ok (.sipush 255, 3) := by decide +kernel
theorem d_mk_10 : decode method_2_code 10 = .ok (.iand, 1) := by decide +kernel
theorem d_mk_11 : decode method_2_code 11 = .ok (.i2c, 1) := by decide +kernel
theorem d_mk_12 : decode method_2_code 12 = .ok (.istore_n 2, 1) := by decide +kernel
theorem d_mk_13 : decode method_2_code 13 = .ok (.iload_n 0, 1) := by decide +kernel
theorem d_mk_14 : decode method_2_code 14 = .ok (.bipush 10, 2) := by decide +kernel
theorem d_mk_16 : decode method_2_code 16 = .ok (.iushr, 1) := by decide +kernel
theorem d_mk_17 : decode method_2_code 17 = .ok (.sipush 255, 3) := by decide +kernel
theorem d_mk_20 : decode method_2_code 20 = .ok (.iand, 1) := by decide +kernel
theorem d_mk_21 : decode method_2_code 21 = .ok (.i2c, 1) := by decide +kernel
theorem d_mk_22 : decode method_2_code 22 = .ok (.istore_n 3, 1) := by decide +kernel
theorem d_mk_23 : decode method_2_code 23 = .ok (.iload_n 0, 1) := by decide +kernel
theorem d_mk_24 : decode method_2_code 24 = .ok (.bipush 18, 2) := by decide +kernel
theorem d_mk_26 : decode method_2_code 26 = .ok (.iushr, 1) := by decide +kernel
theorem d_mk_27 : decode method_2_code 27 = .ok (.sipush 255, 3) := by decide +kernel
theorem d_mk_30 : decode method_2_code 30 = .ok (.iand, 1) := by decide +kernel
theorem d_mk_31 : decode method_2_code 31 = .ok (.i2c, 1) := by decide +kernel
theorem d_mk_32 : decode method_2_code 32 = .ok (.istore 4, 2) := by decide +kernel
theorem d_mk_34 : decode method_2_code 34 = .ok (.iload_n 1, 1) := by decide +kernel
theorem d_mk_35 : decode method_2_code 35 = .ok (.ifCond .ne 14, 3) := by decide +kernel
theorem d_mk_38 : decode method_2_code 38 = .ok (.new 7, 3) := by decide +kernel
theorem d_mk_41 : decode method_2_code 41 = .ok (.dup, 1) := by decide +kernel
theorem d_mk_42 : decode method_2_code 42 = .ok (.iconst 0, 1) := by decide +kernel
theorem d_mk_43 : decode method_2_code 43 = .ok (.newarray .char, 2) := by decide +kernel
theorem d_mk_45 : decode method_2_code 45 = .ok (.invokespecial 9, 3) := by decide +kernel
theorem pd_oACcV : parseMethodDescriptor "([C)V" = some ⟨[(.array .char)], none⟩ := by decide +kernel
theorem d_mk_48 : decode method_2_code 48 = .ok (.areturn, 1) := by decide +kernel
theorem d_mk_49 : decode method_2_code 49 = .ok (.iload_n 1, 1) := by decide +kernel
theorem d_mk_50 : decode method_2_code 50 = .ok (.iconst 1, 1) := by decide +kernel
theorem d_mk_51 : decode method_2_code 51 = .ok (.if_icmp .ne 18, 3) := by decide +kernel
theorem d_mk_54 : decode method_2_code 54 = .ok (.new 7, 3) := by decide +kernel
theorem d_mk_57 : decode method_2_code 57 = .ok (.dup, 1) := by decide +kernel
theorem d_mk_58 : decode method_2_code 58 = .ok (.iconst 1, 1) := by decide +kernel
theorem d_mk_59 : decode method_2_code 59 = .ok (.newarray .char, 2) := by decide +kernel
theorem d_mk_61 : decode method_2_code 61 = .ok (.dup, 1) := by decide +kernel
theorem d_mk_62 : decode method_2_code 62 = .ok (.iconst 0, 1) := by decide +kernel
theorem d_mk_63 : decode method_2_code 63 = .ok (.iload_n 2, 1) := by decide +kernel
theorem d_mk_64 : decode method_2_code 64 = .ok (.castore, 1) := by decide +kernel
theorem d_mk_65 : decode method_2_code 65 = .ok (.invokespecial 9, 3) := by decide +kernel
theorem d_mk_68 : decode method_2_code 68 = .ok (.areturn, 1) := by decide +kernel
theorem d_mk_69 : decode method_2_code 69 = .ok (.iload_n 1, 1) := by decide +kernel
theorem d_mk_70 : decode method_2_code 70 = .ok (.iconst 2, 1) := by decide +kernel
theorem d_mk_71 : decode method_2_code 71 = .ok (.if_icmp .ne 22, 3) := by decide +kernel
theorem d_mk_74 : decode method_2_code 74 = .ok (.new 7, 3) := by decide +kernel
theorem d_mk_77 : decode method_2_code 77 = .ok (.dup, 1) := by decide +kernel
theorem d_mk_78 : decode method_2_code 78 = .ok (.iconst 2, 1) := by decide +kernel
theorem d_mk_79 : decode method_2_code 79 = .ok (.newarray .char, 2) := by decide +kernel
theorem d_mk_81 : decode method_2_code 81 = .ok (.dup, 1) := by decide +kernel
theorem d_mk_82 : decode method_2_code 82 = .ok (.iconst 0, 1) := by decide +kernel
theorem d_mk_83 : decode method_2_code 83 = .ok (.iload_n 2, 1) := by decide +kernel
theorem d_mk_84 : decode method_2_code 84 = .ok (.castore, 1) := by decide +kernel
theorem d_mk_85 : decode method_2_code 85 = .ok (.dup, 1) := by decide +kernel
theorem d_mk_86 : decode method_2_code 86 = .ok (.iconst 1, 1) := by decide +kernel
theorem d_mk_87 : decode method_2_code 87 = .ok (.iload_n 3, 1) := by decide +kernel
theorem d_mk_88 : decode method_2_code 88 = .ok (.castore, 1) := by decide +kernel
theorem d_mk_89 : decode method_2_code 89 = .ok (.invokespecial 9, 3) := by decide +kernel
theorem d_mk_92 : decode method_2_code 92 = .ok (.areturn, 1) := by decide +kernel
theorem d_mk_93 : decode method_2_code 93 = .ok (.new 7, 3) := by decide +kernel
theorem d_mk_96 : decode method_2_code 96 = .ok (.dup, 1) := by decide +kernel
theorem d_mk_97 : decode method_2_code 97 = .ok (.iconst 3, 1) := by decide +kernel
theorem d_mk_98 : decode method_2_code 98 = .ok (.newarray .char, 2) := by decide +kernel
theorem d_mk_100 : decode method_2_code 100 = .ok (.dup, 1) := by decide +kernel
theorem d_mk_101 : decode method_2_code 101 = .ok (.iconst 0, 1) := by decide +kernel
theorem d_mk_102 : decode method_2_code 102 = .ok (.iload_n 2, 1) := by decide +kernel
theorem d_mk_103 : decode method_2_code 103 = .ok (.castore, 1) := by decide +kernel
theorem d_mk_104 : decode method_2_code 104 = .ok (.dup, 1) := by decide +kernel
theorem d_mk_105 : decode method_2_code 105 = .ok (.iconst 1, 1) := by decide +kernel
theorem d_mk_106 : decode method_2_code 106 = .ok (.iload_n 3, 1) := by decide +kernel
theorem d_mk_107 : decode method_2_code 107 = .ok (.castore, 1) := by decide +kernel
theorem d_mk_108 : decode method_2_code 108 = .ok (.dup, 1) := by decide +kernel
theorem d_mk_109 : decode method_2_code 109 = .ok (.iconst 2, 1) := by decide +kernel
theorem d_mk_110 : decode method_2_code 110 = .ok (.iload 4, 2) := by decide +kernel
theorem d_mk_112 : decode method_2_code 112 = .ok (.castore, 1) := by decide +kernel
theorem d_mk_113 : decode method_2_code 113 = .ok (.invokespecial 9, 3) := by decide +kernel
theorem d_mk_116 : decode method_2_code 116 = .ok (.areturn, 1) := by decide +kernel
theorem pn_com_example_shardwright_shardwright_kernel_config_DataNodeEqualsPinLaw : plainName "com/example/shardwright/shardwright/kernel/config/DataNodeEqualsPinLaw" = true := by first | (simp [plainName, overriddenIn]; done) | decide +kernel
theorem ef_mk (m : MethodId) (x0 : Int32) : entryFrame m #[(.int x0)] 5 = mkF m 0 #[.val (.int x0), .unset, .unset, .unset, .unset] [] := by first | (simp [entryFrame, mkF, argsToLocals, Value.category]; done) | rfl
def Q_mk (Z : State) (p1 cs : Int32) (h0 : Heap) (n0 : Nat) (v : Option Value) (h : Heap) (L : List Loc) : Prop := v = some (.ref h0.size) ∧ Fr n0 L ∧ Keep h0 h [] ∧ ∃ b n, own_S Z h h0.size b n (own_xs p1)
set_option maxRecDepth 65536 in
set_option maxHeartbeats 40000000 in
theorem rm_mk (l : Launch) (Z : State) (a0 : Array Value) (hw : ∀ d ∈ tables_1, d.before a0 Z = true) (ws : List Jvm.Cond) (p1 cs : Int32) (h0 : Heap) (n0 : Nat) (Z0 : n0 ≤ h0.size) (SC : Sta Z h0 "java/lang/String" "COMPACT_STRINGS" "Z" (.int cs)) (hcs : ¬ cs = (0 : Int32)) :
    MetFree l (⟨"com/example/shardwright/shardwright/kernel/config/DataNodeEqualsPinLaw", "mk", "(I)Ljava/lang/String;"⟩ : MethodName) (head1 (Jvm.Cond.code (⟨"com/example/shardwright/shardwright/kernel/config/DataNodeEqualsPinLaw", "mk", "(I)Ljava/lang/String;"⟩ : MethodName) method_2_code 5 (some (.object "java/lang/String")) :: ws) ({ frames := 4, cells := 6, slots := 15, locals := 66 } : Room)) (fun a_ U => a_ = #[(.int p1)] ∧ Z.Warmed39 U.vm ∧ U.heap = h0 ∧ CHv Z own_EL U.vm h0) (fun _ _ _ _ _ => True) (fun _ U o U' => ∃ v L, o = .returned v ∧ Q_mk Z p1 cs h0 n0 v U'.heap L ∧ CHr Z own_EL U.vm U.heap U'.vm U'.heap ∧ ReturnedEndW U o U' L ({ frames := 4, cells := 6, slots := 15, locals := 66 } : Room).cells ({ frames := 4, cells := 6, slots := 15, locals := 66 } : Room).slots) := by
  refine MetFree.of_bodySF (plainFor_of_name pn_com_example_shardwright_shardwright_kernel_config_DataNodeEqualsPinLaw) hisR ?_
  intro p e s m args below meth c s₁ Bd hml0 hP hK
  obtain ⟨rfl, hZ, hh, HC⟩ := hP
  have hx := Bd.exec
  have hby := Bd.bytes
  have hml : c.maxLocals = 5 := hml0
  have hown : s.vm.findClass "com/example/shardwright/shardwright/kernel/config/DataNodeEqualsPinLaw" = some m.cls := findClass_of_methodNamed Bd.named
  have hnm := (name_of_methodNamed Bd.named Bd.method).1
  have X0 : Stand p l e ({ frames := 4, cells := 6, slots := 15, locals := 66 } : Room) s m #[(.int p1)] below meth c s₁ [] 0 0 := Stand.of_body Bd
  have e0 : s₁.heap = h0 := by rw [← hh, Bd.state]; rfl
  have N0 := Fr.nil n0
  have hlk := Bd.notSynchronized
  have hret := Bd.returns
  show OGo p e below (OEndH Z own_EL s (Q_mk Z p1 cs h0 n0) ({ frames := 4, cells := 6, slots := 15, locals := 66 } : Room).cells ({ frames := 4, cells := 6, slots := 15, locals := 66 } : Room).slots) (s₁.setTop (entryFrame m #[(.int p1)] 5))
  rw [ef_mk]
  show OGo p e below _ (s₁.setTop (mkF m 0 #[.val (.int p1), .unset, .unset, .unset, .unset] []))
  have X0 : Stand p l e ({ frames := 4, cells := 6, slots := 15, locals := 66 } : Room) (s.setVm s.vm) m #[(.int p1)] below meth c s₁ [] 0 0 := X0
  have hZ : Z.Warmed39 (s.setVm s.vm).vm := hZ
  have hown : (s.setVm s.vm).vm.findClass "com/example/shardwright/shardwright/kernel/config/DataNodeEqualsPinLaw" = some m.cls := hown
  have hS : s.Since s.vm s.heap.size := (State.WarmedH.refl s).since _
  have hk : s.heap.size ≤ h0.size := by rw [hh]; exact Nat.le_refl _
  have HR := CHr.refl HC
  refine OGo.by_ (fun t k => XS.iloadN X0.here hx rfl (hb hby d_mk_0) rfl k) ?_
  show OGo p e below _ (s₁.setTop (mkF m 1 #[.val (.int p1), .unset, .unset, .unset, .unset] [(.int p1)]))
  refine OGo.by_ (fun t k => XS.iconst X0.here hx rfl (hb hby d_mk_1) k) ?_
  show OGo p e below _ (s₁.setTop (mkF m 2 #[.val (.int p1), .unset, .unset, .unset, .unset] [(.int (3 : Int32)), (.int p1)]))
  refine OGo.by_ (fun t k => XS.iand X0.here hx rfl (hb hby d_mk_2) rfl k) ?_
  show OGo p e below _ (s₁.setTop (mkF m 3 #[.val (.int p1), .unset, .unset, .unset, .unset] [(.int (p1 &&& (3 : Int32)))]))
  refine OGo.by_ (fun t k => XS.istoreN X0.here hx rfl (hb hby d_mk_3) rfl (l' := #[.val (.int p1), .val (.int (p1 &&& (3 : Int32))), .unset, .unset, .unset]) rfl k) ?_
  show OGo p e below _ (s₁.setTop (mkF m 4 #[.val (.int p1), .val (.int (p1 &&& (3 : Int32))), .unset, .unset, .unset] []))
  refine OGo.by_ (fun t k => XS.iloadN X0.here hx rfl (hb hby d_mk_4) rfl k) ?_
  show OGo p e below _ (s₁.setTop (mkF m 5 #[.val (.int p1), .val (.int (p1 &&& (3 : Int32))), .unset, .unset, .unset] [(.int p1)]))
  refine OGo.by_ (fun t k => XS.iconst X0.here hx rfl (hb hby d_mk_5) k) ?_
  show OGo p e below _ (s₁.setTop (mkF m 6 #[.val (.int p1), .val (.int (p1 &&& (3 : Int32))), .unset, .unset, .unset] [(.int (2 : Int32)), (.int p1)]))
  refine OGo.by_ (fun t k => XS.iushr X0.here hx rfl (hb hby d_mk_6) rfl k) ?_
  show OGo p e below _ (s₁.setTop (mkF m 7 #[.val (.int p1), .val (.int (p1 &&& (3 : Int32))), .unset, .unset, .unset] [(.int ((p1.toUInt32 >>> ((2 : Int32) &&& 31).toUInt32).toInt32))]))
  refine OGo.by_ (fun t k => XS.sipush X0.here hx rfl (hb hby d_mk_7) k) ?_
  show OGo p e below _ (s₁.setTop (mkF m 10 #[.val (.int p1), .val (.int (p1 &&& (3 : Int32))), .unset, .unset, .unset] [(.int (255 : Int32)), (.int ((p1.toUInt32 >>> ((2 : Int32) &&& 31).toUInt32).toInt32))]))
  refine OGo.by_ (fun t k => XS.iand X0.here hx rfl (hb hby d_mk_10) rfl k) ?_
  show OGo p e below _ (s₁.setTop (mkF m 11 #[.val (.int p1), .val (.int (p1 &&& (3 : Int32))), .unset, .unset, .unset] [(.int (((p1.toUInt32 >>> ((2 : Int32) &&& 31).toUInt32).toInt32) &&& (255 : Int32)))]))
  refine OGo.by_ (fun t k => XS.i2c X0.here hx rfl (hb hby d_mk_11) rfl k) ?_
  show OGo p e below _ (s₁.setTop (mkF m 12 #[.val (.int p1), .val (.int (p1 &&& (3 : Int32))), .unset, .unset, .unset] [(.int ((((p1.toUInt32 >>> ((2 : Int32) &&& 31).toUInt32).toInt32) &&& (255 : Int32)).toUInt32.toUInt16.toUInt32.toInt32))]))
  refine OGo.by_ (fun t k => XS.istoreN X0.here hx rfl (hb hby d_mk_12) rfl (l' := #[.val (.int p1), .val (.int (p1 &&& (3 : Int32))), .val (.int ((((p1.toUInt32 >>> ((2 : Int32) &&& 31).toUInt32).toInt32) &&& (255 : Int32)).toUInt32.toUInt16.toUInt32.toInt32)), .unset, .unset]) rfl k) ?_
  show OGo p e below _ (s₁.setTop (mkF m 13 #[.val (.int p1), .val (.int (p1 &&& (3 : Int32))), .val (.int ((((p1.toUInt32 >>> ((2 : Int32) &&& 31).toUInt32).toInt32) &&& (255 : Int32)).toUInt32.toUInt16.toUInt32.toInt32)), .unset, .unset] []))
  refine OGo.by_ (fun t k => XS.iloadN X0.here hx rfl (hb hby d_mk_13) rfl k) ?_
  show OGo p e below _ (s₁.setTop (mkF m 14 #[.val (.int p1), .val (.int (p1 &&& (3 : Int32))), .val (.int ((((p1.toUInt32 >>> ((2 : Int32) &&& 31).toUInt32).toInt32) &&& (255 : Int32)).toUInt32.toUInt16.toUInt32.toInt32)), .unset, .unset] [(.int p1)]))
  refine OGo.by_ (fun t k => XS.bipush X0.here hx rfl (hb hby d_mk_14) k) ?_
  show OGo p e below _ (s₁.setTop (mkF m 16 #[.val (.int p1), .val (.int (p1 &&& (3 : Int32))), .val (.int ((((p1.toUInt32 >>> ((2 : Int32) &&& 31).toUInt32).toInt32) &&& (255 : Int32)).toUInt32.toUInt16.toUInt32.toInt32)), .unset, .unset] [(.int (10 : Int32)), (.int p1)]))
  refine OGo.by_ (fun t k => XS.iushr X0.here hx rfl (hb hby d_mk_16) rfl k) ?_
  show OGo p e below _ (s₁.setTop (mkF m 17 #[.val (.int p1), .val (.int (p1 &&& (3 : Int32))), .val (.int ((((p1.toUInt32 >>> ((2 : Int32) &&& 31).toUInt32).toInt32) &&& (255 : Int32)).toUInt32.toUInt16.toUInt32.toInt32)), .unset, .unset] [(.int ((p1.toUInt32 >>> ((10 : Int32) &&& 31).toUInt32).toInt32))]))
  refine OGo.by_ (fun t k => XS.sipush X0.here hx rfl (hb hby d_mk_17) k) ?_
  show OGo p e below _ (s₁.setTop (mkF m 20 #[.val (.int p1), .val (.int (p1 &&& (3 : Int32))), .val (.int ((((p1.toUInt32 >>> ((2 : Int32) &&& 31).toUInt32).toInt32) &&& (255 : Int32)).toUInt32.toUInt16.toUInt32.toInt32)), .unset, .unset] [(.int (255 : Int32)), (.int ((p1.toUInt32 >>> ((10 : Int32) &&& 31).toUInt32).toInt32))]))
  refine OGo.by_ (fun t k => XS.iand X0.here hx rfl (hb hby d_mk_20) rfl k) ?_
  show OGo p e below _ (s₁.setTop (mkF m 21 #[.val (.int p1), .val (.int (p1 &&& (3 : Int32))), .val (.int ((((p1.toUInt32 >>> ((2 : Int32) &&& 31).toUInt32).toInt32) &&& (255 : Int32)).toUInt32.toUInt16.toUInt32.toInt32)), .unset, .unset] [(.int (((p1.toUInt32 >>> ((10 : Int32) &&& 31).toUInt32).toInt32) &&& (255 : Int32)))]))
  refine OGo.by_ (fun t k => XS.i2c X0.here hx rfl (hb hby d_mk_21) rfl k) ?_
  show OGo p e below _ (s₁.setTop (mkF m 22 #[.val (.int p1), .val (.int (p1 &&& (3 : Int32))), .val (.int ((((p1.toUInt32 >>> ((2 : Int32) &&& 31).toUInt32).toInt32) &&& (255 : Int32)).toUInt32.toUInt16.toUInt32.toInt32)), .unset, .unset] [(.int ((((p1.toUInt32 >>> ((10 : Int32) &&& 31).toUInt32).toInt32) &&& (255 : Int32)).toUInt32.toUInt16.toUInt32.toInt32))]))
  refine OGo.by_ (fun t k => XS.istoreN X0.here hx rfl (hb hby d_mk_22) rfl (l' := #[.val (.int p1), .val (.int (p1 &&& (3 : Int32))), .val (.int ((((p1.toUInt32 >>> ((2 : Int32) &&& 31).toUInt32).toInt32) &&& (255 : Int32)).toUInt32.toUInt16.toUInt32.toInt32)), .val (.int ((((p1.toUInt32 >>> ((10 : Int32) &&& 31).toUInt32).toInt32) &&& (255 : Int32)).toUInt32.toUInt16.toUInt32.toInt32)), .unset]) rfl k) ?_
  show OGo p e below _ (s₁.setTop (mkF m 23 #[.val (.int p1), .val (.int (p1 &&& (3 : Int32))), .val (.int ((((p1.toUInt32 >>> ((2 : Int32) &&& 31).toUInt32).toInt32) &&& (255 : Int32)).toUInt32.toUInt16.toUInt32.toInt32)), .val (.int ((((p1.toUInt32 >>> ((10 : Int32) &&& 31).toUInt32).toInt32) &&& (255 : Int32)).toUInt32.toUInt16.toUInt32.toInt32)), .unset] []))
  refine OGo.by_ (fun t k => XS.iloadN X0.here hx rfl (hb hby d_mk_23) rfl k) ?_
  show OGo p e below _ (s₁.setTop (mkF m 24 #[.val (.int p1), .val (.int (p1 &&& (3 : Int32))), .val (.int ((((p1.toUInt32 >>> ((2 : Int32) &&& 31).toUInt32).toInt32) &&& (255 : Int32)).toUInt32.toUInt16.toUInt32.toInt32)), .val (.int ((((p1.toUInt32 >>> ((10 : Int32) &&& 31).toUInt32).toInt32) &&& (255 : Int32)).toUInt32.toUInt16.toUInt32.toInt32)), .unset] [(.int p1)]))
  refine OGo.by_ (fun t k => XS.bipush X0.here hx rfl (hb hby d_mk_24) k) ?_
  show OGo p e below _ (s₁.setTop (mkF m 26 #[.val (.int p1), .val (.int (p1 &&& (3 : Int32))), .val (.int ((((p1.toUInt32 >>> ((2 : Int32) &&& 31).toUInt32).toInt32) &&& (255 : Int32)).toUInt32.toUInt16.toUInt32.toInt32)), .val (.int ((((p1.toUInt32 >>> ((10 : Int32) &&& 31).toUInt32).toInt32) &&& (255 : Int32)).toUInt32.toUInt16.toUInt32.toInt32)), .unset] [(.int (18 : Int32)), (.int p1)]))
  refine OGo.by_ (fun t k => XS.iushr X0.here hx rfl (hb hby d_mk_26) rfl k) ?_
  show OGo p e below _ (s₁.setTop (mkF m 27 #[.val (.int p1), .val (.int (p1 &&& (3 : Int32))), .val (.int ((((p1.toUInt32 >>> ((2 : Int32) &&& 31).toUInt32).toInt32) &&& (255 : Int32)).toUInt32.toUInt16.toUInt32.toInt32)), .val (.int ((((p1.toUInt32 >>> ((10 : Int32) &&& 31).toUInt32).toInt32) &&& (255 : Int32)).toUInt32.toUInt16.toUInt32.toInt32)), .unset] [(.int ((p1.toUInt32 >>> ((18 : Int32) &&& 31).toUInt32).toInt32))]))
  refine OGo.by_ (fun t k => XS.sipush X0.here hx rfl (hb hby d_mk_27) k) ?_
  show OGo p e below _ (s₁.setTop (mkF m 30 #[.val (.int p1), .val (.int (p1 &&& (3 : Int32))), .val (.int ((((p1.toUInt32 >>> ((2 : Int32) &&& 31).toUInt32).toInt32) &&& (255 : Int32)).toUInt32.toUInt16.toUInt32.toInt32)), .val (.int ((((p1.toUInt32 >>> ((10 : Int32) &&& 31).toUInt32).toInt32) &&& (255 : Int32)).toUInt32.toUInt16.toUInt32.toInt32)), .unset] [(.int (255 : Int32)), (.int ((p1.toUInt32 >>> ((18 : Int32) &&& 31).toUInt32).toInt32))]))
  refine OGo.by_ (fun t k => XS.iand X0.here hx rfl (hb hby d_mk_30) rfl k) ?_
  show OGo p e below _ (s₁.setTop (mkF m 31 #[.val (.int p1), .val (.int (p1 &&& (3 : Int32))), .val (.int ((((p1.toUInt32 >>> ((2 : Int32) &&& 31).toUInt32).toInt32) &&& (255 : Int32)).toUInt32.toUInt16.toUInt32.toInt32)), .val (.int ((((p1.toUInt32 >>> ((10 : Int32) &&& 31).toUInt32).toInt32) &&& (255 : Int32)).toUInt32.toUInt16.toUInt32.toInt32)), .unset] [(.int (((p1.toUInt32 >>> ((18 : Int32) &&& 31).toUInt32).toInt32) &&& (255 : Int32)))]))
  refine OGo.by_ (fun t k => XS.i2c X0.here hx rfl (hb hby d_mk_31) rfl k) ?_
  show OGo p e below _ (s₁.setTop (mkF m 32 #[.val (.int p1), .val (.int (p1 &&& (3 : Int32))), .val (.int ((((p1.toUInt32 >>> ((2 : Int32) &&& 31).toUInt32).toInt32) &&& (255 : Int32)).toUInt32.toUInt16.toUInt32.toInt32)), .val (.int ((((p1.toUInt32 >>> ((10 : Int32) &&& 31).toUInt32).toInt32) &&& (255 : Int32)).toUInt32.toUInt16.toUInt32.toInt32)), .unset] [(.int ((((p1.toUInt32 >>> ((18 : Int32) &&& 31).toUInt32).toInt32) &&& (255 : Int32)).toUInt32.toUInt16.toUInt32.toInt32))]))
  refine OGo.by_ (fun t k => XS.istore X0.here hx rfl (hb hby d_mk_32) rfl (l' := #[.val (.int p1), .val (.int (p1 &&& (3 : Int32))), .val (.int ((((p1.toUInt32 >>> ((2 : Int32) &&& 31).toUInt32).toInt32) &&& (255 : Int32)).toUInt32.toUInt16.toUInt32.toInt32)), .val (.int ((((p1.toUInt32 >>> ((10 : Int32) &&& 31).toUInt32).toInt32) &&& (255 : Int32)).toUInt32.toUInt16.toUInt32.toInt32)), .val (.int ((((p1.toUInt32 >>> ((18 : Int32) &&& 31).toUInt32).toInt32) &&& (255 : Int32)).toUInt32.toUInt16.toUInt32.toInt32))]) rfl k) ?_
  show OGo p e below _ (s₁.setTop (mkF m 34 #[.val (.int p1), .val (.int (p1 &&& (3 : Int32))), .val (.int ((((p1.toUInt32 >>> ((2 : Int32) &&& 31).toUInt32).toInt32) &&& (255 : Int32)).toUInt32.toUInt16.toUInt32.toInt32)), .val (.int ((((p1.toUInt32 >>> ((10 : Int32) &&& 31).toUInt32).toInt32) &&& (255 : Int32)).toUInt32.toUInt16.toUInt32.toInt32)), .val (.int ((((p1.toUInt32 >>> ((18 : Int32) &&& 31).toUInt32).toInt32) &&& (255 : Int32)).toUInt32.toUInt16.toUInt32.toInt32))] []))
  rw [show ((((p1.toUInt32 >>> ((2 : Int32) &&& 31).toUInt32).toInt32) &&& (255 : Int32)).toUInt32.toUInt16.toUInt32.toInt32) = (own_c0 p1) from own_i2c _]
  rw [show ((((p1.toUInt32 >>> ((10 : Int32) &&& 31).toUInt32).toInt32) &&& (255 : Int32)).toUInt32.toUInt16.toUInt32.toInt32) = (own_c1 p1) from own_i2c _]
  rw [show ((((p1.toUInt32 >>> ((18 : Int32) &&& 31).toUInt32).toInt32) &&& (255 : Int32)).toUInt32.toUInt16.toUInt32.toInt32) = (own_c2 p1) from own_i2c _]
  show OGo p e below _ (s₁.setTop (mkF m 34 #[.val (.int p1), .val (.int (p1 &&& (3 : Int32))), .val (.int (own_c0 p1)), .val (.int (own_c1 p1)), .val (.int (own_c2 p1))] []))
  rcases own_and3 p1 with hq | hq | hq | hq
  · rw [hq]
    show OGo p e below _ (s₁.setTop (mkF m 34 #[.val (.int p1), .val (.int (0 : Int32)), .val (.int (own_c0 p1)), .val (.int (own_c1 p1)), .val (.int (own_c2 p1))] []))
    refine OGo.by_ (fun t k => XS.iloadN X0.here hx rfl (hb hby d_mk_34) rfl k) ?_
    show OGo p e below _ (s₁.setTop (mkF m 35 #[.val (.int p1), .val (.int (0 : Int32)), .val (.int (own_c0 p1)), .val (.int (own_c1 p1)), .val (.int (own_c2 p1))] [(.int (0 : Int32))]))
    refine OGo.by_ (fun t k => XS.ifNo X0.here hx rfl (hb hby d_mk_35) rfl ((if0 _ _).trans (teq rfl).2) k) ?_
    show OGo p e below _ (s₁.setTop (mkF m 38 #[.val (.int p1), .val (.int (0 : Int32)), .val (.int (own_c0 p1)), .val (.int (own_c1 p1)), .val (.int (own_c2 p1))] []))
    obtain ⟨T1, h1, X1, e1, E1, A1, Dv1, -, st1⟩ := newO X0 hx hZ hown (hw _ (List.mem_of_getElem? (i := 7) rfl)) (hw _ (List.mem_of_getElem? (i := 8) rfl)) (hw _ (List.mem_of_getElem? (i := 9) rfl)) e0 (g := (mkF m 38 #[.val (.int p1), .val (.int (0 : Int32)), .val (.int (own_c0 p1)), .val (.int (own_c1 p1)), .val (.int (own_c2 p1))] [])) rfl (hb hby d_mk_38) (by decide) (by decide)
    obtain ⟨a, g_a⟩ : ∃ z, z = h0.size := ⟨_, rfl⟩
    rw [← g_a] at A1 Dv1 st1
    have A_a := A1
    have lt_a := own_lt A1.lt
    have F_value_a : Fld Z h1 a "java/lang/String" "value" "[B" .null := Dv1 (Or.inr (hw _ (List.mem_of_getElem? (i := 23) rfl))) (ty := (.array .byte)) (by decide)
    have F_coder_a : Fld Z h1 a "java/lang/String" "coder" "B" (.int (0 : Int32)) := Dv1 (Or.inr (hw _ (List.mem_of_getElem? (i := 24) rfl))) (ty := .byte) (by decide)
    have hk := Nat.le_trans hk E1.1
    have HR := HR.trans (CHr.ext E1 HR.1)
    refine OGo.by_ st1 ?_
    show OGo p e below _ (T1.setTop (mkF m 41 #[.val (.int p1), .val (.int (0 : Int32)), .val (.int (own_c0 p1)), .val (.int (own_c1 p1)), .val (.int (own_c2 p1))] [(.ref a)]))
    refine OGo.by_ (fun t k => XS.dup X1.here hx rfl (hb hby d_mk_41) rfl rfl k) ?_
    show OGo p e below _ (T1.setTop (mkF m 42 #[.val (.int p1), .val (.int (0 : Int32)), .val (.int (own_c0 p1)), .val (.int (own_c1 p1)), .val (.int (own_c2 p1))] [(.ref a), (.ref a)]))
    refine OGo.by_ (fun t k => XS.iconst X1.here hx rfl (hb hby d_mk_42) k) ?_
    show OGo p e below _ (T1.setTop (mkF m 43 #[.val (.int p1), .val (.int (0 : Int32)), .val (.int (own_c0 p1)), .val (.int (own_c1 p1)), .val (.int (own_c2 p1))] [(.int (0 : Int32)), (.ref a), (.ref a)]))
    obtain ⟨T2, h2, k2, X2, e2, E2, A2, st2⟩ := newP X1 hx hZ (hw _ (List.mem_of_getElem? (i := 10) rfl)) e1 (g := (mkF m 43 #[.val (.int p1), .val (.int (0 : Int32)), .val (.int (own_c0 p1)), .val (.int (own_c1 p1)), .val (.int (own_c2 p1))] [(.int (0 : Int32)), (.ref a), (.ref a)])) rfl (hb hby d_mk_43) rfl (by decide) (cap := 0) (by decide) (by decide) (by decide) (by decide)
    obtain ⟨c8, g_c8⟩ : ∃ z, z = h1.size := ⟨_, rfl⟩
    rw [← g_c8] at A2 st2
    have V_c8 := Arv.new A2 (by decide)
    have lt_c8 := own_lt V_c8.lt
    have hk := Nat.le_trans hk E2.1
    have HR := HR.trans (CHr.ext E2 HR.1)
    refine OGo.by_ st2 ?_
    show OGo p e below _ (T2.setTop (mkF m 45 #[.val (.int p1), .val (.int (0 : Int32)), .val (.int (own_c0 p1)), .val (.int (own_c1 p1)), .val (.int (own_c2 p1))] [(.ref c8), (.ref a), (.ref a)]))
    have Z1 : n0 ≤ h2.size := Nat.le_trans (Nat.le_trans Z0 E1.1) E2.1
    have ga : n0 ≤ a := by omega
    have A1 := A_a.ext E2
    have G0 := F_value_a.ext E2
    have G1 := F_coder_a.ext E2
    have hle := E1.1
    have gc : n0 ≤ c8 := by omega
    have hac : a ≠ c8 := own_ne (by omega)
    have K_0 : Keep h0 h2 [] := (own_ext_keep E1).ext E2
    have SC1 := Sta.ext E2 (Sta.ext E1 SC)
    obtain ⟨_, _, ⟨T3, L3, k3, n3⟩, -, X3, hS2, hg2, ⟨Lc3, hQ3, l3, y3, z3, HR2⟩, st3⟩ := X2.specialBackS hx (y := (⟨"java/lang/String", "<init>", "([C)V"⟩ : MethodName)) rfl hown (mvT hZ (hw _ (List.mem_of_getElem? (i := 11) rfl))) (mvT hZ (hw _ (List.mem_of_getElem? (i := 12) rfl))) (mvT hZ (hw _ (List.mem_of_getElem? (i := 13) rfl))) (by decide) (backOfSH (W := 1) (rm_sc0 l Z a0 hw [] a c8 k2 h2 n0 Z1 A1 G0 G1 ga V_c8) hZ (hw _ (List.mem_of_getElem? (i := 13) rfl)) (hw _ (List.mem_of_getElem? (i := 9) rfl)) (by decide) (by decide) (own_ew hw) HR.1) (g := (mkF m 45 #[.val (.int p1), .val (.int (0 : Int32)), .val (.int (own_c0 p1)), .val (.int (own_c1 p1)), .val (.int (own_c2 p1))] [(.ref c8), (.ref a), (.ref a)])) rfl (by rw [hml]; rfl) (Steps.refl _) (a := a) (argsL := [(.ref c8)]) (rest := [(.ref a)]) (lenOf pd_oACcV rfl) rfl (by show 2 * 0 + _ ≤ _; exact Nat.le_of_eq rfl) (hb hby d_mk_45) (fun _ _ => ⟨rfl, e2, (by decide : 2 + 4 ≤ _), (by decide : 4 + 8 ≤ _)⟩)
    dsimp only [Pt.U, Pt.locs, Pt.cells, Pt.slots] at X3 l3 y3 z3 st3 hQ3 hS2 hg2 HR2
    subst l3 y3 z3
    obtain ⟨rfl, Nq3, K3, b, S3⟩ := hQ3
    have N3 := Fr.app N0 Nq3
    obtain ⟨X3, hS, hZ, hown⟩ := rebS hS (show _ ≤ T2.heap.size by rw [e2]; exact hk) X3 hS2 hg2 hZ hown
    have hk := Nat.le_refl T3.heap.size
    have HR := HR.trans HR2
    refine OGo.by_ (fun t k => st3.trans k) ?_
    show OGo p e below _ (T3.setTop (mkF m 48 #[.val (.int p1), .val (.int (0 : Int32)), .val (.int (own_c0 p1)), .val (.int (own_c1 p1)), .val (.int (own_c2 p1))] [(.ref a)]))
    have KK := Keep.trans K_0 K3 (allS (Or.inr (by omega)) all0)
    have Sx := S3
    exact own_hretA X3 hS (show _ ≤ T3.heap.size by rw [show T3.heap = T3.heap from rfl]; exact hk) (by rw [show T3.heap = T3.heap from rfl]; show CHr Z own_EL s.vm s.heap T3.vm _; rw [hh]; exact HR.trans (CHv.at X3 hZ (own_ew hw) HR.1)) hx hlk hret rfl rfl (hb hby d_mk_48) (by decide) (by decide) (⟨congrArg (fun z => some (Value.ref z)) g_a, N3, KK, b, (0 : Int32), by simp only [own_xs, hq]; first | exact g_a ▸ Sx | (simp; exact g_a ▸ Sx)⟩)
  · rw [hq]
    show OGo p e below _ (s₁.setTop (mkF m 34 #[.val (.int p1), .val (.int (1 : Int32)), .val (.int (own_c0 p1)), .val (.int (own_c1 p1)), .val (.int (own_c2 p1))] []))
    refine OGo.by_ (fun t k => XS.iloadN X0.here hx rfl (hb hby d_mk_34) rfl k) ?_
    show OGo p e below _ (s₁.setTop (mkF m 35 #[.val (.int p1), .val (.int (1 : Int32)), .val (.int (own_c0 p1)), .val (.int (own_c1 p1)), .val (.int (own_c2 p1))] [(.int (1 : Int32))]))
    refine OGo.by_ (fun t k => XS.ifYes X0.here hx rfl (pc0 := 35) (pc' := 49) rfl (hb hby d_mk_35) rfl ((if0 _ _).trans (feq (by decide)).2) (by decide) (by decide) k) ?_
    show OGo p e below _ (s₁.setTop (mkF m 49 #[.val (.int p1), .val (.int (1 : Int32)), .val (.int (own_c0 p1)), .val (.int (own_c1 p1)), .val (.int (own_c2 p1))] []))
    refine OGo.by_ (fun t k => XS.iloadN X0.here hx rfl (hb hby d_mk_49) rfl k) ?_
    show OGo p e below _ (s₁.setTop (mkF m 50 #[.val (.int p1), .val (.int (1 : Int32)), .val (.int (own_c0 p1)), .val (.int (own_c1 p1)), .val (.int (own_c2 p1))] [(.int (1 : Int32))]))
    refine OGo.by_ (fun t k => XS.iconst X0.here hx rfl (hb hby d_mk_50) k) ?_
    show OGo p e below _ (s₁.setTop (mkF m 51 #[.val (.int p1), .val (.int (1 : Int32)), .val (.int (own_c0 p1)), .val (.int (own_c1 p1)), .val (.int (own_c2 p1))] [(.int (1 : Int32)), (.int (1 : Int32))]))
    refine OGo.by_ (fun t k => XS.icmpNo X0.here hx rfl (hb hby d_mk_51) rfl (teq rfl).2 k) ?_
    show OGo p e below _ (s₁.setTop (mkF m 54 #[.val (.int p1), .val (.int (1 : Int32)), .val (.int (own_c0 p1)), .val (.int (own_c1 p1)), .val (.int (own_c2 p1))] []))
    obtain ⟨T4, h4, X4, e4, E4, A4, Dv4, -, st4⟩ := newO X0 hx hZ hown (hw _ (List.mem_of_getElem? (i := 7) rfl)) (hw _ (List.mem_of_getElem? (i := 8) rfl)) (hw _ (List.mem_of_getElem? (i := 9) rfl)) e0 (g := (mkF m 54 #[.val (.int p1), .val (.int (1 : Int32)), .val (.int (own_c0 p1)), .val (.int (own_c1 p1)), .val (.int (own_c2 p1))] [])) rfl (hb hby d_mk_54) (by decide) (by decide)
    obtain ⟨a, g_a⟩ : ∃ z, z = h0.size := ⟨_, rfl⟩
    rw [← g_a] at A4 Dv4 st4
    have A_a := A4
    have lt_a := own_lt A4.lt
    have F_value_a : Fld Z h4 a "java/lang/String" "value" "[B" .null := Dv4 (Or.inr (hw _ (List.mem_of_getElem? (i := 23) rfl))) (ty := (.array .byte)) (by decide)
    have F_coder_a : Fld Z h4 a "java/lang/String" "coder" "B" (.int (0 : Int32)) := Dv4 (Or.inr (hw _ (List.mem_of_getElem? (i := 24) rfl))) (ty := .byte) (by decide)
    have hk := Nat.le_trans hk E4.1
    have HR := HR.trans (CHr.ext E4 HR.1)
    refine OGo.by_ st4 ?_
    show OGo p e below _ (T4.setTop (mkF m 57 #[.val (.int p1), .val (.int (1 : Int32)), .val (.int (own_c0 p1)), .val (.int (own_c1 p1)), .val (.int (own_c2 p1))] [(.ref a)]))
    refine OGo.by_ (fun t k => XS.dup X4.here hx rfl (hb hby d_mk_57) rfl rfl k) ?_
    show OGo p e below _ (T4.setTop (mkF m 58 #[.val (.int p1), .val (.int (1 : Int32)), .val (.int (own_c0 p1)), .val (.int (own_c1 p1)), .val (.int (own_c2 p1))] [(.ref a), (.ref a)]))
    refine OGo.by_ (fun t k => XS.iconst X4.here hx rfl (hb hby d_mk_58) k) ?_
    show OGo p e below _ (T4.setTop (mkF m 59 #[.val (.int p1), .val (.int (1 : Int32)), .val (.int (own_c0 p1)), .val (.int (own_c1 p1)), .val (.int (own_c2 p1))] [(.int (1 : Int32)), (.ref a), (.ref a)]))
    obtain ⟨T5, h5, k5, X5, e5, E5, A5, st5⟩ := newP X4 hx hZ (hw _ (List.mem_of_getElem? (i := 10) rfl)) e4 (g := (mkF m 59 #[.val (.int p1), .val (.int (1 : Int32)), .val (.int (own_c0 p1)), .val (.int (own_c1 p1)), .val (.int (own_c2 p1))] [(.int (1 : Int32)), (.ref a), (.ref a)])) rfl (hb hby d_mk_59) rfl (by decide) (cap := 1) (by decide) (by decide) (by decide) (by decide)
    obtain ⟨c8, g_c8⟩ : ∃ z, z = h4.size := ⟨_, rfl⟩
    rw [← g_c8] at A5 st5
    have V_c8 := Arv.new A5 (by decide)
    have lt_c8 := own_lt V_c8.lt
    have hk := Nat.le_trans hk E5.1
    have HR := HR.trans (CHr.ext E5 HR.1)
    refine OGo.by_ st5 ?_
    show OGo p e below _ (T5.setTop (mkF m 61 #[.val (.int p1), .val (.int (1 : Int32)), .val (.int (own_c0 p1)), .val (.int (own_c1 p1)), .val (.int (own_c2 p1))] [(.ref c8), (.ref a), (.ref a)]))
    have Z1 : n0 ≤ h5.size := Nat.le_trans (Nat.le_trans Z0 E4.1) E5.1
    have ga : n0 ≤ a := by omega
    have A1 := A_a.ext E5
    have G0 := F_value_a.ext E5
    have G1 := F_coder_a.ext E5
    have hle := E4.1
    have gc : n0 ≤ c8 := by omega
    have hac : a ≠ c8 := own_ne (by omega)
    have K_0 : Keep h0 h5 [] := (own_ext_keep E4).ext E5
    have SC1 := Sta.ext E5 (Sta.ext E4 SC)
    have V0 : Arv Z h5 c8 k5 .char (1 : Int32) [(.int (0 : Int32))] (.int (0 : Int32)) := V_c8.pad (pad_rep [] _ 1)
    refine OGo.by_ (fun t k => XS.dup X5.here hx rfl (hb hby d_mk_61) rfl rfl k) ?_
    show OGo p e below _ (T5.setTop (mkF m 62 #[.val (.int p1), .val (.int (1 : Int32)), .val (.int (own_c0 p1)), .val (.int (own_c1 p1)), .val (.int (own_c2 p1))] [(.ref c8), (.ref c8), (.ref a), (.ref a)]))
    refine OGo.by_ (fun t k => XS.iconst X5.here hx rfl (hb hby d_mk_62) k) ?_
    show OGo p e below _ (T5.setTop (mkF m 63 #[.val (.int p1), .val (.int (1 : Int32)), .val (.int (own_c0 p1)), .val (.int (own_c1 p1)), .val (.int (own_c2 p1))] [(.int (0 : Int32)), (.ref c8), (.ref c8), (.ref a), (.ref a)]))
    refine OGo.by_ (fun t k => XS.iloadN X5.here hx rfl (hb hby d_mk_63) rfl k) ?_
    show OGo p e below _ (T5.setTop (mkF m 64 #[.val (.int p1), .val (.int (1 : Int32)), .val (.int (own_c0 p1)), .val (.int (own_c1 p1)), .val (.int (own_c2 p1))] [(.int (own_c0 p1)), (.int (0 : Int32)), (.ref c8), (.ref c8), (.ref a), (.ref a)]))
    obtain ⟨cl6, Ar6, q6, S6, Nn6, H6, G6⟩ := id V0
    obtain ⟨T7, h7, X7, e7, W7, st7⟩ := stC X5 hx hZ e5 Ar6 (j := (0 : Int32)) (inb_of S6 ⟨(by decide : ¬ (0 : Int32) < 0), (by decide : (0 : Int32) < (1 : Int32))⟩) (g := (mkF m 64 #[.val (.int p1), .val (.int (1 : Int32)), .val (.int (own_c0 p1)), .val (.int (own_c1 p1)), .val (.int (own_c2 p1))] [(.int (own_c0 p1)), (.int (0 : Int32)), (.ref c8), (.ref c8), (.ref a), (.ref a)])) rfl rfl (hb hby d_mk_64)
    refine OGo.by_ st7 ?_
    show OGo p e below _ (T7.setTop (mkF m 65 #[.val (.int p1), .val (.int (1 : Int32)), .val (.int (own_c0 p1)), .val (.int (own_c1 p1)), .val (.int (own_c2 p1))] [(.ref c8), (.ref a), (.ref a)]))
    have N7 := Fr.snoc X7 N0 gc
    have hk := Nat.le_trans hk (Nat.le_of_eq W7.size.symm)
    have HS7 := Safe.arr (EL := own_EL) hZ.alike Ar6 (by decide)
    have HP7 := HR.1
    have HR := HR.trans (CHr.wr W7 HS7 HR.1)
    rw [own_nc0] at W7
    have U1 := Arv.set Ar6 q6 S6 Nn6 H6 G6 (by rw [← own_nc0]; exact fits_nar_char _) W7 0 (by decide) (Nat.le_of_ble_eq_true rfl)
    have A_7 := A1.wr W7
    have Ga_7 := G0.other W7 (Or.inl hac)
    have Gb_7 := G1.other W7 (Or.inl hac)
    have K_7 := Keep.wr K_0 W7 (Or.inr (by omega))
    have S_7 := Sta.wr W7 SC1
    have Z_7 : n0 ≤ h7.size := by rw [W7.size]; exact Z1
    have Vq : Arv Z h7 c8 k5 .char (1 : Int32) [(.int (own_c0 p1))] (.int (0 : Int32)) := U1
    obtain ⟨_, _, ⟨T8, L8, k8, n8⟩, -, X8, ⟨Lc8, hQ8, l8, y8, z8⟩, st8⟩ := X7.specialBack hx (y := (⟨"java/lang/String", "<init>", "([C)V"⟩ : MethodName)) rfl hown (mvT hZ (hw _ (List.mem_of_getElem? (i := 11) rfl))) (mvT hZ (hw _ (List.mem_of_getElem? (i := 12) rfl))) (mvT hZ (hw _ (List.mem_of_getElem? (i := 13) rfl))) (by decide) (backOf (W := 1) (rm_sc1 l Z a0 hw [] a c8 k5 cs (own_c0 p1) h7 n0 Z_7 A_7 Ga_7 Gb_7 ga S_7 hcs Vq (own_mch _)) hZ (hw _ (List.mem_of_getElem? (i := 13) rfl)) (hw _ (List.mem_of_getElem? (i := 9) rfl)) (by decide) (by decide)) (g := (mkF m 65 #[.val (.int p1), .val (.int (1 : Int32)), .val (.int (own_c0 p1)), .val (.int (own_c1 p1)), .val (.int (own_c2 p1))] [(.ref c8), (.ref a), (.ref a)])) rfl (by rw [hml]; rfl) (Steps.refl _) (a := a) (argsL := [(.ref c8)]) (rest := [(.ref a)]) (lenOf pd_oACcV rfl) rfl (by show 2 * 0 + _ ≤ _; exact Nat.le_of_eq rfl) (hb hby d_mk_65) (fun _ _ => ⟨rfl, e7, (by decide : 2 + 1 ≤ _), (by decide : 5 + 3 ≤ _)⟩)
    dsimp only [Pt.U, Pt.locs, Pt.cells, Pt.slots] at X8 l8 y8 z8 st8 hQ8
    subst l8 y8 z8
    obtain ⟨rfl, Nq8, K8, b, S8⟩ := hQ8
    have N8 := Fr.app N7 Nq8
    refine OGo.by_ (fun t k => st8.trans k) ?_
    show OGo p e below _ (T8.setTop (mkF m 68 #[.val (.int p1), .val (.int (1 : Int32)), .val (.int (own_c0 p1)), .val (.int (own_c1 p1)), .val (.int (own_c2 p1))] [(.ref a)]))
    have hk := Nat.le_trans hk K8.1
    have HR := HR.trans (CHr.keep K8 (allS (own_safe (EL := own_EL) hZ.alike A_7 Ga_7) all0) HR.1)
    have KK := Keep.trans K_7 K8 (allS (Or.inr (by omega)) all0)
    have Sx := S8
    exact own_hretA X8 hS (show _ ≤ T8.heap.size by rw [show T8.heap = T8.heap from rfl]; exact hk) (by rw [show T8.heap = T8.heap from rfl]; show CHr Z own_EL s.vm s.heap T8.vm _; rw [hh]; exact HR.trans (CHv.at X8 hZ (own_ew hw) HR.1)) hx hlk hret rfl rfl (hb hby d_mk_68) (by decide) (by decide) (⟨congrArg (fun z => some (Value.ref z)) g_a, N8, KK, b, (1 : Int32), by simp only [own_xs, hq]; first | exact g_a ▸ Sx | (simp; exact g_a ▸ Sx)⟩)
  · rw [hq]
    show OGo p e below _ (s₁.setTop (mkF m 34 #[.val (.int p1), .val (.int (2 : Int32)), .val (.int (own_c0 p1)), .val (.int (own_c1 p1)), .val (.int (own_c2 p1))] []))
    refine OGo.by_ (fun t k => XS.iloadN X0.here hx rfl (hb hby d_mk_34) rfl k) ?_
    show OGo p e below _ (s₁.setTop (mkF m 35 #[.val (.int p1), .val (.int (2 : Int32)), .val (.int (own_c0 p1)), .val (.int (own_c1 p1)), .val (.int (own_c2 p1))] [(.int (2 : Int32))]))
    refine OGo.by_ (fun t k => XS.ifYes X0.here hx rfl (pc0 := 35) (pc' := 49) rfl (hb hby d_mk_35) rfl ((if0 _ _).trans (feq (by decide)).2) (by decide) (by decide) k) ?_
    show OGo p e below _ (s₁.setTop (mkF m 49 #[.val (.int p1), .val (.int (2 : Int32)), .val (.int (own_c0 p1)), .val (.int (own_c1 p1)), .val (.int (own_c2 p1))] []))
    refine OGo.by_ (fun t k => XS.iloadN X0.here hx rfl (hb hby d_mk_49) rfl k) ?_
    show OGo p e below _ (s₁.setTop (mkF m 50 #[.val (.int p1), .val (.int (2 : Int32)), .val (.int (own_c0 p1)), .val (.int (own_c1 p1)), .val (.int (own_c2 p1))] [(.int (2 : Int32))]))
    refine OGo.by_ (fun t k => XS.iconst X0.here hx rfl (hb hby d_mk_50) k) ?_
    show OGo p e below _ (s₁.setTop (mkF m 51 #[.val (.int p1), .val (.int (2 : Int32)), .val (.int (own_c0 p1)), .val (.int (own_c1 p1)), .val (.int (own_c2 p1))] [(.int (1 : Int32)), (.int (2 : Int32))]))
    refine OGo.by_ (fun t k => XS.icmpYes X0.here hx rfl (pc0 := 51) (pc' := 69) rfl (hb hby d_mk_51) rfl (feq (by decide)).2 (by decide) (by decide) k) ?_
    show OGo p e below _ (s₁.setTop (mkF m 69 #[.val (.int p1), .val (.int (2 : Int32)), .val (.int (own_c0 p1)), .val (.int (own_c1 p1)), .val (.int (own_c2 p1))] []))
    refine OGo.by_ (fun t k => XS.iloadN X0.here hx rfl (hb hby d_mk_69) rfl k) ?_
    show OGo p e below _ (s₁.setTop (mkF m 70 #[.val (.int p1), .val (.int (2 : Int32)), .val (.int (own_c0 p1)), .val (.int (own_c1 p1)), .val (.int (own_c2 p1))] [(.int (2 : Int32))]))
    refine OGo.by_ (fun t k => XS.iconst X0.here hx rfl (hb hby d_mk_70) k) ?_
    show OGo p e below _ (s₁.setTop (mkF m 71 #[.val (.int p1), .val (.int (2 : Int32)), .val (.int (own_c0 p1)), .val (.int (own_c1 p1)), .val (.int (own_c2 p1))] [(.int (2 : Int32)), (.int (2 : Int32))]))
    refine OGo.by_ (fun t k => XS.icmpNo X0.here hx rfl (hb hby d_mk_71) rfl (teq rfl).2 k) ?_
    show OGo p e below _ (s₁.setTop (mkF m 74 #[.val (.int p1), .val (.int (2 : Int32)), .val (.int (own_c0 p1)), .val (.int (own_c1 p1)), .val (.int (own_c2 p1))] []))
    obtain ⟨T9, h9, X9, e9, E9, A9, Dv9, -, st9⟩ := newO X0 hx hZ hown (hw _ (List.mem_of_getElem? (i := 7) rfl)) (hw _ (List.mem_of_getElem? (i := 8) rfl)) (hw _ (List.mem_of_getElem? (i := 9) rfl)) e0 (g := (mkF m 74 #[.val (.int p1), .val (.int (2 : Int32)), .val (.int (own_c0 p1)), .val (.int (own_c1 p1)), .val (.int (own_c2 p1))] [])) rfl (hb hby d_mk_74) (by decide) (by decide)
    obtain ⟨a, g_a⟩ : ∃ z, z = h0.size := ⟨_, rfl⟩
    rw [← g_a] at A9 Dv9 st9
    have A_a := A9
    have lt_a := own_lt A9.lt
    have F_value_a : Fld Z h9 a "java/lang/String" "value" "[B" .null := Dv9 (Or.inr (hw _ (List.mem_of_getElem? (i := 23) rfl))) (ty := (.array .byte)) (by decide)
    have F_coder_a : Fld Z h9 a "java/lang/String" "coder" "B" (.int (0 : Int32)) := Dv9 (Or.inr (hw _ (List.mem_of_getElem? (i := 24) rfl))) (ty := .byte) (by decide)
    have hk := Nat.le_trans hk E9.1
    have HR := HR.trans (CHr.ext E9 HR.1)
    refine OGo.by_ st9 ?_
    show OGo p e below _ (T9.setTop (mkF m 77 #[.val (.int p1), .val (.int (2 : Int32)), .val (.int (own_c0 p1)), .val (.int (own_c1 p1)), .val (.int (own_c2 p1))] [(.ref a)]))
    refine OGo.by_ (fun t k => XS.dup X9.here hx rfl (hb hby d_mk_77) rfl rfl k) ?_
    show OGo p e below _ (T9.setTop (mkF m 78 #[.val (.int p1), .val (.int (2 : Int32)), .val (.int (own_c0 p1)), .val (.int (own_c1 p1)), .val (.int (own_c2 p1))] [(.ref a), (.ref a)]))
    refine OGo.by_ (fun t k => XS.iconst X9.here hx rfl (hb hby d_mk_78) k) ?_
    show OGo p e below _ (T9.setTop (mkF m 79 #[.val (.int p1), .val (.int (2 : Int32)), .val (.int (own_c0 p1)), .val (.int (own_c1 p1)), .val (.int (own_c2 p1))] [(.int (2 : Int32)), (.ref a), (.ref a)]))
    obtain ⟨T10, h10, k10, X10, e10, E10, A10, st10⟩ := newP X9 hx hZ (hw _ (List.mem_of_getElem? (i := 10) rfl)) e9 (g := (mkF m 79 #[.val (.int p1), .val (.int (2 : Int32)), .val (.int (own_c0 p1)), .val (.int (own_c1 p1)), .val (.int (own_c2 p1))] [(.int (2 : Int32)), (.ref a), (.ref a)])) rfl (hb hby d_mk_79) rfl (by decide) (cap := 2) (by decide) (by decide) (by decide) (by decide)
    obtain ⟨c8, g_c8⟩ : ∃ z, z = h9.size := ⟨_, rfl⟩
    rw [← g_c8] at A10 st10
    have V_c8 := Arv.new A10 (by decide)
    have lt_c8 := own_lt V_c8.lt
    have hk := Nat.le_trans hk E10.1
    have HR := HR.trans (CHr.ext E10 HR.1)
    refine OGo.by_ st10 ?_
    show OGo p e below _ (T10.setTop (mkF m 81 #[.val (.int p1), .val (.int (2 : Int32)), .val (.int (own_c0 p1)), .val (.int (own_c1 p1)), .val (.int (own_c2 p1))] [(.ref c8), (.ref a), (.ref a)]))
    have Z1 : n0 ≤ h10.size := Nat.le_trans (Nat.le_trans Z0 E9.1) E10.1
    have ga : n0 ≤ a := by omega
    have A1 := A_a.ext E10
    have G0 := F_value_a.ext E10
    have G1 := F_coder_a.ext E10
    have hle := E9.1
    have gc : n0 ≤ c8 := by omega
    have hac : a ≠ c8 := own_ne (by omega)
    have K_0 : Keep h0 h10 [] := (own_ext_keep E9).ext E10
    have SC1 := Sta.ext E10 (Sta.ext E9 SC)
    have V0 : Arv Z h10 c8 k10 .char (2 : Int32) [(.int (0 : Int32)), (.int (0 : Int32))] (.int (0 : Int32)) := V_c8.pad (pad_rep [] _ 2)
    refine OGo.by_ (fun t k => XS.dup X10.here hx rfl (hb hby d_mk_81) rfl rfl k) ?_
    show OGo p e below _ (T10.setTop (mkF m 82 #[.val (.int p1), .val (.int (2 : Int32)), .val (.int (own_c0 p1)), .val (.int (own_c1 p1)), .val (.int (own_c2 p1))] [(.ref c8), (.ref c8), (.ref a), (.ref a)]))
    refine OGo.by_ (fun t k => XS.iconst X10.here hx rfl (hb hby d_mk_82) k) ?_
    show OGo p e below _ (T10.setTop (mkF m 83 #[.val (.int p1), .val (.int (2 : Int32)), .val (.int (own_c0 p1)), .val (.int (own_c1 p1)), .val (.int (own_c2 p1))] [(.int (0 : Int32)), (.ref c8), (.ref c8), (.ref a), (.ref a)]))
    refine OGo.by_ (fun t k => XS.iloadN X10.here hx rfl (hb hby d_mk_83) rfl k) ?_
    show OGo p e below _ (T10.setTop (mkF m 84 #[.val (.int p1), .val (.int (2 : Int32)), .val (.int (own_c0 p1)), .val (.int (own_c1 p1)), .val (.int (own_c2 p1))] [(.int (own_c0 p1)), (.int (0 : Int32)), (.ref c8), (.ref c8), (.ref a), (.ref a)]))
    obtain ⟨cl11, Ar11, q11, S11, Nn11, H11, G11⟩ := id V0
    obtain ⟨T12, h12, X12, e12, W12, st12⟩ := stC X10 hx hZ e10 Ar11 (j := (0 : Int32)) (inb_of S11 ⟨(by decide : ¬ (0 : Int32) < 0), (by decide : (0 : Int32) < (2 : Int32))⟩) (g := (mkF m 84 #[.val (.int p1), .val (.int (2 : Int32)), .val (.int (own_c0 p1)), .val (.int (own_c1 p1)), .val (.int (own_c2 p1))] [(.int (own_c0 p1)), (.int (0 : Int32)), (.ref c8), (.ref c8), (.ref a), (.ref a)])) rfl rfl (hb hby d_mk_84)
    refine OGo.by_ st12 ?_
    show OGo p e below _ (T12.setTop (mkF m 85 #[.val (.int p1), .val (.int (2 : Int32)), .val (.int (own_c0 p1)), .val (.int (own_c1 p1)), .val (.int (own_c2 p1))] [(.ref c8), (.ref a), (.ref a)]))
    have N12 := Fr.snoc X12 N0 gc
    have hk := Nat.le_trans hk (Nat.le_of_eq W12.size.symm)
    have HS12 := Safe.arr (EL := own_EL) hZ.alike Ar11 (by decide)
    have HP12 := HR.1
    have HR := HR.trans (CHr.wr W12 HS12 HR.1)
    rw [own_nc0] at W12
    have U1 := Arv.set Ar11 q11 S11 Nn11 H11 G11 (by rw [← own_nc0]; exact fits_nar_char _) W12 0 (by decide) (Nat.le_of_ble_eq_true rfl)
    have A_12 := A1.wr W12
    have Ga_12 := G0.other W12 (Or.inl hac)
    have Gb_12 := G1.other W12 (Or.inl hac)
    have K_12 := Keep.wr K_0 W12 (Or.inr (by omega))
    have S_12 := Sta.wr W12 SC1
    have Z_12 : n0 ≤ h12.size := by rw [W12.size]; exact Z1
    refine OGo.by_ (fun t k => XS.dup X12.here hx rfl (hb hby d_mk_85) rfl rfl k) ?_
    show OGo p e below _ (T12.setTop (mkF m 86 #[.val (.int p1), .val (.int (2 : Int32)), .val (.int (own_c0 p1)), .val (.int (own_c1 p1)), .val (.int (own_c2 p1))] [(.ref c8), (.ref c8), (.ref a), (.ref a)]))
    refine OGo.by_ (fun t k => XS.iconst X12.here hx rfl (hb hby d_mk_86) k) ?_
    show OGo p e below _ (T12.setTop (mkF m 87 #[.val (.int p1), .val (.int (2 : Int32)), .val (.int (own_c0 p1)), .val (.int (own_c1 p1)), .val (.int (own_c2 p1))] [(.int (1 : Int32)), (.ref c8), (.ref c8), (.ref a), (.ref a)]))
    refine OGo.by_ (fun t k => XS.iloadN X12.here hx rfl (hb hby d_mk_87) rfl k) ?_
    show OGo p e below _ (T12.setTop (mkF m 88 #[.val (.int p1), .val (.int (2 : Int32)), .val (.int (own_c0 p1)), .val (.int (own_c1 p1)), .val (.int (own_c2 p1))] [(.int (own_c1 p1)), (.int (1 : Int32)), (.ref c8), (.ref c8), (.ref a), (.ref a)]))
    obtain ⟨cl13, Ar13, q13, S13, Nn13, H13, G13⟩ := id U1
    obtain ⟨T14, h14, X14, e14, W14, st14⟩ := stC X12 hx hZ e12 Ar13 (j := (1 : Int32)) (inb_of S13 ⟨(by decide : ¬ (1 : Int32) < 0), (by decide : (1 : Int32) < (2 : Int32))⟩) (g := (mkF m 88 #[.val (.int p1), .val (.int (2 : Int32)), .val (.int (own_c0 p1)), .val (.int (own_c1 p1)), .val (.int (own_c2 p1))] [(.int (own_c1 p1)), (.int (1 : Int32)), (.ref c8), (.ref c8), (.ref a), (.ref a)])) rfl rfl (hb hby d_mk_88)
    refine OGo.by_ st14 ?_
    show OGo p e below _ (T14.setTop (mkF m 89 #[.val (.int p1), .val (.int (2 : Int32)), .val (.int (own_c0 p1)), .val (.int (own_c1 p1)), .val (.int (own_c2 p1))] [(.ref c8), (.ref a), (.ref a)]))
    have N14 := Fr.snoc X14 N12 gc
    have hk := Nat.le_trans hk (Nat.le_of_eq W14.size.symm)
    have HS14 := Safe.arr (EL := own_EL) hZ.alike Ar13 (by decide)
    have HP14 := HR.1
    have HR := HR.trans (CHr.wr W14 HS14 HR.1)
    rw [own_nc1] at W14
    have U2 := Arv.set Ar13 q13 S13 Nn13 H13 G13 (by rw [← own_nc1]; exact fits_nar_char _) W14 1 (by decide) (Nat.le_of_ble_eq_true rfl)
    have A_14 := A_12.wr W14
    have Ga_14 := Ga_12.other W14 (Or.inl hac)
    have Gb_14 := Gb_12.other W14 (Or.inl hac)
    have K_14 := Keep.wr K_12 W14 (Or.inr (by omega))
    have S_14 := Sta.wr W14 S_12
    have Z_14 : n0 ≤ h14.size := by rw [W14.size]; exact Z_12
    have Vq : Arv Z h14 c8 k10 .char (2 : Int32) [(.int (own_c0 p1)), (.int (own_c1 p1))] (.int (0 : Int32)) := U2
    obtain ⟨_, _, ⟨T15, L15, k15, n15⟩, -, X15, ⟨Lc15, hQ15, l15, y15, z15⟩, st15⟩ := X14.specialBack hx (y := (⟨"java/lang/String", "<init>", "([C)V"⟩ : MethodName)) rfl hown (mvT hZ (hw _ (List.mem_of_getElem? (i := 11) rfl))) (mvT hZ (hw _ (List.mem_of_getElem? (i := 12) rfl))) (mvT hZ (hw _ (List.mem_of_getElem? (i := 13) rfl))) (by decide) (backOf (W := 1) (rm_sc2 l Z a0 hw [] a c8 k10 cs (own_c0 p1) (own_c1 p1) h14 n0 Z_14 A_14 Ga_14 Gb_14 ga S_14 hcs Vq (own_mch _) (own_mch _)) hZ (hw _ (List.mem_of_getElem? (i := 13) rfl)) (hw _ (List.mem_of_getElem? (i := 9) rfl)) (by decide) (by decide)) (g := (mkF m 89 #[.val (.int p1), .val (.int (2 : Int32)), .val (.int (own_c0 p1)), .val (.int (own_c1 p1)), .val (.int (own_c2 p1))] [(.ref c8), (.ref a), (.ref a)])) rfl (by rw [hml]; rfl) (Steps.refl _) (a := a) (argsL := [(.ref c8)]) (rest := [(.ref a)]) (lenOf pd_oACcV rfl) rfl (by show 2 * 0 + _ ≤ _; exact Nat.le_of_eq rfl) (hb hby d_mk_89) (fun _ _ => ⟨rfl, e14, (by decide : 2 + 1 ≤ _), (by decide : 6 + 3 ≤ _)⟩)
    dsimp only [Pt.U, Pt.locs, Pt.cells, Pt.slots] at X15 l15 y15 z15 st15 hQ15
    subst l15 y15 z15
    obtain ⟨rfl, Nq15, K15, b, S15⟩ := hQ15
    have N15 := Fr.app N14 Nq15
    refine OGo.by_ (fun t k => st15.trans k) ?_
    show OGo p e below _ (T15.setTop (mkF m 92 #[.val (.int p1), .val (.int (2 : Int32)), .val (.int (own_c0 p1)), .val (.int (own_c1 p1)), .val (.int (own_c2 p1))] [(.ref a)]))
    have hk := Nat.le_trans hk K15.1
    have HR := HR.trans (CHr.keep K15 (allS (own_safe (EL := own_EL) hZ.alike A_14 Ga_14) all0) HR.1)
    have KK := Keep.trans K_14 K15 (allS (Or.inr (by omega)) all0)
    have Sx := S15
    exact own_hretA X15 hS (show _ ≤ T15.heap.size by rw [show T15.heap = T15.heap from rfl]; exact hk) (by rw [show T15.heap = T15.heap from rfl]; show CHr Z own_EL s.vm s.heap T15.vm _; rw [hh]; exact HR.trans (CHv.at X15 hZ (own_ew hw) HR.1)) hx hlk hret rfl rfl (hb hby d_mk_92) (by decide) (by decide) (⟨congrArg (fun z => some (Value.ref z)) g_a, N15, KK, b, (2 : Int32), by simp only [own_xs, hq]; first | exact g_a ▸ Sx | (simp; exact g_a ▸ Sx)⟩)
  · rw [hq]
    show OGo p e below _ (s₁.setTop (mkF m 34 #[.val (.int p1), .val (.int (3 : Int32)), .val (.int (own_c0 p1)), .val (.int (own_c1 p1)), .val (.int (own_c2 p1))] []))
    refine OGo.by_ (fun t k => XS.iloadN X0.here hx rfl (hb hby d_mk_34) rfl k) ?_
    show OGo p e below _ (s₁.setTop (mkF m 35 #[.val (.int p1), .val (.int (3 : Int32)), .val (.int (own_c0 p1)), .val (.int (own_c1 p1)), .val (.int (own_c2 p1))] [(.int (3 : Int32))]))
    refine OGo.by_ (fun t k => XS.ifYes X0.here hx rfl (pc0 := 35) (pc' := 49) rfl (hb hby d_mk_35) rfl ((if0 _ _).trans (feq (by decide)).2) (by decide) (by decide) k) ?_
    show OGo p e below _ (s₁.setTop (mkF m 49 #[.val (.int p1), .val (.int (3 : Int32)), .val (.int (own_c0 p1)), .val (.int (own_c1 p1)), .val (.int (own_c2 p1))] []))
    refine OGo.by_ (fun t k => XS.iloadN X0.here hx rfl (hb hby d_mk_49) rfl k) ?_
    show OGo p e below _ (s₁.setTop (mkF m 50 #[.val (.int p1), .val (.int (3 : Int32)), .val (.int (own_c0 p1)), .val (.int (own_c1 p1)), .val (.int (own_c2 p1))] [(.int (3 : Int32))]))
    refine OGo.by_ (fun t k => XS.iconst X0.here hx rfl (hb hby d_mk_50) k) ?_
    show OGo p e below _ (s₁.setTop (mkF m 51 #[.val (.int p1), .val (.int (3 : Int32)), .val (.int (own_c0 p1)), .val (.int (own_c1 p1)), .val (.int (own_c2 p1))] [(.int (1 : Int32)), (.int (3 : Int32))]))
    refine OGo.by_ (fun t k => XS.icmpYes X0.here hx rfl (pc0 := 51) (pc' := 69) rfl (hb hby d_mk_51) rfl (feq (by decide)).2 (by decide) (by decide) k) ?_
    show OGo p e below _ (s₁.setTop (mkF m 69 #[.val (.int p1), .val (.int (3 : Int32)), .val (.int (own_c0 p1)), .val (.int (own_c1 p1)), .val (.int (own_c2 p1))] []))
    refine OGo.by_ (fun t k => XS.iloadN X0.here hx rfl (hb hby d_mk_69) rfl k) ?_
    show OGo p e below _ (s₁.setTop (mkF m 70 #[.val (.int p1), .val (.int (3 : Int32)), .val (.int (own_c0 p1)), .val (.int (own_c1 p1)), .val (.int (own_c2 p1))] [(.int (3 : Int32))]))
    refine OGo.by_ (fun t k => XS.iconst X0.here hx rfl (hb hby d_mk_70) k) ?_
    show OGo p e below _ (s₁.setTop (mkF m 71 #[.val (.int p1), .val (.int (3 : Int32)), .val (.int (own_c0 p1)), .val (.int (own_c1 p1)), .val (.int (own_c2 p1))] [(.int (2 : Int32)), (.int (3 : Int32))]))
    refine OGo.by_ (fun t k => XS.icmpYes X0.here hx rfl (pc0 := 71) (pc' := 93) rfl (hb hby d_mk_71) rfl (feq (by decide)).2 (by decide) (by decide) k) ?_
    show OGo p e below _ (s₁.setTop (mkF m 93 #[.val (.int p1), .val (.int (3 : Int32)), .val (.int (own_c0 p1)), .val (.int (own_c1 p1)), .val (.int (own_c2 p1))] []))
    obtain ⟨T16, h16, X16, e16, E16, A16, Dv16, -, st16⟩ := newO X0 hx hZ hown (hw _ (List.mem_of_getElem? (i := 7) rfl)) (hw _ (List.mem_of_getElem? (i := 8) rfl)) (hw _ (List.mem_of_getElem? (i := 9) rfl)) e0 (g := (mkF m 93 #[.val (.int p1), .val (.int (3 : Int32)), .val (.int (own_c0 p1)), .val (.int (own_c1 p1)), .val (.int (own_c2 p1))] [])) rfl (hb hby d_mk_93) (by decide) (by decide)
    obtain ⟨a, g_a⟩ : ∃ z, z = h0.size := ⟨_, rfl⟩
    rw [← g_a] at A16 Dv16 st16
    have A_a := A16
    have lt_a := own_lt A16.lt
    have F_value_a : Fld Z h16 a "java/lang/String" "value" "[B" .null := Dv16 (Or.inr (hw _ (List.mem_of_getElem? (i := 23) rfl))) (ty := (.array .byte)) (by decide)
    have F_coder_a : Fld Z h16 a "java/lang/String" "coder" "B" (.int (0 : Int32)) := Dv16 (Or.inr (hw _ (List.mem_of_getElem? (i := 24) rfl))) (ty := .byte) (by decide)
    have hk := Nat.le_trans hk E16.1
    have HR := HR.trans (CHr.ext E16 HR.1)
    refine OGo.by_ st16 ?_
    show OGo p e below _ (T16.setTop (mkF m 96 #[.val (.int p1), .val (.int (3 : Int32)), .val (.int (own_c0 p1)), .val (.int (own_c1 p1)), .val (.int (own_c2 p1))] [(.ref a)]))
    refine OGo.by_ (fun t k => XS.dup X16.here hx rfl (hb hby d_mk_96) rfl rfl k) ?_
    show OGo p e below _ (T16.setTop (mkF m 97 #[.val (.int p1), .val (.int (3 : Int32)), .val (.int (own_c0 p1)), .val (.int (own_c1 p1)), .val (.int (own_c2 p1))] [(.ref a), (.ref a)]))
    refine OGo.by_ (fun t k => XS.iconst X16.here hx rfl (hb hby d_mk_97) k) ?_
    show OGo p e below _ (T16.setTop (mkF m 98 #[.val (.int p1), .val (.int (3 : Int32)), .val (.int (own_c0 p1)), .val (.int (own_c1 p1)), .val (.int (own_c2 p1))] [(.int (3 : Int32)), (.ref a), (.ref a)]))
    obtain ⟨T17, h17, k17, X17, e17, E17, A17, st17⟩ := newP X16 hx hZ (hw _ (List.mem_of_getElem? (i := 10) rfl)) e16 (g := (mkF m 98 #[.val (.int p1), .val (.int (3 : Int32)), .val (.int (own_c0 p1)), .val (.int (own_c1 p1)), .val (.int (own_c2 p1))] [(.int (3 : Int32)), (.ref a), (.ref a)])) rfl (hb hby d_mk_98) rfl (by decide) (cap := 3) (by decide) (by decide) (by decide) (by decide)
    obtain ⟨c8, g_c8⟩ : ∃ z, z = h16.size := ⟨_, rfl⟩
    rw [← g_c8] at A17 st17
    have V_c8 := Arv.new A17 (by decide)
    have lt_c8 := own_lt V_c8.lt
    have hk := Nat.le_trans hk E17.1
    have HR := HR.trans (CHr.ext E17 HR.1)
    refine OGo.by_ st17 ?_
    show OGo p e below _ (T17.setTop (mkF m 100 #[.val (.int p1), .val (.int (3 : Int32)), .val (.int (own_c0 p1)), .val (.int (own_c1 p1)), .val (.int (own_c2 p1))] [(.ref c8), (.ref a), (.ref a)]))
    have Z1 : n0 ≤ h17.size := Nat.le_trans (Nat.le_trans Z0 E16.1) E17.1
    have ga : n0 ≤ a := by omega
    have A1 := A_a.ext E17
    have G0 := F_value_a.ext E17
    have G1 := F_coder_a.ext E17
    have hle := E16.1
    have gc : n0 ≤ c8 := by omega
    have hac : a ≠ c8 := own_ne (by omega)
    have K_0 : Keep h0 h17 [] := (own_ext_keep E16).ext E17
    have SC1 := Sta.ext E17 (Sta.ext E16 SC)
    have V0 : Arv Z h17 c8 k17 .char (3 : Int32) [(.int (0 : Int32)), (.int (0 : Int32)), (.int (0 : Int32))] (.int (0 : Int32)) := V_c8.pad (pad_rep [] _ 3)
    refine OGo.by_ (fun t k => XS.dup X17.here hx rfl (hb hby d_mk_100) rfl rfl k) ?_
    show OGo p e below _ (T17.setTop (mkF m 101 #[.val (.int p1), .val (.int (3 : Int32)), .val (.int (own_c0 p1)), .val (.int (own_c1 p1)), .val (.int (own_c2 p1))] [(.ref c8), (.ref c8), (.ref a), (.ref a)]))
    refine OGo.by_ (fun t k => XS.iconst X17.here hx rfl (hb hby d_mk_101) k) ?_
    show OGo p e below _ (T17.setTop (mkF m 102 #[.val (.int p1), .val (.int (3 : Int32)), .val (.int (own_c0 p1)), .val (.int (own_c1 p1)), .val (.int (own_c2 p1))] [(.int (0 : Int32)), (.ref c8), (.ref c8), (.ref a), (.ref a)]))
    refine OGo.by_ (fun t k => XS.iloadN X17.here hx rfl (hb hby d_mk_102) rfl k) ?_
    show OGo p e below _ (T17.setTop (mkF m 103 #[.val (.int p1), .val (.int (3 : Int32)), .val (.int (own_c0 p1)), .val (.int (own_c1 p1)), .val (.int (own_c2 p1))] [(.int (own_c0 p1)), (.int (0 : Int32)), (.ref c8), (.ref c8), (.ref a), (.ref a)]))
    obtain ⟨cl18, Ar18, q18, S18, Nn18, H18, G18⟩ := id V0
    obtain ⟨T19, h19, X19, e19, W19, st19⟩ := stC X17 hx hZ e17 Ar18 (j := (0 : Int32)) (inb_of S18 ⟨(by decide : ¬ (0 : Int32) < 0), (by decide : (0 : Int32) < (3 : Int32))⟩) (g := (mkF m 103 #[.val (.int p1), .val (.int (3 : Int32)), .val (.int (own_c0 p1)), .val (.int (own_c1 p1)), .val (.int (own_c2 p1))] [(.int (own_c0 p1)), (.int (0 : Int32)), (.ref c8), (.ref c8), (.ref a), (.ref a)])) rfl rfl (hb hby d_mk_103)
    refine OGo.by_ st19 ?_
    show OGo p e below _ (T19.setTop (mkF m 104 #[.val (.int p1), .val (.int (3 : Int32)), .val (.int (own_c0 p1)), .val (.int (own_c1 p1)), .val (.int (own_c2 p1))] [(.ref c8), (.ref a), (.ref a)]))
    have N19 := Fr.snoc X19 N0 gc
    have hk := Nat.le_trans hk (Nat.le_of_eq W19.size.symm)
    have HS19 := Safe.arr (EL := own_EL) hZ.alike Ar18 (by decide)
    have HP19 := HR.1
    have HR := HR.trans (CHr.wr W19 HS19 HR.1)
    rw [own_nc0] at W19
    have U1 := Arv.set Ar18 q18 S18 Nn18 H18 G18 (by rw [← own_nc0]; exact fits_nar_char _) W19 0 (by decide) (Nat.le_of_ble_eq_true rfl)
    have A_19 := A1.wr W19
    have Ga_19 := G0.other W19 (Or.inl hac)
    have Gb_19 := G1.other W19 (Or.inl hac)
    have K_19 := Keep.wr K_0 W19 (Or.inr (by omega))
    have S_19 := Sta.wr W19 SC1
    have Z_19 : n0 ≤ h19.size := by rw [W19.size]; exact Z1
    refine OGo.by_ (fun t k => XS.dup X19.here hx rfl (hb hby d_mk_104) rfl rfl k) ?_
    show OGo p e below _ (T19.setTop (mkF m 105 #[.val (.int p1), .val (.int (3 : Int32)), .val (.int (own_c0 p1)), .val (.int (own_c1 p1)), .val (.int (own_c2 p1))] [(.ref c8), (.ref c8), (.ref a), (.ref a)]))
    refine OGo.by_ (fun t k => XS.iconst X19.here hx rfl (hb hby d_mk_105) k) ?_
    show OGo p e below _ (T19.setTop (mkF m 106 #[.val (.int p1), .val (.int (3 : Int32)), .val (.int (own_c0 p1)), .val (.int (own_c1 p1)), .val (.int (own_c2 p1))] [(.int (1 : Int32)), (.ref c8), (.ref c8), (.ref a), (.ref a)]))
    refine OGo.by_ (fun t k => XS.iloadN X19.here hx rfl (hb hby d_mk_106) rfl k) ?_
    show OGo p e below _ (T19.setTop (mkF m 107 #[.val (.int p1), .val (.int (3 : Int32)), .val (.int (own_c0 p1)), .val (.int (own_c1 p1)), .val (.int (own_c2 p1))] [(.int (own_c1 p1)), (.int (1 : Int32)), (.ref c8), (.ref c8), (.ref a), (.ref a)]))
    obtain ⟨cl20, Ar20, q20, S20, Nn20, H20, G20⟩ := id U1
    obtain ⟨T21, h21, X21, e21, W21, st21⟩ := stC X19 hx hZ e19 Ar20 (j := (1 : Int32)) (inb_of S20 ⟨(by decide : ¬ (1 : Int32) < 0), (by decide : (1 : Int32) < (3 : Int32))⟩) (g := (mkF m 107 #[.val (.int p1), .val (.int (3 : Int32)), .val (.int (own_c0 p1)), .val (.int (own_c1 p1)), .val (.int (own_c2 p1))] [(.int (own_c1 p1)), (.int (1 : Int32)), (.ref c8), (.ref c8), (.ref a), (.ref a)])) rfl rfl (hb hby d_mk_107)
    refine OGo.by_ st21 ?_
    show OGo p e below _ (T21.setTop (mkF m 108 #[.val (.int p1), .val (.int (3 : Int32)), .val (.int (own_c0 p1)), .val (.int (own_c1 p1)), .val (.int (own_c2 p1))] [(.ref c8), (.ref a), (.ref a)]))
    have N21 := Fr.snoc X21 N19 gc
    have hk := Nat.le_trans hk (Nat.le_of_eq W21.size.symm)
    have HS21 := Safe.arr (EL := own_EL) hZ.alike Ar20 (by decide)
    have HP21 := HR.1
    have HR := HR.trans (CHr.wr W21 HS21 HR.1)
    rw [own_nc1] at W21
    have U2 := Arv.set Ar20 q20 S20 Nn20 H20 G20 (by rw [← own_nc1]; exact fits_nar_char _) W21 1 (by decide) (Nat.le_of_ble_eq_true rfl)
    have A_21 := A_19.wr W21
    have Ga_21 := Ga_19.other W21 (Or.inl hac)
    have Gb_21 := Gb_19.other W21 (Or.inl hac)
    have K_21 := Keep.wr K_19 W21 (Or.inr (by omega))
    have S_21 := Sta.wr W21 S_19
    have Z_21 : n0 ≤ h21.size := by rw [W21.size]; exact Z_19
    refine OGo.by_ (fun t k => XS.dup X21.here hx rfl (hb hby d_mk_108) rfl rfl k) ?_
    show OGo p e below _ (T21.setTop (mkF m 109 #[.val (.int p1), .val (.int (3 : Int32)), .val (.int (own_c0 p1)), .val (.int (own_c1 p1)), .val (.int (own_c2 p1))] [(.ref c8), (.ref c8), (.ref a), (.ref a)]))
    refine OGo.by_ (fun t k => XS.iconst X21.here hx rfl (hb hby d_mk_109) k) ?_
    show OGo p e below _ (T21.setTop (mkF m 110 #[.val (.int p1), .val (.int (3 : Int32)), .val (.int (own_c0 p1)), .val (.int (own_c1 p1)), .val (.int (own_c2 p1))] [(.int (2 : Int32)), (.ref c8), (.ref c8), (.ref a), (.ref a)]))
    refine OGo.by_ (fun t k => XS.iload X21.here hx rfl (hb hby d_mk_110) rfl k) ?_
    show OGo p e below _ (T21.setTop (mkF m 112 #[.val (.int p1), .val (.int (3 : Int32)), .val (.int (own_c0 p1)), .val (.int (own_c1 p1)), .val (.int (own_c2 p1))] [(.int (own_c2 p1)), (.int (2 : Int32)), (.ref c8), (.ref c8), (.ref a), (.ref a)]))
    obtain ⟨cl22, Ar22, q22, S22, Nn22, H22, G22⟩ := id U2
    obtain ⟨T23, h23, X23, e23, W23, st23⟩ := stC X21 hx hZ e21 Ar22 (j := (2 : Int32)) (inb_of S22 ⟨(by decide : ¬ (2 : Int32) < 0), (by decide : (2 : Int32) < (3 : Int32))⟩) (g := (mkF m 112 #[.val (.int p1), .val (.int (3 : Int32)), .val (.int (own_c0 p1)), .val (.int (own_c1 p1)), .val (.int (own_c2 p1))] [(.int (own_c2 p1)), (.int (2 : Int32)), (.ref c8), (.ref c8), (.ref a), (.ref a)])) rfl rfl (hb hby d_mk_112)
    refine OGo.by_ st23 ?_
    show OGo p e below _ (T23.setTop (mkF m 113 #[.val (.int p1), .val (.int (3 : Int32)), .val (.int (own_c0 p1)), .val (.int (own_c1 p1)), .val (.int (own_c2 p1))] [(.ref c8), (.ref a), (.ref a)]))
    have N23 := Fr.snoc X23 N21 gc
    have hk := Nat.le_trans hk (Nat.le_of_eq W23.size.symm)
    have HS23 := Safe.arr (EL := own_EL) hZ.alike Ar22 (by decide)
    have HP23 := HR.1
    have HR := HR.trans (CHr.wr W23 HS23 HR.1)
    rw [own_nc2] at W23
    have U3 := Arv.set Ar22 q22 S22 Nn22 H22 G22 (by rw [← own_nc2]; exact fits_nar_char _) W23 2 (by decide) (Nat.le_of_ble_eq_true rfl)
    have A_23 := A_21.wr W23
    have Ga_23 := Ga_21.other W23 (Or.inl hac)
    have Gb_23 := Gb_21.other W23 (Or.inl hac)
    have K_23 := Keep.wr K_21 W23 (Or.inr (by omega))
    have S_23 := Sta.wr W23 S_21
    have Z_23 : n0 ≤ h23.size := by rw [W23.size]; exact Z_21
    have Vq : Arv Z h23 c8 k17 .char (3 : Int32) [(.int (own_c0 p1)), (.int (own_c1 p1)), (.int (own_c2 p1))] (.int (0 : Int32)) := U3
    obtain ⟨_, _, ⟨T24, L24, k24, n24⟩, -, X24, ⟨Lc24, hQ24, l24, y24, z24⟩, st24⟩ := X23.specialBack hx (y := (⟨"java/lang/String", "<init>", "([C)V"⟩ : MethodName)) rfl hown (mvT hZ (hw _ (List.mem_of_getElem? (i := 11) rfl))) (mvT hZ (hw _ (List.mem_of_getElem? (i := 12) rfl))) (mvT hZ (hw _ (List.mem_of_getElem? (i := 13) rfl))) (by decide) (backOf (W := 1) (rm_sc3 l Z a0 hw [] a c8 k17 cs (own_c0 p1) (own_c1 p1) (own_c2 p1) h23 n0 Z_23 A_23 Ga_23 Gb_23 ga S_23 hcs Vq (own_mch _) (own_mch _) (own_mch _)) hZ (hw _ (List.mem_of_getElem? (i := 13) rfl)) (hw _ (List.mem_of_getElem? (i := 9) rfl)) (by decide) (by decide)) (g := (mkF m 113 #[.val (.int p1), .val (.int (3 : Int32)), .val (.int (own_c0 p1)), .val (.int (own_c1 p1)), .val (.int (own_c2 p1))] [(.ref c8), (.ref a), (.ref a)])) rfl (by rw [hml]; rfl) (Steps.refl _) (a := a) (argsL := [(.ref c8)]) (rest := [(.ref a)]) (lenOf pd_oACcV rfl) rfl (by show 2 * 0 + _ ≤ _; exact Nat.le_of_eq rfl) (hb hby d_mk_113) (fun _ _ => ⟨rfl, e23, (by decide : 2 + 1 ≤ _), (by decide : 7 + 3 ≤ _)⟩)
    dsimp only [Pt.U, Pt.locs, Pt.cells, Pt.slots] at X24 l24 y24 z24 st24 hQ24
    subst l24 y24 z24
    obtain ⟨rfl, Nq24, K24, b, S24⟩ := hQ24
    have N24 := Fr.app N23 Nq24
    refine OGo.by_ (fun t k => st24.trans k) ?_
    show OGo p e below _ (T24.setTop (mkF m 116 #[.val (.int p1), .val (.int (3 : Int32)), .val (.int (own_c0 p1)), .val (.int (own_c1 p1)), .val (.int (own_c2 p1))] [(.ref a)]))
    have hk := Nat.le_trans hk K24.1
    have HR := HR.trans (CHr.keep K24 (allS (own_safe (EL := own_EL) hZ.alike A_23 Ga_23) all0) HR.1)
    have KK := Keep.trans K_23 K24 (allS (Or.inr (by omega)) all0)
    have Sx := S24
    exact own_hretA X24 hS (show _ ≤ T24.heap.size by rw [show T24.heap = T24.heap from rfl]; exact hk) (by rw [show T24.heap = T24.heap from rfl]; show CHr Z own_EL s.vm s.heap T24.vm _; rw [hh]; exact HR.trans (CHv.at X24 hZ (own_ew hw) HR.1)) hx hlk hret rfl rfl (hb hby d_mk_116) (by decide) (by decide) (⟨congrArg (fun z => some (Value.ref z)) g_a, N24, KK, b, (3 : Int32), by simp only [own_xs, hq]; first | exact g_a ▸ Sx | (simp; exact g_a ▸ Sx)⟩)
theorem own_xs0 {x : Int32} (h : (x &&& (3 : Int32)) = (0 : Int32)) : own_xs x = [] := by simp only [own_xs, h, if_pos]
theorem own_xs1 {x : Int32} (h : (x &&& (3 : Int32)) = (1 : Int32)) : own_xs x = [own_c0 x] := by
  unfold own_xs; rw [if_neg (by rw [h]; decide), if_pos h]
theorem own_xs2 {x : Int32} (h : (x &&& (3 : Int32)) = (2 : Int32)) : own_xs x = [own_c0 x, own_c1 x] := by
  unfold own_xs; rw [if_neg (by rw [h]; decide), if_neg (by rw [h]; decide), if_pos h]
theorem own_xs3 {x : Int32} (h0 : ¬ (x &&& (3 : Int32)) = (0 : Int32)) (h1 : ¬ (x &&& (3 : Int32)) = (1 : Int32)) (h2 : ¬ (x &&& (3 : Int32)) = (2 : Int32)) : own_xs x = [own_c0 x, own_c1 x, own_c2 x] := by
  unfold own_xs; rw [if_neg h0, if_neg h1, if_neg h2]
theorem own_xsL (x : Int32) : (own_xs x).length = (x &&& (3 : Int32)).toNatClampNeg := by
  rcases own_and3 x with h | h | h | h
  · rw [own_xs0 h, h]; rfl
  · rw [own_xs1 h, h]; rfl
  · rw [own_xs2 h, h]; rfl
  · rw [own_xs3 (by rw [h]; decide) (by rw [h]; decide) (by rw [h]; decide), h]; rfl
theorem own_nneg (x : Int32) : ¬ (x &&& (3 : Int32)) < 0 := by
  rcases own_and3 x with h | h | h | h <;> rw [h] <;> decide
theorem own_xsD {x y : Int32} (h : ¬ (x &&& (3 : Int32)) = (y &&& (3 : Int32))) : ¬ own_xs x = own_xs y := fun q => h (by
  have e := congrArg List.length q
  rw [own_xsL, own_xsL] at e
  have a := nat_of (own_nneg x)
  have b := nat_of (own_nneg y)
  rw [← Int32.toInt_inj]; omega)
theorem own_e1 {a b : Int32} : nar .boolean (if a = b then (1 : Int32) else (0 : Int32)) = (if [a] = [b] then (1 : Int32) else (0 : Int32)) := by
  by_cases h : a = b
  · subst h; simp [nar]
  · rw [if_neg h, if_neg (fun q => h (List.cons.inj q).1)]; rfl
theorem own_e2 {a b c d : Int32} : nar .boolean (if (if a = b then (1 : Int32) else (0 : Int32)) = (0 : Int32) then (0 : Int32) else (if (if c = d then (1 : Int32) else (0 : Int32)) = (0 : Int32) then (0 : Int32) else (1 : Int32))) = (if [a, c] = [b, d] then (1 : Int32) else (0 : Int32)) := by
  by_cases h : a = b
  · by_cases k : c = d
    · subst h k; simp [nar]
    · rw [if_neg (show ¬ [a, c] = [b, d] from fun q => k (List.cons.inj (List.cons.inj q).2).1), if_pos h, if_neg k]; simp [nar]
  · rw [if_neg (show ¬ [a, c] = [b, d] from fun q => h (List.cons.inj q).1), if_neg h]; simp [nar]
theorem own_e3 {a b c d e f : Int32} : nar .boolean (if (if a = b then (1 : Int32) else (0 : Int32)) = (0 : Int32) then (0 : Int32) else (if (if c = d then (1 : Int32) else (0 : Int32)) = (0 : Int32) then (0 : Int32) else (if (if e = f then (1 : Int32) else (0 : Int32)) = (0 : Int32) then (0 : Int32) else (1 : Int32)))) = (if [a, c, e] = [b, d, f] then (1 : Int32) else (0 : Int32)) := by
  by_cases h : a = b
  · by_cases k : c = d
    · by_cases j : e = f
      · subst h k j; simp [nar]
      · rw [if_neg (show ¬ [a, c, e] = [b, d, f] from fun q => j (List.cons.inj (List.cons.inj (List.cons.inj q).2).2).1), if_pos h, if_pos k, if_neg j]; simp [nar]
    · rw [if_neg (show ¬ [a, c, e] = [b, d, f] from fun q => k (List.cons.inj (List.cons.inj q).2).1), if_pos h, if_neg k]; simp [nar]
  · rw [if_neg (show ¬ [a, c, e] = [b, d, f] from fun q => h (List.cons.inj q).1), if_neg h]; simp [nar]
theorem d_sam_0 : decode method_3_code 0 = .ok (.iload_n 0, 1) := by decide +kernel
theorem d_sam_1 : decode method_3_code 1 = .ok (.iconst 3, 1) := by decide +kernel
theorem d_sam_2 : decode method_3_code 2 = .ok (.iand, 1) := by decide +kernel
theorem d_sam_3 : decode method_3_code 3 = .ok (.istore_n 2, 1) := by decide +kernel
theorem d_sam_4 : decode method_3_code 4 = .ok (.iload_n 2, 1) := by decide +kernel
theorem d_sam_5 : decode method_3_code 5 = .ok (.iload_n 1, 1) := by decide +kernel
theorem d_sam_6 : decode method_3_code 6 = .ok (.iconst 3, 1) := by decide +kernel
theorem d_sam_7 : decode method_3_code 7 = .ok (.iand, 1) := by decide +kernel
theorem d_sam_8 : decode method_3_code 8 = .ok (.if_icmp .eq 5, 3) := by decide +kernel
theorem d_sam_13 : decode method_3_code 13 = .ok (.iload_n 0, 1) := by decide +kernel
theorem d_sam_14 : decode method_3_code 14 = .ok (.iconst 2, 1) := by decide +kernel
theorem d_sam_15 : decode method_3_code 15 = .ok (.iushr, 1) := by decide +kernel
theorem d_sam_16 : decode method_3_code 16 = .ok (.sipush 255, 3) := by decide +kernel
theorem d_sam_19 : decode method_3_code 19 = .ok (.iand, 1) := by decide +kernel
theorem d_sam_20 : decode method_3_code 20 = .ok (.iload_n 1, 1) := by decide +kernel
theorem d_sam_21 : decode method_3_code 21 = .ok (.iconst 2, 1) := by decide +kernel
theorem d_sam_22 : decode method_3_code 22 = .ok (.iushr, 1) := by decide +kernel
theorem d_sam_23 : decode method_3_code 23 = .ok (.sipush 255, 3) := by decide +kernel
theorem d_sam_26 : decode method_3_code 26 = .ok (.iand, 1) := by decide +kernel
theorem d_sam_27 : decode method_3_code 27 = .ok (.if_icmp .ne 7, 3) := by decide +kernel
theorem d_sam_30 : decode method_3_code 30 = .ok (.iconst 1, 1) := by decide +kernel
theorem d_sam_31 : decode method_3_code 31 = .ok (.goto 4, 3) := by decide +kernel
theorem d_sam_34 : decode method_3_code 34 = .ok (.iconst 0, 1) := by decide +kernel
theorem d_sam_35 : decode method_3_code 35 = .ok (.istore_n 3, 1) := by decide +kernel
theorem d_sam_36 : decode method_3_code 36 = .ok (.iload_n 0, 1) := by decide +kernel
theorem d_sam_37 : decode method_3_code 37 = .ok (.bipush 10, 2) := by decide +kernel
theorem d_sam_39 : decode method_3_code 39 = .ok (.iushr, 1) := by decide +kernel
theorem d_sam_40 : decode method_3_code 40 = .ok (.sipush 255, 3) := by decide +kernel
theorem d_sam_43 : decode method_3_code 43 = .ok (.iand, 1) := by decide +kernel
theorem d_sam_44 : decode method_3_code 44 = .ok (.iload_n 1, 1) := by decide +kernel
theorem d_sam_45 : decode method_3_code 45 = .ok (.bipush 10, 2) := by decide +kernel
theorem d_sam_47 : decode method_3_code 47 = .ok (.iushr, 1) := by decide +kernel
theorem d_sam_48 : decode method_3_code 48 = .ok (.sipush 255, 3) := by decide +kernel
theorem d_sam_51 : decode method_3_code 51 = .ok (.iand, 1) := by decide +kernel
theorem d_sam_52 : decode method_3_code 52 = .ok (.if_icmp .ne 7, 3) := by decide +kernel
theorem d_sam_55 : decode method_3_code 55 = .ok (.iconst 1, 1) := by decide +kernel
theorem d_sam_56 : decode method_3_code 56 = .ok (.goto 4, 3) := by decide +kernel
theorem d_sam_59 : decode method_3_code 59 = .ok (.iconst 0, 1) := by decide +kernel
theorem d_sam_60 : decode method_3_code 60 = .ok (.istore 4, 2) := by decide +kernel
theorem d_sam_62 : decode method_3_code 62 = .ok (.iload_n 0, 1) := by decide +kernel
theorem d_sam_63 : decode method_3_code 63 = .ok (.bipush 18, 2) := by decide +kernel
theorem d_sam_65 : decode method_3_code 65 = .ok (.iushr, 1) := by decide +kernel
theorem d_sam_66 : decode method_3_code 66 = .ok (.sipush 255, 3) := by decide +kernel
theorem d_sam_69 : decode method_3_code 69 = .ok (.iand, 1) := by decide +kernel
theorem d_sam_70 : decode method_3_code 70 = .ok (.iload_n 1, 1) := by decide +kernel
theorem d_sam_71 : decode method_3_code 71 = .ok (.bipush 18, 2) := by decide +kernel
theorem d_sam_73 : decode method_3_code 73 = .ok (.iushr, 1) := by decide +kernel
theorem d_sam_74 : decode method_3_code 74 = .ok (.sipush 255, 3) := by decide +kernel
theorem d_sam_77 : decode method_3_code 77 = .ok (.iand, 1) := by decide +kernel
theorem d_sam_78 : decode method_3_code 78 = .ok (.if_icmp .ne 7, 3) := by decide +kernel
theorem d_sam_81 : decode method_3_code 81 = .ok (.iconst 1, 1) := by decide +kernel
theorem d_sam_82 : decode method_3_code 82 = .ok (.goto 4, 3) := by decide +kernel
theorem d_sam_85 : decode method_3_code 85 = .ok (.iconst 0, 1) := by decide +kernel
theorem d_sam_86 : decode method_3_code 86 = .ok (.istore 5, 2) := by decide +kernel
theorem d_sam_88 : decode method_3_code 88 = .ok (.iload_n 2, 1) := by decide +kernel
theorem d_sam_89 : decode method_3_code 89 = .ok (.ifCond .ne 5, 3) := by decide +kernel
theorem d_sam_92 : decode method_3_code 92 = .ok (.iconst 1, 1) := by decide +kernel
theorem d_sam_93 : decode method_3_code 93 = .ok (.ireturn, 1) := by decide +kernel
theorem d_sam_94 : decode method_3_code 94 = .ok (.iload_n 2, 1) := by decide +kernel
theorem d_sam_95 : decode method_3_code 95 = .ok (.iconst 1, 1) := by decide +kernel
theorem d_sam_96 : decode method_3_code 96 = .ok (.if_icmp .ne 5, 3) := by decide +kernel
theorem d_sam_99 : decode method_3_code 99 = .ok (.iload_n 3, 1) := by decide +kernel
theorem d_sam_100 : decode method_3_code 100 = .ok (.ireturn, 1) := by decide +kernel
theorem d_sam_101 : decode method_3_code 101 = .ok (.iload_n 2, 1) := by decide +kernel
theorem d_sam_102 : decode method_3_code 102 = .ok (.iconst 2, 1) := by decide +kernel
theorem d_sam_103 : decode method_3_code 103 = .ok (.if_icmp .ne 18, 3) := by decide +kernel
theorem d_sam_106 : decode method_3_code 106 = .ok (.iload_n 3, 1) := by decide +kernel
theorem d_sam_107 : decode method_3_code 107 = .ok (.ifCond .eq 12, 3) := by decide +kernel
theorem d_sam_119 : decode method_3_code 119 = .ok (.iconst 0, 1) := by decide +kernel
theorem d_sam_110 : decode method_3_code 110 = .ok (.iload 4, 2) := by decide +kernel
theorem d_sam_112 : decode method_3_code 112 = .ok (.ifCond .eq 7, 3) := by decide +kernel
theorem d_sam_115 : decode method_3_code 115 = .ok (.iconst 1, 1) := by decide +kernel
theorem d_sam_116 : decode method_3_code 116 = .ok (.goto 4, 3) := by decide +kernel
theorem d_sam_120 : decode method_3_code 120 = .ok (.ireturn, 1) := by decide +kernel
theorem d_sam_121 : decode method_3_code 121 = .ok (.iload_n 3, 1) := by decide +kernel
theorem d_sam_122 : decode method_3_code 122 = .ok (.ifCond .eq 17, 3) := by decide +kernel
theorem d_sam_139 : decode method_3_code 139 = .ok (.iconst 0, 1) := by decide +kernel
theorem d_sam_125 : decode method_3_code 125 = .ok (.iload 4, 2) := by decide +kernel
theorem d_sam_127 : decode method_3_code 127 = .ok (.ifCond .eq 12, 3) := by decide +kernel
theorem d_sam_130 : decode method_3_code 130 = .ok (.iload 5, 2) := by decide +kernel
theorem d_sam_132 : decode method_3_code 132 = .ok (.ifCond .eq 7, 3) := by decide +kernel
theorem d_sam_135 : decode method_3_code 135 = .ok (.iconst 1, 1) := by decide +kernel
theorem d_sam_136 : decode method_3_code 136 = .ok (.goto 4, 3) := by decide +kernel
theorem d_sam_140 : decode method_3_code 140 = .ok (.ireturn, 1) := by decide +kernel
theorem d_sam_11 : decode method_3_code 11 = .ok (.iconst 0, 1) := by decide +kernel
theorem d_sam_12 : decode method_3_code 12 = .ok (.ireturn, 1) := by decide +kernel
theorem ef_sam (m : MethodId) (x0 : Int32) (x1 : Int32) : entryFrame m #[(.int x0), (.int x1)] 6 = mkF m 0 #[.val (.int x0), .val (.int x1), .unset, .unset, .unset, .unset] [] := by first | (simp [entryFrame, mkF, argsToLocals, Value.category]; done) | rfl
def Q_sam (Z : State) (p1 p2 : Int32) (h0 : Heap) (n0 : Nat) (v : Option Value) (h : Heap) (L : List Loc) : Prop := v = some (.int (if own_xs p1 = own_xs p2 then (1 : Int32) else (0 : Int32))) ∧ Fr n0 L ∧ h = h0
set_option maxRecDepth 65536 in
set_option maxHeartbeats 40000000 in
theorem rm_sam (l : Launch) (Z : State) (a0 : Array Value) (hw : ∀ d ∈ tables_1, d.before a0 Z = true) (ws : List Jvm.Cond) (p1 p2 : Int32) (h0 : Heap) (n0 : Nat) (Z0 : n0 ≤ h0.size)  :
    MetFree l (⟨"com/example/shardwright/shardwright/kernel/config/DataNodeEqualsPinLaw", "same", "(II)Z"⟩ : MethodName) (head1 (Jvm.Cond.code (⟨"com/example/shardwright/shardwright/kernel/config/DataNodeEqualsPinLaw", "same", "(II)Z"⟩ : MethodName) method_3_code 6 (some .boolean) :: ws) ({ frames := 0, cells := 0, slots := 0, locals := 0 } : Room)) (fun a_ U => a_ = #[(.int p1), (.int p2)] ∧ Z.Warmed39 U.vm ∧ U.heap = h0) (fun _ _ _ _ _ => True) (fun _ U o U' => ∃ v L, o = .returned v ∧ Q_sam Z p1 p2 h0 n0 v U'.heap L ∧ FrameEnd U o U' L ({ frames := 0, cells := 0, slots := 0, locals := 0 } : Room).cells ({ frames := 0, cells := 0, slots := 0, locals := 0 } : Room).slots) := by
  refine MetFree.of_bodySF (plainFor_of_name pn_com_example_shardwright_shardwright_kernel_config_DataNodeEqualsPinLaw) hisR ?_
  intro p e s m args below meth c s₁ Bd hml0 hP hK
  obtain ⟨rfl, hZ, hh⟩ := hP
  have hx := Bd.exec
  have hby := Bd.bytes
  have hml : c.maxLocals = 6 := hml0
  have hown : s.vm.findClass "com/example/shardwright/shardwright/kernel/config/DataNodeEqualsPinLaw" = some m.cls := findClass_of_methodNamed Bd.named
  have hnm := (name_of_methodNamed Bd.named Bd.method).1
  have X0 : Stand p l e ({ frames := 0, cells := 0, slots := 0, locals := 0 } : Room) s m #[(.int p1), (.int p2)] below meth c s₁ [] 0 0 := Stand.of_body Bd
  have e0 : s₁.heap = h0 := by rw [← hh, Bd.state]; rfl
  have N0 := Fr.nil n0
  have hlk := Bd.notSynchronized
  have hret := Bd.returns
  show OGo p e below (OEnd s (Q_sam Z p1 p2 h0 n0) ({ frames := 0, cells := 0, slots := 0, locals := 0 } : Room).cells ({ frames := 0, cells := 0, slots := 0, locals := 0 } : Room).slots) (s₁.setTop (entryFrame m #[(.int p1), (.int p2)] 6))
  rw [ef_sam]
  show OGo p e below _ (s₁.setTop (mkF m 0 #[.val (.int p1), .val (.int p2), .unset, .unset, .unset, .unset] []))
  refine OGo.by_ (fun t k => XS.iloadN X0.here hx rfl (hb hby d_sam_0) rfl k) ?_
  show OGo p e below _ (s₁.setTop (mkF m 1 #[.val (.int p1), .val (.int p2), .unset, .unset, .unset, .unset] [(.int p1)]))
  refine OGo.by_ (fun t k => XS.iconst X0.here hx rfl (hb hby d_sam_1) k) ?_
  show OGo p e below _ (s₁.setTop (mkF m 2 #[.val (.int p1), .val (.int p2), .unset, .unset, .unset, .unset] [(.int (3 : Int32)), (.int p1)]))
  refine OGo.by_ (fun t k => XS.iand X0.here hx rfl (hb hby d_sam_2) rfl k) ?_
  show OGo p e below _ (s₁.setTop (mkF m 3 #[.val (.int p1), .val (.int p2), .unset, .unset, .unset, .unset] [(.int (p1 &&& (3 : Int32)))]))
  refine OGo.by_ (fun t k => XS.istoreN X0.here hx rfl (hb hby d_sam_3) rfl (l' := #[.val (.int p1), .val (.int p2), .val (.int (p1 &&& (3 : Int32))), .unset, .unset, .unset]) rfl k) ?_
  show OGo p e below _ (s₁.setTop (mkF m 4 #[.val (.int p1), .val (.int p2), .val (.int (p1 &&& (3 : Int32))), .unset, .unset, .unset] []))
  refine OGo.by_ (fun t k => XS.iloadN X0.here hx rfl (hb hby d_sam_4) rfl k) ?_
  show OGo p e below _ (s₁.setTop (mkF m 5 #[.val (.int p1), .val (.int p2), .val (.int (p1 &&& (3 : Int32))), .unset, .unset, .unset] [(.int (p1 &&& (3 : Int32)))]))
  refine OGo.by_ (fun t k => XS.iloadN X0.here hx rfl (hb hby d_sam_5) rfl k) ?_
  show OGo p e below _ (s₁.setTop (mkF m 6 #[.val (.int p1), .val (.int p2), .val (.int (p1 &&& (3 : Int32))), .unset, .unset, .unset] [(.int p2), (.int (p1 &&& (3 : Int32)))]))
  refine OGo.by_ (fun t k => XS.iconst X0.here hx rfl (hb hby d_sam_6) k) ?_
  show OGo p e below _ (s₁.setTop (mkF m 7 #[.val (.int p1), .val (.int p2), .val (.int (p1 &&& (3 : Int32))), .unset, .unset, .unset] [(.int (3 : Int32)), (.int p2), (.int (p1 &&& (3 : Int32)))]))
  refine OGo.by_ (fun t k => XS.iand X0.here hx rfl (hb hby d_sam_7) rfl k) ?_
  show OGo p e below _ (s₁.setTop (mkF m 8 #[.val (.int p1), .val (.int p2), .val (.int (p1 &&& (3 : Int32))), .unset, .unset, .unset] [(.int (p2 &&& (3 : Int32))), (.int (p1 &&& (3 : Int32)))]))
  by_cases hc8 : (p1 &&& (3 : Int32)) = (p2 &&& (3 : Int32))
  · refine OGo.by_ (fun t k => XS.icmpYes X0.here hx rfl (pc0 := 8) (pc' := 13) rfl (hb hby d_sam_8) rfl (teq hc8).1 (by decide) (by decide) k) ?_
    show OGo p e below _ (s₁.setTop (mkF m 13 #[.val (.int p1), .val (.int p2), .val (.int (p1 &&& (3 : Int32))), .unset, .unset, .unset] []))
    refine OGo.by_ (fun t k => XS.iloadN X0.here hx rfl (hb hby d_sam_13) rfl k) ?_
    show OGo p e below _ (s₁.setTop (mkF m 14 #[.val (.int p1), .val (.int p2), .val (.int (p1 &&& (3 : Int32))), .unset, .unset, .unset] [(.int p1)]))
    refine OGo.by_ (fun t k => XS.iconst X0.here hx rfl (hb hby d_sam_14) k) ?_
    show OGo p e below _ (s₁.setTop (mkF m 15 #[.val (.int p1), .val (.int p2), .val (.int (p1 &&& (3 : Int32))), .unset, .unset, .unset] [(.int (2 : Int32)), (.int p1)]))
    refine OGo.by_ (fun t k => XS.iushr X0.here hx rfl (hb hby d_sam_15) rfl k) ?_
    show OGo p e below _ (s₁.setTop (mkF m 16 #[.val (.int p1), .val (.int p2), .val (.int (p1 &&& (3 : Int32))), .unset, .unset, .unset] [(.int ((p1.toUInt32 >>> ((2 : Int32) &&& 31).toUInt32).toInt32))]))
    refine OGo.by_ (fun t k => XS.sipush X0.here hx rfl (hb hby d_sam_16) k) ?_
    show OGo p e below _ (s₁.setTop (mkF m 19 #[.val (.int p1), .val (.int p2), .val (.int (p1 &&& (3 : Int32))), .unset, .unset, .unset] [(.int (255 : Int32)), (.int ((p1.toUInt32 >>> ((2 : Int32) &&& 31).toUInt32).toInt32))]))
    refine OGo.by_ (fun t k => XS.iand X0.here hx rfl (hb hby d_sam_19) rfl k) ?_
    show OGo p e below _ (s₁.setTop (mkF m 20 #[.val (.int p1), .val (.int p2), .val (.int (p1 &&& (3 : Int32))), .unset, .unset, .unset] [(.int (((p1.toUInt32 >>> ((2 : Int32) &&& 31).toUInt32).toInt32) &&& (255 : Int32)))]))
    refine OGo.by_ (fun t k => XS.iloadN X0.here hx rfl (hb hby d_sam_20) rfl k) ?_
    show OGo p e below _ (s₁.setTop (mkF m 21 #[.val (.int p1), .val (.int p2), .val (.int (p1 &&& (3 : Int32))), .unset, .unset, .unset] [(.int p2), (.int (((p1.toUInt32 >>> ((2 : Int32) &&& 31).toUInt32).toInt32) &&& (255 : Int32)))]))
    refine OGo.by_ (fun t k => XS.iconst X0.here hx rfl (hb hby d_sam_21) k) ?_
    show OGo p e below _ (s₁.setTop (mkF m 22 #[.val (.int p1), .val (.int p2), .val (.int (p1 &&& (3 : Int32))), .unset, .unset, .unset] [(.int (2 : Int32)), (.int p2), (.int (((p1.toUInt32 >>> ((2 : Int32) &&& 31).toUInt32).toInt32) &&& (255 : Int32)))]))
    refine OGo.by_ (fun t k => XS.iushr X0.here hx rfl (hb hby d_sam_22) rfl k) ?_
    show OGo p e below _ (s₁.setTop (mkF m 23 #[.val (.int p1), .val (.int p2), .val (.int (p1 &&& (3 : Int32))), .unset, .unset, .unset] [(.int ((p2.toUInt32 >>> ((2 : Int32) &&& 31).toUInt32).toInt32)), (.int (((p1.toUInt32 >>> ((2 : Int32) &&& 31).toUInt32).toInt32) &&& (255 : Int32)))]))
    refine OGo.by_ (fun t k => XS.sipush X0.here hx rfl (hb hby d_sam_23) k) ?_
    show OGo p e below _ (s₁.setTop (mkF m 26 #[.val (.int p1), .val (.int p2), .val (.int (p1 &&& (3 : Int32))), .unset, .unset, .unset] [(.int (255 : Int32)), (.int ((p2.toUInt32 >>> ((2 : Int32) &&& 31).toUInt32).toInt32)), (.int (((p1.toUInt32 >>> ((2 : Int32) &&& 31).toUInt32).toInt32) &&& (255 : Int32)))]))
    refine OGo.by_ (fun t k => XS.iand X0.here hx rfl (hb hby d_sam_26) rfl k) ?_
    show OGo p e below _ (s₁.setTop (mkF m 27 #[.val (.int p1), .val (.int p2), .val (.int (p1 &&& (3 : Int32))), .unset, .unset, .unset] [(.int (((p2.toUInt32 >>> ((2 : Int32) &&& 31).toUInt32).toInt32) &&& (255 : Int32))), (.int (((p1.toUInt32 >>> ((2 : Int32) &&& 31).toUInt32).toInt32) &&& (255 : Int32)))]))
    have D1 : ∀ t, Steps p.tables e below (s₁.setTop (mkF m 35 #[.val (.int p1), .val (.int p2), .val (.int (p1 &&& (3 : Int32))), .unset, .unset, .unset] [(.int (if (((p1.toUInt32 >>> ((2 : Int32) &&& 31).toUInt32).toInt32) &&& (255 : Int32)) = (((p2.toUInt32 >>> ((2 : Int32) &&& 31).toUInt32).toInt32) &&& (255 : Int32)) then (1 : Int32) else (0 : Int32)))])) t → Steps p.tables e below (s₁.setTop (mkF m 27 #[.val (.int p1), .val (.int p2), .val (.int (p1 &&& (3 : Int32))), .unset, .unset, .unset] [(.int (((p2.toUInt32 >>> ((2 : Int32) &&& 31).toUInt32).toInt32) &&& (255 : Int32))), (.int (((p1.toUInt32 >>> ((2 : Int32) &&& 31).toUInt32).toInt32) &&& (255 : Int32)))])) t := by
      intro t k
      by_cases hc : (((p1.toUInt32 >>> ((2 : Int32) &&& 31).toUInt32).toInt32) &&& (255 : Int32)) = (((p2.toUInt32 >>> ((2 : Int32) &&& 31).toUInt32).toInt32) &&& (255 : Int32))
      · rw [show (if (((p1.toUInt32 >>> ((2 : Int32) &&& 31).toUInt32).toInt32) &&& (255 : Int32)) = (((p2.toUInt32 >>> ((2 : Int32) &&& 31).toUInt32).toInt32) &&& (255 : Int32)) then (1 : Int32) else (0 : Int32)) = (1 : Int32) from if_pos hc] at k
        refine XS.icmpNo X0.here hx rfl (hb hby d_sam_27) rfl (teq hc).2 ?_
        show Steps p.tables e below (s₁.setTop (mkF m 30 #[.val (.int p1), .val (.int p2), .val (.int (p1 &&& (3 : Int32))), .unset, .unset, .unset] [])) _
        refine XS.iconst X0.here hx rfl (hb hby d_sam_30) ?_
        show Steps p.tables e below (s₁.setTop (mkF m 31 #[.val (.int p1), .val (.int p2), .val (.int (p1 &&& (3 : Int32))), .unset, .unset, .unset] [(.int (1 : Int32))])) _
        refine XS.goto X0.here hx rfl (pc0 := 31) (pc' := 35) rfl (hb hby d_sam_31) (by decide) (by decide) ?_
        show Steps p.tables e below (s₁.setTop (mkF m 35 #[.val (.int p1), .val (.int p2), .val (.int (p1 &&& (3 : Int32))), .unset, .unset, .unset] [(.int (1 : Int32))])) _
        first | exact k | (simp only [if_pos hc]; exact k)
      · rw [show (if (((p1.toUInt32 >>> ((2 : Int32) &&& 31).toUInt32).toInt32) &&& (255 : Int32)) = (((p2.toUInt32 >>> ((2 : Int32) &&& 31).toUInt32).toInt32) &&& (255 : Int32)) then (1 : Int32) else (0 : Int32)) = (0 : Int32) from if_neg hc] at k
        refine XS.icmpYes X0.here hx rfl (pc0 := 27) (pc' := 34) rfl (hb hby d_sam_27) rfl (feq hc).2 (by decide) (by decide) ?_
        show Steps p.tables e below (s₁.setTop (mkF m 34 #[.val (.int p1), .val (.int p2), .val (.int (p1 &&& (3 : Int32))), .unset, .unset, .unset] [])) _
        refine XS.iconst X0.here hx rfl (hb hby d_sam_34) ?_
        show Steps p.tables e below (s₁.setTop (mkF m 35 #[.val (.int p1), .val (.int p2), .val (.int (p1 &&& (3 : Int32))), .unset, .unset, .unset] [(.int (0 : Int32))])) _
        first | exact k | (simp only [if_neg hc]; exact k)
    refine OGo.by_ D1 ?_
    show OGo p e below _ (s₁.setTop (mkF m 35 #[.val (.int p1), .val (.int p2), .val (.int (p1 &&& (3 : Int32))), .unset, .unset, .unset] [(.int (if (((p1.toUInt32 >>> ((2 : Int32) &&& 31).toUInt32).toInt32) &&& (255 : Int32)) = (((p2.toUInt32 >>> ((2 : Int32) &&& 31).toUInt32).toInt32) &&& (255 : Int32)) then (1 : Int32) else (0 : Int32)))]))
    refine OGo.by_ (fun t k => XS.istoreN X0.here hx rfl (hb hby d_sam_35) rfl (l' := #[.val (.int p1), .val (.int p2), .val (.int (p1 &&& (3 : Int32))), .val (.int (if (((p1.toUInt32 >>> ((2 : Int32) &&& 31).toUInt32).toInt32) &&& (255 : Int32)) = (((p2.toUInt32 >>> ((2 : Int32) &&& 31).toUInt32).toInt32) &&& (255 : Int32)) then (1 : Int32) else (0 : Int32))), .unset, .unset]) rfl k) ?_
    show OGo p e below _ (s₁.setTop (mkF m 36 #[.val (.int p1), .val (.int p2), .val (.int (p1 &&& (3 : Int32))), .val (.int (if (((p1.toUInt32 >>> ((2 : Int32) &&& 31).toUInt32).toInt32) &&& (255 : Int32)) = (((p2.toUInt32 >>> ((2 : Int32) &&& 31).toUInt32).toInt32) &&& (255 : Int32)) then (1 : Int32) else (0 : Int32))), .unset, .unset] []))
    refine OGo.by_ (fun t k => XS.iloadN X0.here hx rfl (hb hby d_sam_36) rfl k) ?_
    show OGo p e below _ (s₁.setTop (mkF m 37 #[.val (.int p1), .val (.int p2), .val (.int (p1 &&& (3 : Int32))), .val (.int (if (((p1.toUInt32 >>> ((2 : Int32) &&& 31).toUInt32).toInt32) &&& (255 : Int32)) = (((p2.toUInt32 >>> ((2 : Int32) &&& 31).toUInt32).toInt32) &&& (255 : Int32)) then (1 : Int32) else (0 : Int32))), .unset, .unset] [(.int p1)]))
    refine OGo.by_ (fun t k => XS.bipush X0.here hx rfl (hb hby d_sam_37) k) ?_
    show OGo p e below _ (s₁.setTop (mkF m 39 #[.val (.int p1), .val (.int p2), .val (.int (p1 &&& (3 : Int32))), .val (.int (if (((p1.toUInt32 >>> ((2 : Int32) &&& 31).toUInt32).toInt32) &&& (255 : Int32)) = (((p2.toUInt32 >>> ((2 : Int32) &&& 31).toUInt32).toInt32) &&& (255 : Int32)) then (1 : Int32) else (0 : Int32))), .unset, .unset] [(.int (10 : Int32)), (.int p1)]))
    refine OGo.by_ (fun t k => XS.iushr X0.here hx rfl (hb hby d_sam_39) rfl k) ?_
    show OGo p e below _ (s₁.setTop (mkF m 40 #[.val (.int p1), .val (.int p2), .val (.int (p1 &&& (3 : Int32))), .val (.int (if (((p1.toUInt32 >>> ((2 : Int32) &&& 31).toUInt32).toInt32) &&& (255 : Int32)) = (((p2.toUInt32 >>> ((2 : Int32) &&& 31).toUInt32).toInt32) &&& (255 : Int32)) then (1 : Int32) else (0 : Int32))), .unset, .unset] [(.int ((p1.toUInt32 >>> ((10 : Int32) &&& 31).toUInt32).toInt32))]))
    refine OGo.by_ (fun t k => XS.sipush X0.here hx rfl (hb hby d_sam_40) k) ?_
    show OGo p e below _ (s₁.setTop (mkF m 43 #[.val (.int p1), .val (.int p2), .val (.int (p1 &&& (3 : Int32))), .val (.int (if (((p1.toUInt32 >>> ((2 : Int32) &&& 31).toUInt32).toInt32) &&& (255 : Int32)) = (((p2.toUInt32 >>> ((2 : Int32) &&& 31).toUInt32).toInt32) &&& (255 : Int32)) then (1 : Int32) else (0 : Int32))), .unset, .unset] [(.int (255 : Int32)), (.int ((p1.toUInt32 >>> ((10 : Int32) &&& 31).toUInt32).toInt32))]))
    refine OGo.by_ (fun t k => XS.iand X0.here hx rfl (hb hby d_sam_43) rfl k) ?_
    show OGo p e below _ (s₁.setTop (mkF m 44 #[.val (.int p1), .val (.int p2), .val (.int (p1 &&& (3 : Int32))), .val (.int (if (((p1.toUInt32 >>> ((2 : Int32) &&& 31).toUInt32).toInt32) &&& (255 : Int32)) = (((p2.toUInt32 >>> ((2 : Int32) &&& 31).toUInt32).toInt32) &&& (255 : Int32)) then (1 : Int32) else (0 : Int32))), .unset, .unset] [(.int (((p1.toUInt32 >>> ((10 : Int32) &&& 31).toUInt32).toInt32) &&& (255 : Int32)))]))
    refine OGo.by_ (fun t k => XS.iloadN X0.here hx rfl (hb hby d_sam_44) rfl k) ?_
    show OGo p e below _ (s₁.setTop (mkF m 45 #[.val (.int p1), .val (.int p2), .val (.int (p1 &&& (3 : Int32))), .val (.int (if (((p1.toUInt32 >>> ((2 : Int32) &&& 31).toUInt32).toInt32) &&& (255 : Int32)) = (((p2.toUInt32 >>> ((2 : Int32) &&& 31).toUInt32).toInt32) &&& (255 : Int32)) then (1 : Int32) else (0 : Int32))), .unset, .unset] [(.int p2), (.int (((p1.toUInt32 >>> ((10 : Int32) &&& 31).toUInt32).toInt32) &&& (255 : Int32)))]))
    refine OGo.by_ (fun t k => XS.bipush X0.here hx rfl (hb hby d_sam_45) k) ?_
    show OGo p e below _ (s₁.setTop (mkF m 47 #[.val (.int p1), .val (.int p2), .val (.int (p1 &&& (3 : Int32))), .val (.int (if (((p1.toUInt32 >>> ((2 : Int32) &&& 31).toUInt32).toInt32) &&& (255 : Int32)) = (((p2.toUInt32 >>> ((2 : Int32) &&& 31).toUInt32).toInt32) &&& (255 : Int32)) then (1 : Int32) else (0 : Int32))), .unset, .unset] [(.int (10 : Int32)), (.int p2), (.int (((p1.toUInt32 >>> ((10 : Int32) &&& 31).toUInt32).toInt32) &&& (255 : Int32)))]))
    refine OGo.by_ (fun t k => XS.iushr X0.here hx rfl (hb hby d_sam_47) rfl k) ?_
    show OGo p e below _ (s₁.setTop (mkF m 48 #[.val (.int p1), .val (.int p2), .val (.int (p1 &&& (3 : Int32))), .val (.int (if (((p1.toUInt32 >>> ((2 : Int32) &&& 31).toUInt32).toInt32) &&& (255 : Int32)) = (((p2.toUInt32 >>> ((2 : Int32) &&& 31).toUInt32).toInt32) &&& (255 : Int32)) then (1 : Int32) else (0 : Int32))), .unset, .unset] [(.int ((p2.toUInt32 >>> ((10 : Int32) &&& 31).toUInt32).toInt32)), (.int (((p1.toUInt32 >>> ((10 : Int32) &&& 31).toUInt32).toInt32) &&& (255 : Int32)))]))
    refine OGo.by_ (fun t k => XS.sipush X0.here hx rfl (hb hby d_sam_48) k) ?_
    show OGo p e below _ (s₁.setTop (mkF m 51 #[.val (.int p1), .val (.int p2), .val (.int (p1 &&& (3 : Int32))), .val (.int (if (((p1.toUInt32 >>> ((2 : Int32) &&& 31).toUInt32).toInt32) &&& (255 : Int32)) = (((p2.toUInt32 >>> ((2 : Int32) &&& 31).toUInt32).toInt32) &&& (255 : Int32)) then (1 : Int32) else (0 : Int32))), .unset, .unset] [(.int (255 : Int32)), (.int ((p2.toUInt32 >>> ((10 : Int32) &&& 31).toUInt32).toInt32)), (.int (((p1.toUInt32 >>> ((10 : Int32) &&& 31).toUInt32).toInt32) &&& (255 : Int32)))]))
    refine OGo.by_ (fun t k => XS.iand X0.here hx rfl (hb hby d_sam_51) rfl k) ?_
    show OGo p e below _ (s₁.setTop (mkF m 52 #[.val (.int p1), .val (.int p2), .val (.int (p1 &&& (3 : Int32))), .val (.int (if (((p1.toUInt32 >>> ((2 : Int32) &&& 31).toUInt32).toInt32) &&& (255 : Int32)) = (((p2.toUInt32 >>> ((2 : Int32) &&& 31).toUInt32).toInt32) &&& (255 : Int32)) then (1 : Int32) else (0 : Int32))), .unset, .unset] [(.int (((p2.toUInt32 >>> ((10 : Int32) &&& 31).toUInt32).toInt32) &&& (255 : Int32))), (.int (((p1.toUInt32 >>> ((10 : Int32) &&& 31).toUInt32).toInt32) &&& (255 : Int32)))]))
    have D2 : ∀ t, Steps p.tables e below (s₁.setTop (mkF m 60 #[.val (.int p1), .val (.int p2), .val (.int (p1 &&& (3 : Int32))), .val (.int (if (((p1.toUInt32 >>> ((2 : Int32) &&& 31).toUInt32).toInt32) &&& (255 : Int32)) = (((p2.toUInt32 >>> ((2 : Int32) &&& 31).toUInt32).toInt32) &&& (255 : Int32)) then (1 : Int32) else (0 : Int32))), .unset, .unset] [(.int (if (((p1.toUInt32 >>> ((10 : Int32) &&& 31).toUInt32).toInt32) &&& (255 : Int32)) = (((p2.toUInt32 >>> ((10 : Int32) &&& 31).toUInt32).toInt32) &&& (255 : Int32)) then (1 : Int32) else (0 : Int32)))])) t → Steps p.tables e below (s₁.setTop (mkF m 52 #[.val (.int p1), .val (.int p2), .val (.int (p1 &&& (3 : Int32))), .val (.int (if (((p1.toUInt32 >>> ((2 : Int32) &&& 31).toUInt32).toInt32) &&& (255 : Int32)) = (((p2.toUInt32 >>> ((2 : Int32) &&& 31).toUInt32).toInt32) &&& (255 : Int32)) then (1 : Int32) else (0 : Int32))), .unset, .unset] [(.int (((p2.toUInt32 >>> ((10 : Int32) &&& 31).toUInt32).toInt32) &&& (255 : Int32))), (.int (((p1.toUInt32 >>> ((10 : Int32) &&& 31).toUInt32).toInt32) &&& (255 : Int32)))])) t := by
      intro t k
      by_cases hc : (((p1.toUInt32 >>> ((10 : Int32) &&& 31).toUInt32).toInt32) &&& (255 : Int32)) = (((p2.toUInt32 >>> ((10 : Int32) &&& 31).toUInt32).toInt32) &&& (255 : Int32))
      · rw [show (if (((p1.toUInt32 >>> ((10 : Int32) &&& 31).toUInt32).toInt32) &&& (255 : Int32)) = (((p2.toUInt32 >>> ((10 : Int32) &&& 31).toUInt32).toInt32) &&& (255 : Int32)) then (1 : Int32) else (0 : Int32)) = (1 : Int32) from if_pos hc] at k
        refine XS.icmpNo X0.here hx rfl (hb hby d_sam_52) rfl (teq hc).2 ?_
        show Steps p.tables e below (s₁.setTop (mkF m 55 #[.val (.int p1), .val (.int p2), .val (.int (p1 &&& (3 : Int32))), .val (.int (if (((p1.toUInt32 >>> ((2 : Int32) &&& 31).toUInt32).toInt32) &&& (255 : Int32)) = (((p2.toUInt32 >>> ((2 : Int32) &&& 31).toUInt32).toInt32) &&& (255 : Int32)) then (1 : Int32) else (0 : Int32))), .unset, .unset] [])) _
        refine XS.iconst X0.here hx rfl (hb hby d_sam_55) ?_
        show Steps p.tables e below (s₁.setTop (mkF m 56 #[.val (.int p1), .val (.int p2), .val (.int (p1 &&& (3 : Int32))), .val (.int (if (((p1.toUInt32 >>> ((2 : Int32) &&& 31).toUInt32).toInt32) &&& (255 : Int32)) = (((p2.toUInt32 >>> ((2 : Int32) &&& 31).toUInt32).toInt32) &&& (255 : Int32)) then (1 : Int32) else (0 : Int32))), .unset, .unset] [(.int (1 : Int32))])) _
        refine XS.goto X0.here hx rfl (pc0 := 56) (pc' := 60) rfl (hb hby d_sam_56) (by decide) (by decide) ?_
        show Steps p.tables e below (s₁.setTop (mkF m 60 #[.val (.int p1), .val (.int p2), .val (.int (p1 &&& (3 : Int32))), .val (.int (if (((p1.toUInt32 >>> ((2 : Int32) &&& 31).toUInt32).toInt32) &&& (255 : Int32)) = (((p2.toUInt32 >>> ((2 : Int32) &&& 31).toUInt32).toInt32) &&& (255 : Int32)) then (1 : Int32) else (0 : Int32))), .unset, .unset] [(.int (1 : Int32))])) _
        first | exact k | (simp only [if_pos hc]; exact k)
      · rw [show (if (((p1.toUInt32 >>> ((10 : Int32) &&& 31).toUInt32).toInt32) &&& (255 : Int32)) = (((p2.toUInt32 >>> ((10 : Int32) &&& 31).toUInt32).toInt32) &&& (255 : Int32)) then (1 : Int32) else (0 : Int32)) = (0 : Int32) from if_neg hc] at k
        refine XS.icmpYes X0.here hx rfl (pc0 := 52) (pc' := 59) rfl (hb hby d_sam_52) rfl (feq hc).2 (by decide) (by decide) ?_
        show Steps p.tables e below (s₁.setTop (mkF m 59 #[.val (.int p1), .val (.int p2), .val (.int (p1 &&& (3 : Int32))), .val (.int (if (((p1.toUInt32 >>> ((2 : Int32) &&& 31).toUInt32).toInt32) &&& (255 : Int32)) = (((p2.toUInt32 >>> ((2 : Int32) &&& 31).toUInt32).toInt32) &&& (255 : Int32)) then (1 : Int32) else (0 : Int32))), .unset, .unset] [])) _
        refine XS.iconst X0.here hx rfl (hb hby d_sam_59) ?_
        show Steps p.tables e below (s₁.setTop (mkF m 60 #[.val (.int p1), .val (.int p2), .val (.int (p1 &&& (3 : Int32))), .val (.int (if (((p1.toUInt32 >>> ((2 : Int32) &&& 31).toUInt32).toInt32) &&& (255 : Int32)) = (((p2.toUInt32 >>> ((2 : Int32) &&& 31).toUInt32).toInt32) &&& (255 : Int32)) then (1 : Int32) else (0 : Int32))), .unset, .unset] [(.int (0 : Int32))])) _
        first | exact k | (simp only [if_neg hc]; exact k)
    refine OGo.by_ D2 ?_
    show OGo p e below _ (s₁.setTop (mkF m 60 #[.val (.int p1), .val (.int p2), .val (.int (p1 &&& (3 : Int32))), .val (.int (if (((p1.toUInt32 >>> ((2 : Int32) &&& 31).toUInt32).toInt32) &&& (255 : Int32)) = (((p2.toUInt32 >>> ((2 : Int32) &&& 31).toUInt32).toInt32) &&& (255 : Int32)) then (1 : Int32) else (0 : Int32))), .unset, .unset] [(.int (if (((p1.toUInt32 >>> ((10 : Int32) &&& 31).toUInt32).toInt32) &&& (255 : Int32)) = (((p2.toUInt32 >>> ((10 : Int32) &&& 31).toUInt32).toInt32) &&& (255 : Int32)) then (1 : Int32) else (0 : Int32)))]))
    refine OGo.by_ (fun t k => XS.istore X0.here hx rfl (hb hby d_sam_60) rfl (l' := #[.val (.int p1), .val (.int p2), .val (.int (p1 &&& (3 : Int32))), .val (.int (if (((p1.toUInt32 >>> ((2 : Int32) &&& 31).toUInt32).toInt32) &&& (255 : Int32)) = (((p2.toUInt32 >>> ((2 : Int32) &&& 31).toUInt32).toInt32) &&& (255 : Int32)) then (1 : Int32) else (0 : Int32))), .val (.int (if (((p1.toUInt32 >>> ((10 : Int32) &&& 31).toUInt32).toInt32) &&& (255 : Int32)) = (((p2.toUInt32 >>> ((10 : Int32) &&& 31).toUInt32).toInt32) &&& (255 : Int32)) then (1 : Int32) else (0 : Int32))), .unset]) rfl k) ?_
    show OGo p e below _ (s₁.setTop (mkF m 62 #[.val (.int p1), .val (.int p2), .val (.int (p1 &&& (3 : Int32))), .val (.int (if (((p1.toUInt32 >>> ((2 : Int32) &&& 31).toUInt32).toInt32) &&& (255 : Int32)) = (((p2.toUInt32 >>> ((2 : Int32) &&& 31).toUInt32).toInt32) &&& (255 : Int32)) then (1 : Int32) else (0 : Int32))), .val (.int (if (((p1.toUInt32 >>> ((10 : Int32) &&& 31).toUInt32).toInt32) &&& (255 : Int32)) = (((p2.toUInt32 >>> ((10 : Int32) &&& 31).toUInt32).toInt32) &&& (255 : Int32)) then (1 : Int32) else (0 : Int32))), .unset] []))
    refine OGo.by_ (fun t k => XS.iloadN X0.here hx rfl (hb hby d_sam_62) rfl k) ?_
    show OGo p e below _ (s₁.setTop (mkF m 63 #[.val (.int p1), .val (.int p2), .val (.int (p1 &&& (3 : Int32))), .val (.int (if (((p1.toUInt32 >>> ((2 : Int32) &&& 31).toUInt32).toInt32) &&& (255 : Int32)) = (((p2.toUInt32 >>> ((2 : Int32) &&& 31).toUInt32).toInt32) &&& (255 : Int32)) then (1 : Int32) else (0 : Int32))), .val (.int (if (((p1.toUInt32 >>> ((10 : Int32) &&& 31).toUInt32).toInt32) &&& (255 : Int32)) = (((p2.toUInt32 >>> ((10 : Int32) &&& 31).toUInt32).toInt32) &&& (255 : Int32)) then (1 : Int32) else (0 : Int32))), .unset] [(.int p1)]))
    refine OGo.by_ (fun t k => XS.bipush X0.here hx rfl (hb hby d_sam_63) k) ?_
    show OGo p e below _ (s₁.setTop (mkF m 65 #[.val (.int p1), .val (.int p2), .val (.int (p1 &&& (3 : Int32))), .val (.int (if (((p1.toUInt32 >>> ((2 : Int32) &&& 31).toUInt32).toInt32) &&& (255 : Int32)) = (((p2.toUInt32 >>> ((2 : Int32) &&& 31).toUInt32).toInt32) &&& (255 : Int32)) then (1 : Int32) else (0 : Int32))), .val (.int (if (((p1.toUInt32 >>> ((10 : Int32) &&& 31).toUInt32).toInt32) &&& (255 : Int32)) = (((p2.toUInt32 >>> ((10 : Int32) &&& 31).toUInt32).toInt32) &&& (255 : Int32)) then (1 : Int32) else (0 : Int32))), .unset] [(.int (18 : Int32)), (.int p1)]))
    refine OGo.by_ (fun t k => XS.iushr X0.here hx rfl (hb hby d_sam_65) rfl k) ?_
    show OGo p e below _ (s₁.setTop (mkF m 66 #[.val (.int p1), .val (.int p2), .val (.int (p1 &&& (3 : Int32))), .val (.int (if (((p1.toUInt32 >>> ((2 : Int32) &&& 31).toUInt32).toInt32) &&& (255 : Int32)) = (((p2.toUInt32 >>> ((2 : Int32) &&& 31).toUInt32).toInt32) &&& (255 : Int32)) then (1 : Int32) else (0 : Int32))), .val (.int (if (((p1.toUInt32 >>> ((10 : Int32) &&& 31).toUInt32).toInt32) &&& (255 : Int32)) = (((p2.toUInt32 >>> ((10 : Int32) &&& 31).toUInt32).toInt32) &&& (255 : Int32)) then (1 : Int32) else (0 : Int32))), .unset] [(.int ((p1.toUInt32 >>> ((18 : Int32) &&& 31).toUInt32).toInt32))]))
    refine OGo.by_ (fun t k => XS.sipush X0.here hx rfl (hb hby d_sam_66) k) ?_
    show OGo p e below _ (s₁.setTop (mkF m 69 #[.val (.int p1), .val (.int p2), .val (.int (p1 &&& (3 : Int32))), .val (.int (if (((p1.toUInt32 >>> ((2 : Int32) &&& 31).toUInt32).toInt32) &&& (255 : Int32)) = (((p2.toUInt32 >>> ((2 : Int32) &&& 31).toUInt32).toInt32) &&& (255 : Int32)) then (1 : Int32) else (0 : Int32))), .val (.int (if (((p1.toUInt32 >>> ((10 : Int32) &&& 31).toUInt32).toInt32) &&& (255 : Int32)) = (((p2.toUInt32 >>> ((10 : Int32) &&& 31).toUInt32).toInt32) &&& (255 : Int32)) then (1 : Int32) else (0 : Int32))), .unset] [(.int (255 : Int32)), (.int ((p1.toUInt32 >>> ((18 : Int32) &&& 31).toUInt32).toInt32))]))
    refine OGo.by_ (fun t k => XS.iand X0.here hx rfl (hb hby d_sam_69) rfl k) ?_
    show OGo p e below _ (s₁.setTop (mkF m 70 #[.val (.int p1), .val (.int p2), .val (.int (p1 &&& (3 : Int32))), .val (.int (if (((p1.toUInt32 >>> ((2 : Int32) &&& 31).toUInt32).toInt32) &&& (255 : Int32)) = (((p2.toUInt32 >>> ((2 : Int32) &&& 31).toUInt32).toInt32) &&& (255 : Int32)) then (1 : Int32) else (0 : Int32))), .val (.int (if (((p1.toUInt32 >>> ((10 : Int32) &&& 31).toUInt32).toInt32) &&& (255 : Int32)) = (((p2.toUInt32 >>> ((10 : Int32) &&& 31).toUInt32).toInt32) &&& (255 : Int32)) then (1 : Int32) else (0 : Int32))), .unset] [(.int (((p1.toUInt32 >>> ((18 : Int32) &&& 31).toUInt32).toInt32) &&& (255 : Int32)))]))
    refine OGo.by_ (fun t k => XS.iloadN X0.here hx rfl (hb hby d_sam_70) rfl k) ?_
    show OGo p e below _ (s₁.setTop (mkF m 71 #[.val (.int p1), .val (.int p2), .val (.int (p1 &&& (3 : Int32))), .val (.int (if (((p1.toUInt32 >>> ((2 : Int32) &&& 31).toUInt32).toInt32) &&& (255 : Int32)) = (((p2.toUInt32 >>> ((2 : Int32) &&& 31).toUInt32).toInt32) &&& (255 : Int32)) then (1 : Int32) else (0 : Int32))), .val (.int (if (((p1.toUInt32 >>> ((10 : Int32) &&& 31).toUInt32).toInt32) &&& (255 : Int32)) = (((p2.toUInt32 >>> ((10 : Int32) &&& 31).toUInt32).toInt32) &&& (255 : Int32)) then (1 : Int32) else (0 : Int32))), .unset] [(.int p2), (.int (((p1.toUInt32 >>> ((18 : Int32) &&& 31).toUInt32).toInt32) &&& (255 : Int32)))]))
    refine OGo.by_ (fun t k => XS.bipush X0.here hx rfl (hb hby d_sam_71) k) ?_
    show OGo p e below _ (s₁.setTop (mkF m 73 #[.val (.int p1), .val (.int p2), .val (.int (p1 &&& (3 : Int32))), .val (.int (if (((p1.toUInt32 >>> ((2 : Int32) &&& 31).toUInt32).toInt32) &&& (255 : Int32)) = (((p2.toUInt32 >>> ((2 : Int32) &&& 31).toUInt32).toInt32) &&& (255 : Int32)) then (1 : Int32) else (0 : Int32))), .val (.int (if (((p1.toUInt32 >>> ((10 : Int32) &&& 31).toUInt32).toInt32) &&& (255 : Int32)) = (((p2.toUInt32 >>> ((10 : Int32) &&& 31).toUInt32).toInt32) &&& (255 : Int32)) then (1 : Int32) else (0 : Int32))), .unset] [(.int (18 : Int32)), (.int p2), (.int (((p1.toUInt32 >>> ((18 : Int32) &&& 31).toUInt32).toInt32) &&& (255 : Int32)))]))
    refine OGo.by_ (fun t k => XS.iushr X0.here hx rfl (hb hby d_sam_73) rfl k) ?_
    show OGo p e below _ (s₁.setTop (mkF m 74 #[.val (.int p1), .val (.int p2), .val (.int (p1 &&& (3 : Int32))), .val (.int (if (((p1.toUInt32 >>> ((2 : Int32) &&& 31).toUInt32).toInt32) &&& (255 : Int32)) = (((p2.toUInt32 >>> ((2 : Int32) &&& 31).toUInt32).toInt32) &&& (255 : Int32)) then (1 : Int32) else (0 : Int32))), .val (.int (if (((p1.toUInt32 >>> ((10 : Int32) &&& 31).toUInt32).toInt32) &&& (255 : Int32)) = (((p2.toUInt32 >>> ((10 : Int32) &&& 31).toUInt32).toInt32) &&& (255 : Int32)) then (1 : Int32) else (0 : Int32))), .unset] [(.int ((p2.toUInt32 >>> ((18 : Int32) &&& 31).toUInt32).toInt32)), (.int (((p1.toUInt32 >>> ((18 : Int32) &&& 31).toUInt32).toInt32) &&& (255 : Int32)))]))
    refine OGo.by_ (fun t k => XS.sipush X0.here hx rfl (hb hby d_sam_74) k) ?_
    show OGo p e below _ (s₁.setTop (mkF m 77 #[.val (.int p1), .val (.int p2), .val (.int (p1 &&& (3 : Int32))), .val (.int (if (((p1.toUInt32 >>> ((2 : Int32) &&& 31).toUInt32).toInt32) &&& (255 : Int32)) = (((p2.toUInt32 >>> ((2 : Int32) &&& 31).toUInt32).toInt32) &&& (255 : Int32)) then (1 : Int32) else (0 : Int32))), .val (.int (if (((p1.toUInt32 >>> ((10 : Int32) &&& 31).toUInt32).toInt32) &&& (255 : Int32)) = (((p2.toUInt32 >>> ((10 : Int32) &&& 31).toUInt32).toInt32) &&& (255 : Int32)) then (1 : Int32) else (0 : Int32))), .unset] [(.int (255 : Int32)), (.int ((p2.toUInt32 >>> ((18 : Int32) &&& 31).toUInt32).toInt32)), (.int (((p1.toUInt32 >>> ((18 : Int32) &&& 31).toUInt32).toInt32) &&& (255 : Int32)))]))
    refine OGo.by_ (fun t k => XS.iand X0.here hx rfl (hb hby d_sam_77) rfl k) ?_
    show OGo p e below _ (s₁.setTop (mkF m 78 #[.val (.int p1), .val (.int p2), .val (.int (p1 &&& (3 : Int32))), .val (.int (if (((p1.toUInt32 >>> ((2 : Int32) &&& 31).toUInt32).toInt32) &&& (255 : Int32)) = (((p2.toUInt32 >>> ((2 : Int32) &&& 31).toUInt32).toInt32) &&& (255 : Int32)) then (1 : Int32) else (0 : Int32))), .val (.int (if (((p1.toUInt32 >>> ((10 : Int32) &&& 31).toUInt32).toInt32) &&& (255 : Int32)) = (((p2.toUInt32 >>> ((10 : Int32) &&& 31).toUInt32).toInt32) &&& (255 : Int32)) then (1 : Int32) else (0 : Int32))), .unset] [(.int (((p2.toUInt32 >>> ((18 : Int32) &&& 31).toUInt32).toInt32) &&& (255 : Int32))), (.int (((p1.toUInt32 >>> ((18 : Int32) &&& 31).toUInt32).toInt32) &&& (255 : Int32)))]))
    have D3 : ∀ t, Steps p.tables e below (s₁.setTop (mkF m 86 #[.val (.int p1), .val (.int p2), .val (.int (p1 &&& (3 : Int32))), .val (.int (if (((p1.toUInt32 >>> ((2 : Int32) &&& 31).toUInt32).toInt32) &&& (255 : Int32)) = (((p2.toUInt32 >>> ((2 : Int32) &&& 31).toUInt32).toInt32) &&& (255 : Int32)) then (1 : Int32) else (0 : Int32))), .val (.int (if (((p1.toUInt32 >>> ((10 : Int32) &&& 31).toUInt32).toInt32) &&& (255 : Int32)) = (((p2.toUInt32 >>> ((10 : Int32) &&& 31).toUInt32).toInt32) &&& (255 : Int32)) then (1 : Int32) else (0 : Int32))), .unset] [(.int (if (((p1.toUInt32 >>> ((18 : Int32) &&& 31).toUInt32).toInt32) &&& (255 : Int32)) = (((p2.toUInt32 >>> ((18 : Int32) &&& 31).toUInt32).toInt32) &&& (255 : Int32)) then (1 : Int32) else (0 : Int32)))])) t → Steps p.tables e below (s₁.setTop (mkF m 78 #[.val (.int p1), .val (.int p2), .val (.int (p1 &&& (3 : Int32))), .val (.int (if (((p1.toUInt32 >>> ((2 : Int32) &&& 31).toUInt32).toInt32) &&& (255 : Int32)) = (((p2.toUInt32 >>> ((2 : Int32) &&& 31).toUInt32).toInt32) &&& (255 : Int32)) then (1 : Int32) else (0 : Int32))), .val (.int (if (((p1.toUInt32 >>> ((10 : Int32) &&& 31).toUInt32).toInt32) &&& (255 : Int32)) = (((p2.toUInt32 >>> ((10 : Int32) &&& 31).toUInt32).toInt32) &&& (255 : Int32)) then (1 : Int32) else (0 : Int32))), .unset] [(.int (((p2.toUInt32 >>> ((18 : Int32) &&& 31).toUInt32).toInt32) &&& (255 : Int32))), (.int (((p1.toUInt32 >>> ((18 : Int32) &&& 31).toUInt32).toInt32) &&& (255 : Int32)))])) t := by
      intro t k
      by_cases hc : (((p1.toUInt32 >>> ((18 : Int32) &&& 31).toUInt32).toInt32) &&& (255 : Int32)) = (((p2.toUInt32 >>> ((18 : Int32) &&& 31).toUInt32).toInt32) &&& (255 : Int32))
      · rw [show (if (((p1.toUInt32 >>> ((18 : Int32) &&& 31).toUInt32).toInt32) &&& (255 : Int32)) = (((p2.toUInt32 >>> ((18 : Int32) &&& 31).toUInt32).toInt32) &&& (255 : Int32)) then (1 : Int32) else (0 : Int32)) = (1 : Int32) from if_pos hc] at k
        refine XS.icmpNo X0.here hx rfl (hb hby d_sam_78) rfl (teq hc).2 ?_
        show Steps p.tables e below (s₁.setTop (mkF m 81 #[.val (.int p1), .val (.int p2), .val (.int (p1 &&& (3 : Int32))), .val (.int (if (((p1.toUInt32 >>> ((2 : Int32) &&& 31).toUInt32).toInt32) &&& (255 : Int32)) = (((p2.toUInt32 >>> ((2 : Int32) &&& 31).toUInt32).toInt32) &&& (255 : Int32)) then (1 : Int32) else (0 : Int32))), .val (.int (if (((p1.toUInt32 >>> ((10 : Int32) &&& 31).toUInt32).toInt32) &&& (255 : Int32)) = (((p2.toUInt32 >>> ((10 : Int32) &&& 31).toUInt32).toInt32) &&& (255 : Int32)) then (1 : Int32) else (0 : Int32))), .unset] [])) _
        refine XS.iconst X0.here hx rfl (hb hby d_sam_81) ?_
        show Steps p.tables e below (s₁.setTop (mkF m 82 #[.val (.int p1), .val (.int p2), .val (.int (p1 &&& (3 : Int32))), .val (.int (if (((p1.toUInt32 >>> ((2 : Int32) &&& 31).toUInt32).toInt32) &&& (255 : Int32)) = (((p2.toUInt32 >>> ((2 : Int32) &&& 31).toUInt32).toInt32) &&& (255 : Int32)) then (1 : Int32) else (0 : Int32))), .val (.int (if (((p1.toUInt32 >>> ((10 : Int32) &&& 31).toUInt32).toInt32) &&& (255 : Int32)) = (((p2.toUInt32 >>> ((10 : Int32) &&& 31).toUInt32).toInt32) &&& (255 : Int32)) then (1 : Int32) else (0 : Int32))), .unset] [(.int (1 : Int32))])) _
        refine XS.goto X0.here hx rfl (pc0 := 82) (pc' := 86) rfl (hb hby d_sam_82) (by decide) (by decide) ?_
        show Steps p.tables e below (s₁.setTop (mkF m 86 #[.val (.int p1), .val (.int p2), .val (.int (p1 &&& (3 : Int32))), .val (.int (if (((p1.toUInt32 >>> ((2 : Int32) &&& 31).toUInt32).toInt32) &&& (255 : Int32)) = (((p2.toUInt32 >>> ((2 : Int32) &&& 31).toUInt32).toInt32) &&& (255 : Int32)) then (1 : Int32) else (0 : Int32))), .val (.int (if (((p1.toUInt32 >>> ((10 : Int32) &&& 31).toUInt32).toInt32) &&& (255 : Int32)) = (((p2.toUInt32 >>> ((10 : Int32) &&& 31).toUInt32).toInt32) &&& (255 : Int32)) then (1 : Int32) else (0 : Int32))), .unset] [(.int (1 : Int32))])) _
        first | exact k | (simp only [if_pos hc]; exact k)
      · rw [show (if (((p1.toUInt32 >>> ((18 : Int32) &&& 31).toUInt32).toInt32) &&& (255 : Int32)) = (((p2.toUInt32 >>> ((18 : Int32) &&& 31).toUInt32).toInt32) &&& (255 : Int32)) then (1 : Int32) else (0 : Int32)) = (0 : Int32) from if_neg hc] at k
        refine XS.icmpYes X0.here hx rfl (pc0 := 78) (pc' := 85) rfl (hb hby d_sam_78) rfl (feq hc).2 (by decide) (by decide) ?_
        show Steps p.tables e below (s₁.setTop (mkF m 85 #[.val (.int p1), .val (.int p2), .val (.int (p1 &&& (3 : Int32))), .val (.int (if (((p1.toUInt32 >>> ((2 : Int32) &&& 31).toUInt32).toInt32) &&& (255 : Int32)) = (((p2.toUInt32 >>> ((2 : Int32) &&& 31).toUInt32).toInt32) &&& (255 : Int32)) then (1 : Int32) else (0 : Int32))), .val (.int (if (((p1.toUInt32 >>> ((10 : Int32) &&& 31).toUInt32).toInt32) &&& (255 : Int32)) = (((p2.toUInt32 >>> ((10 : Int32) &&& 31).toUInt32).toInt32) &&& (255 : Int32)) then (1 : Int32) else (0 : Int32))), .unset] [])) _
        refine XS.iconst X0.here hx rfl (hb hby d_sam_85) ?_
        show Steps p.tables e below (s₁.setTop (mkF m 86 #[.val (.int p1), .val (.int p2), .val (.int (p1 &&& (3 : Int32))), .val (.int (if (((p1.toUInt32 >>> ((2 : Int32) &&& 31).toUInt32).toInt32) &&& (255 : Int32)) = (((p2.toUInt32 >>> ((2 : Int32) &&& 31).toUInt32).toInt32) &&& (255 : Int32)) then (1 : Int32) else (0 : Int32))), .val (.int (if (((p1.toUInt32 >>> ((10 : Int32) &&& 31).toUInt32).toInt32) &&& (255 : Int32)) = (((p2.toUInt32 >>> ((10 : Int32) &&& 31).toUInt32).toInt32) &&& (255 : Int32)) then (1 : Int32) else (0 : Int32))), .unset] [(.int (0 : Int32))])) _
        first | exact k | (simp only [if_neg hc]; exact k)
    refine OGo.by_ D3 ?_
    show OGo p e below _ (s₁.setTop (mkF m 86 #[.val (.int p1), .val (.int p2), .val (.int (p1 &&& (3 : Int32))), .val (.int (if (((p1.toUInt32 >>> ((2 : Int32) &&& 31).toUInt32).toInt32) &&& (255 : Int32)) = (((p2.toUInt32 >>> ((2 : Int32) &&& 31).toUInt32).toInt32) &&& (255 : Int32)) then (1 : Int32) else (0 : Int32))), .val (.int (if (((p1.toUInt32 >>> ((10 : Int32) &&& 31).toUInt32).toInt32) &&& (255 : Int32)) = (((p2.toUInt32 >>> ((10 : Int32) &&& 31).toUInt32).toInt32) &&& (255 : Int32)) then (1 : Int32) else (0 : Int32))), .unset] [(.int (if (((p1.toUInt32 >>> ((18 : Int32) &&& 31).toUInt32).toInt32) &&& (255 : Int32)) = (((p2.toUInt32 >>> ((18 : Int32) &&& 31).toUInt32).toInt32) &&& (255 : Int32)) then (1 : Int32) else (0 : Int32)))]))
    refine OGo.by_ (fun t k => XS.istore X0.here hx rfl (hb hby d_sam_86) rfl (l' := #[.val (.int p1), .val (.int p2), .val (.int (p1 &&& (3 : Int32))), .val (.int (if (((p1.toUInt32 >>> ((2 : Int32) &&& 31).toUInt32).toInt32) &&& (255 : Int32)) = (((p2.toUInt32 >>> ((2 : Int32) &&& 31).toUInt32).toInt32) &&& (255 : Int32)) then (1 : Int32) else (0 : Int32))), .val (.int (if (((p1.toUInt32 >>> ((10 : Int32) &&& 31).toUInt32).toInt32) &&& (255 : Int32)) = (((p2.toUInt32 >>> ((10 : Int32) &&& 31).toUInt32).toInt32) &&& (255 : Int32)) then (1 : Int32) else (0 : Int32))), .val (.int (if (((p1.toUInt32 >>> ((18 : Int32) &&& 31).toUInt32).toInt32) &&& (255 : Int32)) = (((p2.toUInt32 >>> ((18 : Int32) &&& 31).toUInt32).toInt32) &&& (255 : Int32)) then (1 : Int32) else (0 : Int32)))]) rfl k) ?_
    show OGo p e below _ (s₁.setTop (mkF m 88 #[.val (.int p1), .val (.int p2), .val (.int (p1 &&& (3 : Int32))), .val (.int (if (((p1.toUInt32 >>> ((2 : Int32) &&& 31).toUInt32).toInt32) &&& (255 : Int32)) = (((p2.toUInt32 >>> ((2 : Int32) &&& 31).toUInt32).toInt32) &&& (255 : Int32)) then (1 : Int32) else (0 : Int32))), .val (.int (if (((p1.toUInt32 >>> ((10 : Int32) &&& 31).toUInt32).toInt32) &&& (255 : Int32)) = (((p2.toUInt32 >>> ((10 : Int32) &&& 31).toUInt32).toInt32) &&& (255 : Int32)) then (1 : Int32) else (0 : Int32))), .val (.int (if (((p1.toUInt32 >>> ((18 : Int32) &&& 31).toUInt32).toInt32) &&& (255 : Int32)) = (((p2.toUInt32 >>> ((18 : Int32) &&& 31).toUInt32).toInt32) &&& (255 : Int32)) then (1 : Int32) else (0 : Int32)))] []))
    refine OGo.by_ (fun t k => XS.iloadN X0.here hx rfl (hb hby d_sam_88) rfl k) ?_
    show OGo p e below _ (s₁.setTop (mkF m 89 #[.val (.int p1), .val (.int p2), .val (.int (p1 &&& (3 : Int32))), .val (.int (if (((p1.toUInt32 >>> ((2 : Int32) &&& 31).toUInt32).toInt32) &&& (255 : Int32)) = (((p2.toUInt32 >>> ((2 : Int32) &&& 31).toUInt32).toInt32) &&& (255 : Int32)) then (1 : Int32) else (0 : Int32))), .val (.int (if (((p1.toUInt32 >>> ((10 : Int32) &&& 31).toUInt32).toInt32) &&& (255 : Int32)) = (((p2.toUInt32 >>> ((10 : Int32) &&& 31).toUInt32).toInt32) &&& (255 : Int32)) then (1 : Int32) else (0 : Int32))), .val (.int (if (((p1.toUInt32 >>> ((18 : Int32) &&& 31).toUInt32).toInt32) &&& (255 : Int32)) = (((p2.toUInt32 >>> ((18 : Int32) &&& 31).toUInt32).toInt32) &&& (255 : Int32)) then (1 : Int32) else (0 : Int32)))] [(.int (p1 &&& (3 : Int32)))]))
    by_cases hl0 : (p1 &&& (3 : Int32)) = (0 : Int32)
    · refine OGo.by_ (fun t k => XS.ifNo X0.here hx rfl (hb hby d_sam_89) rfl ((if0 _ _).trans (teq hl0).2) k) ?_
      show OGo p e below _ (s₁.setTop (mkF m 92 #[.val (.int p1), .val (.int p2), .val (.int (p1 &&& (3 : Int32))), .val (.int (if (((p1.toUInt32 >>> ((2 : Int32) &&& 31).toUInt32).toInt32) &&& (255 : Int32)) = (((p2.toUInt32 >>> ((2 : Int32) &&& 31).toUInt32).toInt32) &&& (255 : Int32)) then (1 : Int32) else (0 : Int32))), .val (.int (if (((p1.toUInt32 >>> ((10 : Int32) &&& 31).toUInt32).toInt32) &&& (255 : Int32)) = (((p2.toUInt32 >>> ((10 : Int32) &&& 31).toUInt32).toInt32) &&& (255 : Int32)) then (1 : Int32) else (0 : Int32))), .val (.int (if (((p1.toUInt32 >>> ((18 : Int32) &&& 31).toUInt32).toInt32) &&& (255 : Int32)) = (((p2.toUInt32 >>> ((18 : Int32) &&& 31).toUInt32).toInt32) &&& (255 : Int32)) then (1 : Int32) else (0 : Int32)))] []))
      refine OGo.by_ (fun t k => XS.iconst X0.here hx rfl (hb hby d_sam_92) k) ?_
      show OGo p e below _ (s₁.setTop (mkF m 93 #[.val (.int p1), .val (.int p2), .val (.int (p1 &&& (3 : Int32))), .val (.int (if (((p1.toUInt32 >>> ((2 : Int32) &&& 31).toUInt32).toInt32) &&& (255 : Int32)) = (((p2.toUInt32 >>> ((2 : Int32) &&& 31).toUInt32).toInt32) &&& (255 : Int32)) then (1 : Int32) else (0 : Int32))), .val (.int (if (((p1.toUInt32 >>> ((10 : Int32) &&& 31).toUInt32).toInt32) &&& (255 : Int32)) = (((p2.toUInt32 >>> ((10 : Int32) &&& 31).toUInt32).toInt32) &&& (255 : Int32)) then (1 : Int32) else (0 : Int32))), .val (.int (if (((p1.toUInt32 >>> ((18 : Int32) &&& 31).toUInt32).toInt32) &&& (255 : Int32)) = (((p2.toUInt32 >>> ((18 : Int32) &&& 31).toUInt32).toInt32) &&& (255 : Int32)) then (1 : Int32) else (0 : Int32)))] [(.int (1 : Int32))]))
      exact own_retN X0 hx hlk (t := .boolean) hret (by simp) (hb hby d_sam_93) (by decide) (by decide) (⟨by rw [own_xs0 hl0, own_xs0 (hc8 ▸ hl0)]; rfl, N0, e0⟩)
    · refine OGo.by_ (fun t k => XS.ifYes X0.here hx rfl (pc0 := 89) (pc' := 94) rfl (hb hby d_sam_89) rfl ((if0 _ _).trans (feq hl0).2) (by decide) (by decide) k) ?_
      show OGo p e below _ (s₁.setTop (mkF m 94 #[.val (.int p1), .val (.int p2), .val (.int (p1 &&& (3 : Int32))), .val (.int (if (((p1.toUInt32 >>> ((2 : Int32) &&& 31).toUInt32).toInt32) &&& (255 : Int32)) = (((p2.toUInt32 >>> ((2 : Int32) &&& 31).toUInt32).toInt32) &&& (255 : Int32)) then (1 : Int32) else (0 : Int32))), .val (.int (if (((p1.toUInt32 >>> ((10 : Int32) &&& 31).toUInt32).toInt32) &&& (255 : Int32)) = (((p2.toUInt32 >>> ((10 : Int32) &&& 31).toUInt32).toInt32) &&& (255 : Int32)) then (1 : Int32) else (0 : Int32))), .val (.int (if (((p1.toUInt32 >>> ((18 : Int32) &&& 31).toUInt32).toInt32) &&& (255 : Int32)) = (((p2.toUInt32 >>> ((18 : Int32) &&& 31).toUInt32).toInt32) &&& (255 : Int32)) then (1 : Int32) else (0 : Int32)))] []))
      refine OGo.by_ (fun t k => XS.iloadN X0.here hx rfl (hb hby d_sam_94) rfl k) ?_
      show OGo p e below _ (s₁.setTop (mkF m 95 #[.val (.int p1), .val (.int p2), .val (.int (p1 &&& (3 : Int32))), .val (.int (if (((p1.toUInt32 >>> ((2 : Int32) &&& 31).toUInt32).toInt32) &&& (255 : Int32)) = (((p2.toUInt32 >>> ((2 : Int32) &&& 31).toUInt32).toInt32) &&& (255 : Int32)) then (1 : Int32) else (0 : Int32))), .val (.int (if (((p1.toUInt32 >>> ((10 : Int32) &&& 31).toUInt32).toInt32) &&& (255 : Int32)) = (((p2.toUInt32 >>> ((10 : Int32) &&& 31).toUInt32).toInt32) &&& (255 : Int32)) then (1 : Int32) else (0 : Int32))), .val (.int (if (((p1.toUInt32 >>> ((18 : Int32) &&& 31).toUInt32).toInt32) &&& (255 : Int32)) = (((p2.toUInt32 >>> ((18 : Int32) &&& 31).toUInt32).toInt32) &&& (255 : Int32)) then (1 : Int32) else (0 : Int32)))] [(.int (p1 &&& (3 : Int32)))]))
      refine OGo.by_ (fun t k => XS.iconst X0.here hx rfl (hb hby d_sam_95) k) ?_
      show OGo p e below _ (s₁.setTop (mkF m 96 #[.val (.int p1), .val (.int p2), .val (.int (p1 &&& (3 : Int32))), .val (.int (if (((p1.toUInt32 >>> ((2 : Int32) &&& 31).toUInt32).toInt32) &&& (255 : Int32)) = (((p2.toUInt32 >>> ((2 : Int32) &&& 31).toUInt32).toInt32) &&& (255 : Int32)) then (1 : Int32) else (0 : Int32))), .val (.int (if (((p1.toUInt32 >>> ((10 : Int32) &&& 31).toUInt32).toInt32) &&& (255 : Int32)) = (((p2.toUInt32 >>> ((10 : Int32) &&& 31).toUInt32).toInt32) &&& (255 : Int32)) then (1 : Int32) else (0 : Int32))), .val (.int (if (((p1.toUInt32 >>> ((18 : Int32) &&& 31).toUInt32).toInt32) &&& (255 : Int32)) = (((p2.toUInt32 >>> ((18 : Int32) &&& 31).toUInt32).toInt32) &&& (255 : Int32)) then (1 : Int32) else (0 : Int32)))] [(.int (1 : Int32)), (.int (p1 &&& (3 : Int32)))]))
      by_cases hl1 : (p1 &&& (3 : Int32)) = (1 : Int32)
      · refine OGo.by_ (fun t k => XS.icmpNo X0.here hx rfl (hb hby d_sam_96) rfl (teq hl1).2 k) ?_
        show OGo p e below _ (s₁.setTop (mkF m 99 #[.val (.int p1), .val (.int p2), .val (.int (p1 &&& (3 : Int32))), .val (.int (if (((p1.toUInt32 >>> ((2 : Int32) &&& 31).toUInt32).toInt32) &&& (255 : Int32)) = (((p2.toUInt32 >>> ((2 : Int32) &&& 31).toUInt32).toInt32) &&& (255 : Int32)) then (1 : Int32) else (0 : Int32))), .val (.int (if (((p1.toUInt32 >>> ((10 : Int32) &&& 31).toUInt32).toInt32) &&& (255 : Int32)) = (((p2.toUInt32 >>> ((10 : Int32) &&& 31).toUInt32).toInt32) &&& (255 : Int32)) then (1 : Int32) else (0 : Int32))), .val (.int (if (((p1.toUInt32 >>> ((18 : Int32) &&& 31).toUInt32).toInt32) &&& (255 : Int32)) = (((p2.toUInt32 >>> ((18 : Int32) &&& 31).toUInt32).toInt32) &&& (255 : Int32)) then (1 : Int32) else (0 : Int32)))] []))
        refine OGo.by_ (fun t k => XS.iloadN X0.here hx rfl (hb hby d_sam_99) rfl k) ?_
        show OGo p e below _ (s₁.setTop (mkF m 100 #[.val (.int p1), .val (.int p2), .val (.int (p1 &&& (3 : Int32))), .val (.int (if (((p1.toUInt32 >>> ((2 : Int32) &&& 31).toUInt32).toInt32) &&& (255 : Int32)) = (((p2.toUInt32 >>> ((2 : Int32) &&& 31).toUInt32).toInt32) &&& (255 : Int32)) then (1 : Int32) else (0 : Int32))), .val (.int (if (((p1.toUInt32 >>> ((10 : Int32) &&& 31).toUInt32).toInt32) &&& (255 : Int32)) = (((p2.toUInt32 >>> ((10 : Int32) &&& 31).toUInt32).toInt32) &&& (255 : Int32)) then (1 : Int32) else (0 : Int32))), .val (.int (if (((p1.toUInt32 >>> ((18 : Int32) &&& 31).toUInt32).toInt32) &&& (255 : Int32)) = (((p2.toUInt32 >>> ((18 : Int32) &&& 31).toUInt32).toInt32) &&& (255 : Int32)) then (1 : Int32) else (0 : Int32)))] [(.int (if (((p1.toUInt32 >>> ((2 : Int32) &&& 31).toUInt32).toInt32) &&& (255 : Int32)) = (((p2.toUInt32 >>> ((2 : Int32) &&& 31).toUInt32).toInt32) &&& (255 : Int32)) then (1 : Int32) else (0 : Int32)))]))
        exact own_retN X0 hx hlk (t := .boolean) hret (by simp) (hb hby d_sam_100) (by decide) (by decide) (⟨by rw [own_xs1 hl1, own_xs1 (hc8 ▸ hl1)]; exact congrArg (fun z => some (Value.int z)) own_e1, N0, e0⟩)
      · refine OGo.by_ (fun t k => XS.icmpYes X0.here hx rfl (pc0 := 96) (pc' := 101) rfl (hb hby d_sam_96) rfl (feq hl1).2 (by decide) (by decide) k) ?_
        show OGo p e below _ (s₁.setTop (mkF m 101 #[.val (.int p1), .val (.int p2), .val (.int (p1 &&& (3 : Int32))), .val (.int (if (((p1.toUInt32 >>> ((2 : Int32) &&& 31).toUInt32).toInt32) &&& (255 : Int32)) = (((p2.toUInt32 >>> ((2 : Int32) &&& 31).toUInt32).toInt32) &&& (255 : Int32)) then (1 : Int32) else (0 : Int32))), .val (.int (if (((p1.toUInt32 >>> ((10 : Int32) &&& 31).toUInt32).toInt32) &&& (255 : Int32)) = (((p2.toUInt32 >>> ((10 : Int32) &&& 31).toUInt32).toInt32) &&& (255 : Int32)) then (1 : Int32) else (0 : Int32))), .val (.int (if (((p1.toUInt32 >>> ((18 : Int32) &&& 31).toUInt32).toInt32) &&& (255 : Int32)) = (((p2.toUInt32 >>> ((18 : Int32) &&& 31).toUInt32).toInt32) &&& (255 : Int32)) then (1 : Int32) else (0 : Int32)))] []))
        refine OGo.by_ (fun t k => XS.iloadN X0.here hx rfl (hb hby d_sam_101) rfl k) ?_
        show OGo p e below _ (s₁.setTop (mkF m 102 #[.val (.int p1), .val (.int p2), .val (.int (p1 &&& (3 : Int32))), .val (.int (if (((p1.toUInt32 >>> ((2 : Int32) &&& 31).toUInt32).toInt32) &&& (255 : Int32)) = (((p2.toUInt32 >>> ((2 : Int32) &&& 31).toUInt32).toInt32) &&& (255 : Int32)) then (1 : Int32) else (0 : Int32))), .val (.int (if (((p1.toUInt32 >>> ((10 : Int32) &&& 31).toUInt32).toInt32) &&& (255 : Int32)) = (((p2.toUInt32 >>> ((10 : Int32) &&& 31).toUInt32).toInt32) &&& (255 : Int32)) then (1 : Int32) else (0 : Int32))), .val (.int (if (((p1.toUInt32 >>> ((18 : Int32) &&& 31).toUInt32).toInt32) &&& (255 : Int32)) = (((p2.toUInt32 >>> ((18 : Int32) &&& 31).toUInt32).toInt32) &&& (255 : Int32)) then (1 : Int32) else (0 : Int32)))] [(.int (p1 &&& (3 : Int32)))]))
        refine OGo.by_ (fun t k => XS.iconst X0.here hx rfl (hb hby d_sam_102) k) ?_
        show OGo p e below _ (s₁.setTop (mkF m 103 #[.val (.int p1), .val (.int p2), .val (.int (p1 &&& (3 : Int32))), .val (.int (if (((p1.toUInt32 >>> ((2 : Int32) &&& 31).toUInt32).toInt32) &&& (255 : Int32)) = (((p2.toUInt32 >>> ((2 : Int32) &&& 31).toUInt32).toInt32) &&& (255 : Int32)) then (1 : Int32) else (0 : Int32))), .val (.int (if (((p1.toUInt32 >>> ((10 : Int32) &&& 31).toUInt32).toInt32) &&& (255 : Int32)) = (((p2.toUInt32 >>> ((10 : Int32) &&& 31).toUInt32).toInt32) &&& (255 : Int32)) then (1 : Int32) else (0 : Int32))), .val (.int (if (((p1.toUInt32 >>> ((18 : Int32) &&& 31).toUInt32).toInt32) &&& (255 : Int32)) = (((p2.toUInt32 >>> ((18 : Int32) &&& 31).toUInt32).toInt32) &&& (255 : Int32)) then (1 : Int32) else (0 : Int32)))] [(.int (2 : Int32)), (.int (p1 &&& (3 : Int32)))]))
        by_cases hl2 : (p1 &&& (3 : Int32)) = (2 : Int32)
        · refine OGo.by_ (fun t k => XS.icmpNo X0.here hx rfl (hb hby d_sam_103) rfl (teq hl2).2 k) ?_
          show OGo p e below _ (s₁.setTop (mkF m 106 #[.val (.int p1), .val (.int p2), .val (.int (p1 &&& (3 : Int32))), .val (.int (if (((p1.toUInt32 >>> ((2 : Int32) &&& 31).toUInt32).toInt32) &&& (255 : Int32)) = (((p2.toUInt32 >>> ((2 : Int32) &&& 31).toUInt32).toInt32) &&& (255 : Int32)) then (1 : Int32) else (0 : Int32))), .val (.int (if (((p1.toUInt32 >>> ((10 : Int32) &&& 31).toUInt32).toInt32) &&& (255 : Int32)) = (((p2.toUInt32 >>> ((10 : Int32) &&& 31).toUInt32).toInt32) &&& (255 : Int32)) then (1 : Int32) else (0 : Int32))), .val (.int (if (((p1.toUInt32 >>> ((18 : Int32) &&& 31).toUInt32).toInt32) &&& (255 : Int32)) = (((p2.toUInt32 >>> ((18 : Int32) &&& 31).toUInt32).toInt32) &&& (255 : Int32)) then (1 : Int32) else (0 : Int32)))] []))
          refine OGo.by_ (fun t k => XS.iloadN X0.here hx rfl (hb hby d_sam_106) rfl k) ?_
          show OGo p e below _ (s₁.setTop (mkF m 107 #[.val (.int p1), .val (.int p2), .val (.int (p1 &&& (3 : Int32))), .val (.int (if (((p1.toUInt32 >>> ((2 : Int32) &&& 31).toUInt32).toInt32) &&& (255 : Int32)) = (((p2.toUInt32 >>> ((2 : Int32) &&& 31).toUInt32).toInt32) &&& (255 : Int32)) then (1 : Int32) else (0 : Int32))), .val (.int (if (((p1.toUInt32 >>> ((10 : Int32) &&& 31).toUInt32).toInt32) &&& (255 : Int32)) = (((p2.toUInt32 >>> ((10 : Int32) &&& 31).toUInt32).toInt32) &&& (255 : Int32)) then (1 : Int32) else (0 : Int32))), .val (.int (if (((p1.toUInt32 >>> ((18 : Int32) &&& 31).toUInt32).toInt32) &&& (255 : Int32)) = (((p2.toUInt32 >>> ((18 : Int32) &&& 31).toUInt32).toInt32) &&& (255 : Int32)) then (1 : Int32) else (0 : Int32)))] [(.int (if (((p1.toUInt32 >>> ((2 : Int32) &&& 31).toUInt32).toInt32) &&& (255 : Int32)) = (((p2.toUInt32 >>> ((2 : Int32) &&& 31).toUInt32).toInt32) &&& (255 : Int32)) then (1 : Int32) else (0 : Int32)))]))
          have D4 : ∀ t, Steps p.tables e below (s₁.setTop (mkF m 120 #[.val (.int p1), .val (.int p2), .val (.int (p1 &&& (3 : Int32))), .val (.int (if (((p1.toUInt32 >>> ((2 : Int32) &&& 31).toUInt32).toInt32) &&& (255 : Int32)) = (((p2.toUInt32 >>> ((2 : Int32) &&& 31).toUInt32).toInt32) &&& (255 : Int32)) then (1 : Int32) else (0 : Int32))), .val (.int (if (((p1.toUInt32 >>> ((10 : Int32) &&& 31).toUInt32).toInt32) &&& (255 : Int32)) = (((p2.toUInt32 >>> ((10 : Int32) &&& 31).toUInt32).toInt32) &&& (255 : Int32)) then (1 : Int32) else (0 : Int32))), .val (.int (if (((p1.toUInt32 >>> ((18 : Int32) &&& 31).toUInt32).toInt32) &&& (255 : Int32)) = (((p2.toUInt32 >>> ((18 : Int32) &&& 31).toUInt32).toInt32) &&& (255 : Int32)) then (1 : Int32) else (0 : Int32)))] [(.int (if (if (((p1.toUInt32 >>> ((2 : Int32) &&& 31).toUInt32).toInt32) &&& (255 : Int32)) = (((p2.toUInt32 >>> ((2 : Int32) &&& 31).toUInt32).toInt32) &&& (255 : Int32)) then (1 : Int32) else (0 : Int32)) = (0 : Int32) then (0 : Int32) else (if (if (((p1.toUInt32 >>> ((10 : Int32) &&& 31).toUInt32).toInt32) &&& (255 : Int32)) = (((p2.toUInt32 >>> ((10 : Int32) &&& 31).toUInt32).toInt32) &&& (255 : Int32)) then (1 : Int32) else (0 : Int32)) = (0 : Int32) then (0 : Int32) else (1 : Int32))))])) t → Steps p.tables e below (s₁.setTop (mkF m 107 #[.val (.int p1), .val (.int p2), .val (.int (p1 &&& (3 : Int32))), .val (.int (if (((p1.toUInt32 >>> ((2 : Int32) &&& 31).toUInt32).toInt32) &&& (255 : Int32)) = (((p2.toUInt32 >>> ((2 : Int32) &&& 31).toUInt32).toInt32) &&& (255 : Int32)) then (1 : Int32) else (0 : Int32))), .val (.int (if (((p1.toUInt32 >>> ((10 : Int32) &&& 31).toUInt32).toInt32) &&& (255 : Int32)) = (((p2.toUInt32 >>> ((10 : Int32) &&& 31).toUInt32).toInt32) &&& (255 : Int32)) then (1 : Int32) else (0 : Int32))), .val (.int (if (((p1.toUInt32 >>> ((18 : Int32) &&& 31).toUInt32).toInt32) &&& (255 : Int32)) = (((p2.toUInt32 >>> ((18 : Int32) &&& 31).toUInt32).toInt32) &&& (255 : Int32)) then (1 : Int32) else (0 : Int32)))] [(.int (if (((p1.toUInt32 >>> ((2 : Int32) &&& 31).toUInt32).toInt32) &&& (255 : Int32)) = (((p2.toUInt32 >>> ((2 : Int32) &&& 31).toUInt32).toInt32) &&& (255 : Int32)) then (1 : Int32) else (0 : Int32)))])) t := by
            intro t k
            by_cases hc : (if (((p1.toUInt32 >>> ((2 : Int32) &&& 31).toUInt32).toInt32) &&& (255 : Int32)) = (((p2.toUInt32 >>> ((2 : Int32) &&& 31).toUInt32).toInt32) &&& (255 : Int32)) then (1 : Int32) else (0 : Int32)) = (0 : Int32)
            · rw [show (if (if (((p1.toUInt32 >>> ((2 : Int32) &&& 31).toUInt32).toInt32) &&& (255 : Int32)) = (((p2.toUInt32 >>> ((2 : Int32) &&& 31).toUInt32).toInt32) &&& (255 : Int32)) then (1 : Int32) else (0 : Int32)) = (0 : Int32) then (0 : Int32) else (if (if (((p1.toUInt32 >>> ((10 : Int32) &&& 31).toUInt32).toInt32) &&& (255 : Int32)) = (((p2.toUInt32 >>> ((10 : Int32) &&& 31).toUInt32).toInt32) &&& (255 : Int32)) then (1 : Int32) else (0 : Int32)) = (0 : Int32) then (0 : Int32) else (1 : Int32))) = (0 : Int32) from if_pos hc] at k
              refine XS.ifYes X0.here hx rfl (pc0 := 107) (pc' := 119) rfl (hb hby d_sam_107) rfl ((if0 _ _).trans (teq hc).1) (by decide) (by decide) ?_
              show Steps p.tables e below (s₁.setTop (mkF m 119 #[.val (.int p1), .val (.int p2), .val (.int (p1 &&& (3 : Int32))), .val (.int (if (((p1.toUInt32 >>> ((2 : Int32) &&& 31).toUInt32).toInt32) &&& (255 : Int32)) = (((p2.toUInt32 >>> ((2 : Int32) &&& 31).toUInt32).toInt32) &&& (255 : Int32)) then (1 : Int32) else (0 : Int32))), .val (.int (if (((p1.toUInt32 >>> ((10 : Int32) &&& 31).toUInt32).toInt32) &&& (255 : Int32)) = (((p2.toUInt32 >>> ((10 : Int32) &&& 31).toUInt32).toInt32) &&& (255 : Int32)) then (1 : Int32) else (0 : Int32))), .val (.int (if (((p1.toUInt32 >>> ((18 : Int32) &&& 31).toUInt32).toInt32) &&& (255 : Int32)) = (((p2.toUInt32 >>> ((18 : Int32) &&& 31).toUInt32).toInt32) &&& (255 : Int32)) then (1 : Int32) else (0 : Int32)))] [])) _
              refine XS.iconst X0.here hx rfl (hb hby d_sam_119) ?_
              show Steps p.tables e below (s₁.setTop (mkF m 120 #[.val (.int p1), .val (.int p2), .val (.int (p1 &&& (3 : Int32))), .val (.int (if (((p1.toUInt32 >>> ((2 : Int32) &&& 31).toUInt32).toInt32) &&& (255 : Int32)) = (((p2.toUInt32 >>> ((2 : Int32) &&& 31).toUInt32).toInt32) &&& (255 : Int32)) then (1 : Int32) else (0 : Int32))), .val (.int (if (((p1.toUInt32 >>> ((10 : Int32) &&& 31).toUInt32).toInt32) &&& (255 : Int32)) = (((p2.toUInt32 >>> ((10 : Int32) &&& 31).toUInt32).toInt32) &&& (255 : Int32)) then (1 : Int32) else (0 : Int32))), .val (.int (if (((p1.toUInt32 >>> ((18 : Int32) &&& 31).toUInt32).toInt32) &&& (255 : Int32)) = (((p2.toUInt32 >>> ((18 : Int32) &&& 31).toUInt32).toInt32) &&& (255 : Int32)) then (1 : Int32) else (0 : Int32)))] [(.int (0 : Int32))])) _
              first | exact k | (simp only [if_pos hc]; exact k)
            · rw [show (if (if (((p1.toUInt32 >>> ((2 : Int32) &&& 31).toUInt32).toInt32) &&& (255 : Int32)) = (((p2.toUInt32 >>> ((2 : Int32) &&& 31).toUInt32).toInt32) &&& (255 : Int32)) then (1 : Int32) else (0 : Int32)) = (0 : Int32) then (0 : Int32) else (if (if (((p1.toUInt32 >>> ((10 : Int32) &&& 31).toUInt32).toInt32) &&& (255 : Int32)) = (((p2.toUInt32 >>> ((10 : Int32) &&& 31).toUInt32).toInt32) &&& (255 : Int32)) then (1 : Int32) else (0 : Int32)) = (0 : Int32) then (0 : Int32) else (1 : Int32))) = (if (if (((p1.toUInt32 >>> ((10 : Int32) &&& 31).toUInt32).toInt32) &&& (255 : Int32)) = (((p2.toUInt32 >>> ((10 : Int32) &&& 31).toUInt32).toInt32) &&& (255 : Int32)) then (1 : Int32) else (0 : Int32)) = (0 : Int32) then (0 : Int32) else (1 : Int32)) from if_neg hc] at k
              refine XS.ifNo X0.here hx rfl (hb hby d_sam_107) rfl ((if0 _ _).trans (feq hc).1) ?_
              show Steps p.tables e below (s₁.setTop (mkF m 110 #[.val (.int p1), .val (.int p2), .val (.int (p1 &&& (3 : Int32))), .val (.int (if (((p1.toUInt32 >>> ((2 : Int32) &&& 31).toUInt32).toInt32) &&& (255 : Int32)) = (((p2.toUInt32 >>> ((2 : Int32) &&& 31).toUInt32).toInt32) &&& (255 : Int32)) then (1 : Int32) else (0 : Int32))), .val (.int (if (((p1.toUInt32 >>> ((10 : Int32) &&& 31).toUInt32).toInt32) &&& (255 : Int32)) = (((p2.toUInt32 >>> ((10 : Int32) &&& 31).toUInt32).toInt32) &&& (255 : Int32)) then (1 : Int32) else (0 : Int32))), .val (.int (if (((p1.toUInt32 >>> ((18 : Int32) &&& 31).toUInt32).toInt32) &&& (255 : Int32)) = (((p2.toUInt32 >>> ((18 : Int32) &&& 31).toUInt32).toInt32) &&& (255 : Int32)) then (1 : Int32) else (0 : Int32)))] [])) _
              refine XS.iload X0.here hx rfl (hb hby d_sam_110) rfl ?_
              show Steps p.tables e below (s₁.setTop (mkF m 112 #[.val (.int p1), .val (.int p2), .val (.int (p1 &&& (3 : Int32))), .val (.int (if (((p1.toUInt32 >>> ((2 : Int32) &&& 31).toUInt32).toInt32) &&& (255 : Int32)) = (((p2.toUInt32 >>> ((2 : Int32) &&& 31).toUInt32).toInt32) &&& (255 : Int32)) then (1 : Int32) else (0 : Int32))), .val (.int (if (((p1.toUInt32 >>> ((10 : Int32) &&& 31).toUInt32).toInt32) &&& (255 : Int32)) = (((p2.toUInt32 >>> ((10 : Int32) &&& 31).toUInt32).toInt32) &&& (255 : Int32)) then (1 : Int32) else (0 : Int32))), .val (.int (if (((p1.toUInt32 >>> ((18 : Int32) &&& 31).toUInt32).toInt32) &&& (255 : Int32)) = (((p2.toUInt32 >>> ((18 : Int32) &&& 31).toUInt32).toInt32) &&& (255 : Int32)) then (1 : Int32) else (0 : Int32)))] [(.int (if (((p1.toUInt32 >>> ((10 : Int32) &&& 31).toUInt32).toInt32) &&& (255 : Int32)) = (((p2.toUInt32 >>> ((10 : Int32) &&& 31).toUInt32).toInt32) &&& (255 : Int32)) then (1 : Int32) else (0 : Int32)))])) _
              have D5 : ∀ t, Steps p.tables e below (s₁.setTop (mkF m 120 #[.val (.int p1), .val (.int p2), .val (.int (p1 &&& (3 : Int32))), .val (.int (if (((p1.toUInt32 >>> ((2 : Int32) &&& 31).toUInt32).toInt32) &&& (255 : Int32)) = (((p2.toUInt32 >>> ((2 : Int32) &&& 31).toUInt32).toInt32) &&& (255 : Int32)) then (1 : Int32) else (0 : Int32))), .val (.int (if (((p1.toUInt32 >>> ((10 : Int32) &&& 31).toUInt32).toInt32) &&& (255 : Int32)) = (((p2.toUInt32 >>> ((10 : Int32) &&& 31).toUInt32).toInt32) &&& (255 : Int32)) then (1 : Int32) else (0 : Int32))), .val (.int (if (((p1.toUInt32 >>> ((18 : Int32) &&& 31).toUInt32).toInt32) &&& (255 : Int32)) = (((p2.toUInt32 >>> ((18 : Int32) &&& 31).toUInt32).toInt32) &&& (255 : Int32)) then (1 : Int32) else (0 : Int32)))] [(.int (if (if (((p1.toUInt32 >>> ((10 : Int32) &&& 31).toUInt32).toInt32) &&& (255 : Int32)) = (((p2.toUInt32 >>> ((10 : Int32) &&& 31).toUInt32).toInt32) &&& (255 : Int32)) then (1 : Int32) else (0 : Int32)) = (0 : Int32) then (0 : Int32) else (1 : Int32)))])) t → Steps p.tables e below (s₁.setTop (mkF m 112 #[.val (.int p1), .val (.int p2), .val (.int (p1 &&& (3 : Int32))), .val (.int (if (((p1.toUInt32 >>> ((2 : Int32) &&& 31).toUInt32).toInt32) &&& (255 : Int32)) = (((p2.toUInt32 >>> ((2 : Int32) &&& 31).toUInt32).toInt32) &&& (255 : Int32)) then (1 : Int32) else (0 : Int32))), .val (.int (if (((p1.toUInt32 >>> ((10 : Int32) &&& 31).toUInt32).toInt32) &&& (255 : Int32)) = (((p2.toUInt32 >>> ((10 : Int32) &&& 31).toUInt32).toInt32) &&& (255 : Int32)) then (1 : Int32) else (0 : Int32))), .val (.int (if (((p1.toUInt32 >>> ((18 : Int32) &&& 31).toUInt32).toInt32) &&& (255 : Int32)) = (((p2.toUInt32 >>> ((18 : Int32) &&& 31).toUInt32).toInt32) &&& (255 : Int32)) then (1 : Int32) else (0 : Int32)))] [(.int (if (((p1.toUInt32 >>> ((10 : Int32) &&& 31).toUInt32).toInt32) &&& (255 : Int32)) = (((p2.toUInt32 >>> ((10 : Int32) &&& 31).toUInt32).toInt32) &&& (255 : Int32)) then (1 : Int32) else (0 : Int32)))])) t := by
                intro t k
                by_cases hc : (if (((p1.toUInt32 >>> ((10 : Int32) &&& 31).toUInt32).toInt32) &&& (255 : Int32)) = (((p2.toUInt32 >>> ((10 : Int32) &&& 31).toUInt32).toInt32) &&& (255 : Int32)) then (1 : Int32) else (0 : Int32)) = (0 : Int32)
                · rw [show (if (if (((p1.toUInt32 >>> ((10 : Int32) &&& 31).toUInt32).toInt32) &&& (255 : Int32)) = (((p2.toUInt32 >>> ((10 : Int32) &&& 31).toUInt32).toInt32) &&& (255 : Int32)) then (1 : Int32) else (0 : Int32)) = (0 : Int32) then (0 : Int32) else (1 : Int32)) = (0 : Int32) from if_pos hc] at k
                  refine XS.ifYes X0.here hx rfl (pc0 := 112) (pc' := 119) rfl (hb hby d_sam_112) rfl ((if0 _ _).trans (teq hc).1) (by decide) (by decide) ?_
                  show Steps p.tables e below (s₁.setTop (mkF m 119 #[.val (.int p1), .val (.int p2), .val (.int (p1 &&& (3 : Int32))), .val (.int (if (((p1.toUInt32 >>> ((2 : Int32) &&& 31).toUInt32).toInt32) &&& (255 : Int32)) = (((p2.toUInt32 >>> ((2 : Int32) &&& 31).toUInt32).toInt32) &&& (255 : Int32)) then (1 : Int32) else (0 : Int32))), .val (.int (if (((p1.toUInt32 >>> ((10 : Int32) &&& 31).toUInt32).toInt32) &&& (255 : Int32)) = (((p2.toUInt32 >>> ((10 : Int32) &&& 31).toUInt32).toInt32) &&& (255 : Int32)) then (1 : Int32) else (0 : Int32))), .val (.int (if (((p1.toUInt32 >>> ((18 : Int32) &&& 31).toUInt32).toInt32) &&& (255 : Int32)) = (((p2.toUInt32 >>> ((18 : Int32) &&& 31).toUInt32).toInt32) &&& (255 : Int32)) then (1 : Int32) else (0 : Int32)))] [])) _
                  refine XS.iconst X0.here hx rfl (hb hby d_sam_119) ?_
                  show Steps p.tables e below (s₁.setTop (mkF m 120 #[.val (.int p1), .val (.int p2), .val (.int (p1 &&& (3 : Int32))), .val (.int (if (((p1.toUInt32 >>> ((2 : Int32) &&& 31).toUInt32).toInt32) &&& (255 : Int32)) = (((p2.toUInt32 >>> ((2 : Int32) &&& 31).toUInt32).toInt32) &&& (255 : Int32)) then (1 : Int32) else (0 : Int32))), .val (.int (if (((p1.toUInt32 >>> ((10 : Int32) &&& 31).toUInt32).toInt32) &&& (255 : Int32)) = (((p2.toUInt32 >>> ((10 : Int32) &&& 31).toUInt32).toInt32) &&& (255 : Int32)) then (1 : Int32) else (0 : Int32))), .val (.int (if (((p1.toUInt32 >>> ((18 : Int32) &&& 31).toUInt32).toInt32) &&& (255 : Int32)) = (((p2.toUInt32 >>> ((18 : Int32) &&& 31).toUInt32).toInt32) &&& (255 : Int32)) then (1 : Int32) else (0 : Int32)))] [(.int (0 : Int32))])) _
                  first | exact k | (simp only [if_pos hc]; exact k)
                · rw [show (if (if (((p1.toUInt32 >>> ((10 : Int32) &&& 31).toUInt32).toInt32) &&& (255 : Int32)) = (((p2.toUInt32 >>> ((10 : Int32) &&& 31).toUInt32).toInt32) &&& (255 : Int32)) then (1 : Int32) else (0 : Int32)) = (0 : Int32) then (0 : Int32) else (1 : Int32)) = (1 : Int32) from if_neg hc] at k
                  refine XS.ifNo X0.here hx rfl (hb hby d_sam_112) rfl ((if0 _ _).trans (feq hc).1) ?_
                  show Steps p.tables e below (s₁.setTop (mkF m 115 #[.val (.int p1), .val (.int p2), .val (.int (p1 &&& (3 : Int32))), .val (.int (if (((p1.toUInt32 >>> ((2 : Int32) &&& 31).toUInt32).toInt32) &&& (255 : Int32)) = (((p2.toUInt32 >>> ((2 : Int32) &&& 31).toUInt32).toInt32) &&& (255 : Int32)) then (1 : Int32) else (0 : Int32))), .val (.int (if (((p1.toUInt32 >>> ((10 : Int32) &&& 31).toUInt32).toInt32) &&& (255 : Int32)) = (((p2.toUInt32 >>> ((10 : Int32) &&& 31).toUInt32).toInt32) &&& (255 : Int32)) then (1 : Int32) else (0 : Int32))), .val (.int (if (((p1.toUInt32 >>> ((18 : Int32) &&& 31).toUInt32).toInt32) &&& (255 : Int32)) = (((p2.toUInt32 >>> ((18 : Int32) &&& 31).toUInt32).toInt32) &&& (255 : Int32)) then (1 : Int32) else (0 : Int32)))] [])) _
                  refine XS.iconst X0.here hx rfl (hb hby d_sam_115) ?_
                  show Steps p.tables e below (s₁.setTop (mkF m 116 #[.val (.int p1), .val (.int p2), .val (.int (p1 &&& (3 : Int32))), .val (.int (if (((p1.toUInt32 >>> ((2 : Int32) &&& 31).toUInt32).toInt32) &&& (255 : Int32)) = (((p2.toUInt32 >>> ((2 : Int32) &&& 31).toUInt32).toInt32) &&& (255 : Int32)) then (1 : Int32) else (0 : Int32))), .val (.int (if (((p1.toUInt32 >>> ((10 : Int32) &&& 31).toUInt32).toInt32) &&& (255 : Int32)) = (((p2.toUInt32 >>> ((10 : Int32) &&& 31).toUInt32).toInt32) &&& (255 : Int32)) then (1 : Int32) else (0 : Int32))), .val (.int (if (((p1.toUInt32 >>> ((18 : Int32) &&& 31).toUInt32).toInt32) &&& (255 : Int32)) = (((p2.toUInt32 >>> ((18 : Int32) &&& 31).toUInt32).toInt32) &&& (255 : Int32)) then (1 : Int32) else (0 : Int32)))] [(.int (1 : Int32))])) _
                  refine XS.goto X0.here hx rfl (pc0 := 116) (pc' := 120) rfl (hb hby d_sam_116) (by decide) (by decide) ?_
                  show Steps p.tables e below (s₁.setTop (mkF m 120 #[.val (.int p1), .val (.int p2), .val (.int (p1 &&& (3 : Int32))), .val (.int (if (((p1.toUInt32 >>> ((2 : Int32) &&& 31).toUInt32).toInt32) &&& (255 : Int32)) = (((p2.toUInt32 >>> ((2 : Int32) &&& 31).toUInt32).toInt32) &&& (255 : Int32)) then (1 : Int32) else (0 : Int32))), .val (.int (if (((p1.toUInt32 >>> ((10 : Int32) &&& 31).toUInt32).toInt32) &&& (255 : Int32)) = (((p2.toUInt32 >>> ((10 : Int32) &&& 31).toUInt32).toInt32) &&& (255 : Int32)) then (1 : Int32) else (0 : Int32))), .val (.int (if (((p1.toUInt32 >>> ((18 : Int32) &&& 31).toUInt32).toInt32) &&& (255 : Int32)) = (((p2.toUInt32 >>> ((18 : Int32) &&& 31).toUInt32).toInt32) &&& (255 : Int32)) then (1 : Int32) else (0 : Int32)))] [(.int (1 : Int32))])) _
                  first | exact k | (simp only [if_neg hc]; exact k)
              refine D5 _ ?_
              show Steps p.tables e below (s₁.setTop (mkF m 120 #[.val (.int p1), .val (.int p2), .val (.int (p1 &&& (3 : Int32))), .val (.int (if (((p1.toUInt32 >>> ((2 : Int32) &&& 31).toUInt32).toInt32) &&& (255 : Int32)) = (((p2.toUInt32 >>> ((2 : Int32) &&& 31).toUInt32).toInt32) &&& (255 : Int32)) then (1 : Int32) else (0 : Int32))), .val (.int (if (((p1.toUInt32 >>> ((10 : Int32) &&& 31).toUInt32).toInt32) &&& (255 : Int32)) = (((p2.toUInt32 >>> ((10 : Int32) &&& 31).toUInt32).toInt32) &&& (255 : Int32)) then (1 : Int32) else (0 : Int32))), .val (.int (if (((p1.toUInt32 >>> ((18 : Int32) &&& 31).toUInt32).toInt32) &&& (255 : Int32)) = (((p2.toUInt32 >>> ((18 : Int32) &&& 31).toUInt32).toInt32) &&& (255 : Int32)) then (1 : Int32) else (0 : Int32)))] [(.int (if (if (((p1.toUInt32 >>> ((10 : Int32) &&& 31).toUInt32).toInt32) &&& (255 : Int32)) = (((p2.toUInt32 >>> ((10 : Int32) &&& 31).toUInt32).toInt32) &&& (255 : Int32)) then (1 : Int32) else (0 : Int32)) = (0 : Int32) then (0 : Int32) else (1 : Int32)))])) _
              first | exact k | (simp only [if_neg hc]; exact k)
          refine OGo.by_ D4 ?_
          show OGo p e below _ (s₁.setTop (mkF m 120 #[.val (.int p1), .val (.int p2), .val (.int (p1 &&& (3 : Int32))), .val (.int (if (((p1.toUInt32 >>> ((2 : Int32) &&& 31).toUInt32).toInt32) &&& (255 : Int32)) = (((p2.toUInt32 >>> ((2 : Int32) &&& 31).toUInt32).toInt32) &&& (255 : Int32)) then (1 : Int32) else (0 : Int32))), .val (.int (if (((p1.toUInt32 >>> ((10 : Int32) &&& 31).toUInt32).toInt32) &&& (255 : Int32)) = (((p2.toUInt32 >>> ((10 : Int32) &&& 31).toUInt32).toInt32) &&& (255 : Int32)) then (1 : Int32) else (0 : Int32))), .val (.int (if (((p1.toUInt32 >>> ((18 : Int32) &&& 31).toUInt32).toInt32) &&& (255 : Int32)) = (((p2.toUInt32 >>> ((18 : Int32) &&& 31).toUInt32).toInt32) &&& (255 : Int32)) then (1 : Int32) else (0 : Int32)))] [(.int (if (if (((p1.toUInt32 >>> ((2 : Int32) &&& 31).toUInt32).toInt32) &&& (255 : Int32)) = (((p2.toUInt32 >>> ((2 : Int32) &&& 31).toUInt32).toInt32) &&& (255 : Int32)) then (1 : Int32) else (0 : Int32)) = (0 : Int32) then (0 : Int32) else (if (if (((p1.toUInt32 >>> ((10 : Int32) &&& 31).toUInt32).toInt32) &&& (255 : Int32)) = (((p2.toUInt32 >>> ((10 : Int32) &&& 31).toUInt32).toInt32) &&& (255 : Int32)) then (1 : Int32) else (0 : Int32)) = (0 : Int32) then (0 : Int32) else (1 : Int32))))]))
          exact own_retN X0 hx hlk (t := .boolean) hret (by simp) (hb hby d_sam_120) (by decide) (by decide) (⟨by rw [own_xs2 hl2, own_xs2 (hc8 ▸ hl2)]; exact congrArg (fun z => some (Value.int z)) own_e2, N0, e0⟩)
        · refine OGo.by_ (fun t k => XS.icmpYes X0.here hx rfl (pc0 := 103) (pc' := 121) rfl (hb hby d_sam_103) rfl (feq hl2).2 (by decide) (by decide) k) ?_
          show OGo p e below _ (s₁.setTop (mkF m 121 #[.val (.int p1), .val (.int p2), .val (.int (p1 &&& (3 : Int32))), .val (.int (if (((p1.toUInt32 >>> ((2 : Int32) &&& 31).toUInt32).toInt32) &&& (255 : Int32)) = (((p2.toUInt32 >>> ((2 : Int32) &&& 31).toUInt32).toInt32) &&& (255 : Int32)) then (1 : Int32) else (0 : Int32))), .val (.int (if (((p1.toUInt32 >>> ((10 : Int32) &&& 31).toUInt32).toInt32) &&& (255 : Int32)) = (((p2.toUInt32 >>> ((10 : Int32) &&& 31).toUInt32).toInt32) &&& (255 : Int32)) then (1 : Int32) else (0 : Int32))), .val (.int (if (((p1.toUInt32 >>> ((18 : Int32) &&& 31).toUInt32).toInt32) &&& (255 : Int32)) = (((p2.toUInt32 >>> ((18 : Int32) &&& 31).toUInt32).toInt32) &&& (255 : Int32)) then (1 : Int32) else (0 : Int32)))] []))
          refine OGo.by_ (fun t k => XS.iloadN X0.here hx rfl (hb hby d_sam_121) rfl k) ?_
          show OGo p e below _ (s₁.setTop (mkF m 122 #[.val (.int p1), .val (.int p2), .val (.int (p1 &&& (3 : Int32))), .val (.int (if (((p1.toUInt32 >>> ((2 : Int32) &&& 31).toUInt32).toInt32) &&& (255 : Int32)) = (((p2.toUInt32 >>> ((2 : Int32) &&& 31).toUInt32).toInt32) &&& (255 : Int32)) then (1 : Int32) else (0 : Int32))), .val (.int (if (((p1.toUInt32 >>> ((10 : Int32) &&& 31).toUInt32).toInt32) &&& (255 : Int32)) = (((p2.toUInt32 >>> ((10 : Int32) &&& 31).toUInt32).toInt32) &&& (255 : Int32)) then (1 : Int32) else (0 : Int32))), .val (.int (if (((p1.toUInt32 >>> ((18 : Int32) &&& 31).toUInt32).toInt32) &&& (255 : Int32)) = (((p2.toUInt32 >>> ((18 : Int32) &&& 31).toUInt32).toInt32) &&& (255 : Int32)) then (1 : Int32) else (0 : Int32)))] [(.int (if (((p1.toUInt32 >>> ((2 : Int32) &&& 31).toUInt32).toInt32) &&& (255 : Int32)) = (((p2.toUInt32 >>> ((2 : Int32) &&& 31).toUInt32).toInt32) &&& (255 : Int32)) then (1 : Int32) else (0 : Int32)))]))
          have D6 : ∀ t, Steps p.tables e below (s₁.setTop (mkF m 140 #[.val (.int p1), .val (.int p2), .val (.int (p1 &&& (3 : Int32))), .val (.int (if (((p1.toUInt32 >>> ((2 : Int32) &&& 31).toUInt32).toInt32) &&& (255 : Int32)) = (((p2.toUInt32 >>> ((2 : Int32) &&& 31).toUInt32).toInt32) &&& (255 : Int32)) then (1 : Int32) else (0 : Int32))), .val (.int (if (((p1.toUInt32 >>> ((10 : Int32) &&& 31).toUInt32).toInt32) &&& (255 : Int32)) = (((p2.toUInt32 >>> ((10 : Int32) &&& 31).toUInt32).toInt32) &&& (255 : Int32)) then (1 : Int32) else (0 : Int32))), .val (.int (if (((p1.toUInt32 >>> ((18 : Int32) &&& 31).toUInt32).toInt32) &&& (255 : Int32)) = (((p2.toUInt32 >>> ((18 : Int32) &&& 31).toUInt32).toInt32) &&& (255 : Int32)) then (1 : Int32) else (0 : Int32)))] [(.int (if (if (((p1.toUInt32 >>> ((2 : Int32) &&& 31).toUInt32).toInt32) &&& (255 : Int32)) = (((p2.toUInt32 >>> ((2 : Int32) &&& 31).toUInt32).toInt32) &&& (255 : Int32)) then (1 : Int32) else (0 : Int32)) = (0 : Int32) then (0 : Int32) else (if (if (((p1.toUInt32 >>> ((10 : Int32) &&& 31).toUInt32).toInt32) &&& (255 : Int32)) = (((p2.toUInt32 >>> ((10 : Int32) &&& 31).toUInt32).toInt32) &&& (255 : Int32)) then (1 : Int32) else (0 : Int32)) = (0 : Int32) then (0 : Int32) else (if (if (((p1.toUInt32 >>> ((18 : Int32) &&& 31).toUInt32).toInt32) &&& (255 : Int32)) = (((p2.toUInt32 >>> ((18 : Int32) &&& 31).toUInt32).toInt32) &&& (255 : Int32)) then (1 : Int32) else (0 : Int32)) = (0 : Int32) then (0 : Int32) else (1 : Int32)))))])) t → Steps p.tables e below (s₁.setTop (mkF m 122 #[.val (.int p1), .val (.int p2), .val (.int (p1 &&& (3 : Int32))), .val (.int (if (((p1.toUInt32 >>> ((2 : Int32) &&& 31).toUInt32).toInt32) &&& (255 : Int32)) = (((p2.toUInt32 >>> ((2 : Int32) &&& 31).toUInt32).toInt32) &&& (255 : Int32)) then (1 : Int32) else (0 : Int32))), .val (.int (if (((p1.toUInt32 >>> ((10 : Int32) &&& 31).toUInt32).toInt32) &&& (255 : Int32)) = (((p2.toUInt32 >>> ((10 : Int32) &&& 31).toUInt32).toInt32) &&& (255 : Int32)) then (1 : Int32) else (0 : Int32))), .val (.int (if (((p1.toUInt32 >>> ((18 : Int32) &&& 31).toUInt32).toInt32) &&& (255 : Int32)) = (((p2.toUInt32 >>> ((18 : Int32) &&& 31).toUInt32).toInt32) &&& (255 : Int32)) then (1 : Int32) else (0 : Int32)))] [(.int (if (((p1.toUInt32 >>> ((2 : Int32) &&& 31).toUInt32).toInt32) &&& (255 : Int32)) = (((p2.toUInt32 >>> ((2 : Int32) &&& 31).toUInt32).toInt32) &&& (255 : Int32)) then (1 : Int32) else (0 : Int32)))])) t := by
            intro t k
            by_cases hc : (if (((p1.toUInt32 >>> ((2 : Int32) &&& 31).toUInt32).toInt32) &&& (255 : Int32)) = (((p2.toUInt32 >>> ((2 : Int32) &&& 31).toUInt32).toInt32) &&& (255 : Int32)) then (1 : Int32) else (0 : Int32)) = (0 : Int32)
            · rw [show (if (if (((p1.toUInt32 >>> ((2 : Int32) &&& 31).toUInt32).toInt32) &&& (255 : Int32)) = (((p2.toUInt32 >>> ((2 : Int32) &&& 31).toUInt32).toInt32) &&& (255 : Int32)) then (1 : Int32) else (0 : Int32)) = (0 : Int32) then (0 : Int32) else (if (if (((p1.toUInt32 >>> ((10 : Int32) &&& 31).toUInt32).toInt32) &&& (255 : Int32)) = (((p2.toUInt32 >>> ((10 : Int32) &&& 31).toUInt32).toInt32) &&& (255 : Int32)) then (1 : Int32) else (0 : Int32)) = (0 : Int32) then (0 : Int32) else (if (if (((p1.toUInt32 >>> ((18 : Int32) &&& 31).toUInt32).toInt32) &&& (255 : Int32)) = (((p2.toUInt32 >>> ((18 : Int32) &&& 31).toUInt32).toInt32) &&& (255 : Int32)) then (1 : Int32) else (0 : Int32)) = (0 : Int32) then (0 : Int32) else (1 : Int32)))) = (0 : Int32) from if_pos hc] at k
              refine XS.ifYes X0.here hx rfl (pc0 := 122) (pc' := 139) rfl (hb hby d_sam_122) rfl ((if0 _ _).trans (teq hc).1) (by decide) (by decide) ?_
              show Steps p.tables e below (s₁.setTop (mkF m 139 #[.val (.int p1), .val (.int p2), .val (.int (p1 &&& (3 : Int32))), .val (.int (if (((p1.toUInt32 >>> ((2 : Int32) &&& 31).toUInt32).toInt32) &&& (255 : Int32)) = (((p2.toUInt32 >>> ((2 : Int32) &&& 31).toUInt32).toInt32) &&& (255 : Int32)) then (1 : Int32) else (0 : Int32))), .val (.int (if (((p1.toUInt32 >>> ((10 : Int32) &&& 31).toUInt32).toInt32) &&& (255 : Int32)) = (((p2.toUInt32 >>> ((10 : Int32) &&& 31).toUInt32).toInt32) &&& (255 : Int32)) then (1 : Int32) else (0 : Int32))), .val (.int (if (((p1.toUInt32 >>> ((18 : Int32) &&& 31).toUInt32).toInt32) &&& (255 : Int32)) = (((p2.toUInt32 >>> ((18 : Int32) &&& 31).toUInt32).toInt32) &&& (255 : Int32)) then (1 : Int32) else (0 : Int32)))] [])) _
              refine XS.iconst X0.here hx rfl (hb hby d_sam_139) ?_
              show Steps p.tables e below (s₁.setTop (mkF m 140 #[.val (.int p1), .val (.int p2), .val (.int (p1 &&& (3 : Int32))), .val (.int (if (((p1.toUInt32 >>> ((2 : Int32) &&& 31).toUInt32).toInt32) &&& (255 : Int32)) = (((p2.toUInt32 >>> ((2 : Int32) &&& 31).toUInt32).toInt32) &&& (255 : Int32)) then (1 : Int32) else (0 : Int32))), .val (.int (if (((p1.toUInt32 >>> ((10 : Int32) &&& 31).toUInt32).toInt32) &&& (255 : Int32)) = (((p2.toUInt32 >>> ((10 : Int32) &&& 31).toUInt32).toInt32) &&& (255 : Int32)) then (1 : Int32) else (0 : Int32))), .val (.int (if (((p1.toUInt32 >>> ((18 : Int32) &&& 31).toUInt32).toInt32) &&& (255 : Int32)) = (((p2.toUInt32 >>> ((18 : Int32) &&& 31).toUInt32).toInt32) &&& (255 : Int32)) then (1 : Int32) else (0 : Int32)))] [(.int (0 : Int32))])) _
              first | exact k | (simp only [if_pos hc]; exact k)
            · rw [show (if (if (((p1.toUInt32 >>> ((2 : Int32) &&& 31).toUInt32).toInt32) &&& (255 : Int32)) = (((p2.toUInt32 >>> ((2 : Int32) &&& 31).toUInt32).toInt32) &&& (255 : Int32)) then (1 : Int32) else (0 : Int32)) = (0 : Int32) then (0 : Int32) else (if (if (((p1.toUInt32 >>> ((10 : Int32) &&& 31).toUInt32).toInt32) &&& (255 : Int32)) = (((p2.toUInt32 >>> ((10 : Int32) &&& 31).toUInt32).toInt32) &&& (255 : Int32)) then (1 : Int32) else (0 : Int32)) = (0 : Int32) then (0 : Int32) else (if (if (((p1.toUInt32 >>> ((18 : Int32) &&& 31).toUInt32).toInt32) &&& (255 : Int32)) = (((p2.toUInt32 >>> ((18 : Int32) &&& 31).toUInt32).toInt32) &&& (255 : Int32)) then (1 : Int32) else (0 : Int32)) = (0 : Int32) then (0 : Int32) else (1 : Int32)))) = (if (if (((p1.toUInt32 >>> ((10 : Int32) &&& 31).toUInt32).toInt32) &&& (255 : Int32)) = (((p2.toUInt32 >>> ((10 : Int32) &&& 31).toUInt32).toInt32) &&& (255 : Int32)) then (1 : Int32) else (0 : Int32)) = (0 : Int32) then (0 : Int32) else (if (if (((p1.toUInt32 >>> ((18 : Int32) &&& 31).toUInt32).toInt32) &&& (255 : Int32)) = (((p2.toUInt32 >>> ((18 : Int32) &&& 31).toUInt32).toInt32) &&& (255 : Int32)) then (1 : Int32) else (0 : Int32)) = (0 : Int32) then (0 : Int32) else (1 : Int32))) from if_neg hc] at k
              refine XS.ifNo X0.here hx rfl (hb hby d_sam_122) rfl ((if0 _ _).trans (feq hc).1) ?_
              show Steps p.tables e below (s₁.setTop (mkF m 125 #[.val (.int p1), .val (.int p2), .val (.int (p1 &&& (3 : Int32))), .val (.int (if (((p1.toUInt32 >>> ((2 : Int32) &&& 31).toUInt32).toInt32) &&& (255 : Int32)) = (((p2.toUInt32 >>> ((2 : Int32) &&& 31).toUInt32).toInt32) &&& (255 : Int32)) then (1 : Int32) else (0 : Int32))), .val (.int (if (((p1.toUInt32 >>> ((10 : Int32) &&& 31).toUInt32).toInt32) &&& (255 : Int32)) = (((p2.toUInt32 >>> ((10 : Int32) &&& 31).toUInt32).toInt32) &&& (255 : Int32)) then (1 : Int32) else (0 : Int32))), .val (.int (if (((p1.toUInt32 >>> ((18 : Int32) &&& 31).toUInt32).toInt32) &&& (255 : Int32)) = (((p2.toUInt32 >>> ((18 : Int32) &&& 31).toUInt32).toInt32) &&& (255 : Int32)) then (1 : Int32) else (0 : Int32)))] [])) _
              refine XS.iload X0.here hx rfl (hb hby d_sam_125) rfl ?_
              show Steps p.tables e below (s₁.setTop (mkF m 127 #[.val (.int p1), .val (.int p2), .val (.int (p1 &&& (3 : Int32))), .val (.int (if (((p1.toUInt32 >>> ((2 : Int32) &&& 31).toUInt32).toInt32) &&& (255 : Int32)) = (((p2.toUInt32 >>> ((2 : Int32) &&& 31).toUInt32).toInt32) &&& (255 : Int32)) then (1 : Int32) else (0 : Int32))), .val (.int (if (((p1.toUInt32 >>> ((10 : Int32) &&& 31).toUInt32).toInt32) &&& (255 : Int32)) = (((p2.toUInt32 >>> ((10 : Int32) &&& 31).toUInt32).toInt32) &&& (255 : Int32)) then (1 : Int32) else (0 : Int32))), .val (.int (if (((p1.toUInt32 >>> ((18 : Int32) &&& 31).toUInt32).toInt32) &&& (255 : Int32)) = (((p2.toUInt32 >>> ((18 : Int32) &&& 31).toUInt32).toInt32) &&& (255 : Int32)) then (1 : Int32) else (0 : Int32)))] [(.int (if (((p1.toUInt32 >>> ((10 : Int32) &&& 31).toUInt32).toInt32) &&& (255 : Int32)) = (((p2.toUInt32 >>> ((10 : Int32) &&& 31).toUInt32).toInt32) &&& (255 : Int32)) then (1 : Int32) else (0 : Int32)))])) _
              have D7 : ∀ t, Steps p.tables e below (s₁.setTop (mkF m 140 #[.val (.int p1), .val (.int p2), .val (.int (p1 &&& (3 : Int32))), .val (.int (if (((p1.toUInt32 >>> ((2 : Int32) &&& 31).toUInt32).toInt32) &&& (255 : Int32)) = (((p2.toUInt32 >>> ((2 : Int32) &&& 31).toUInt32).toInt32) &&& (255 : Int32)) then (1 : Int32) else (0 : Int32))), .val (.int (if (((p1.toUInt32 >>> ((10 : Int32) &&& 31).toUInt32).toInt32) &&& (255 : Int32)) = (((p2.toUInt32 >>> ((10 : Int32) &&& 31).toUInt32).toInt32) &&& (255 : Int32)) then (1 : Int32) else (0 : Int32))), .val (.int (if (((p1.toUInt32 >>> ((18 : Int32) &&& 31).toUInt32).toInt32) &&& (255 : Int32)) = (((p2.toUInt32 >>> ((18 : Int32) &&& 31).toUInt32).toInt32) &&& (255 : Int32)) then (1 : Int32) else (0 : Int32)))] [(.int (if (if (((p1.toUInt32 >>> ((10 : Int32) &&& 31).toUInt32).toInt32) &&& (255 : Int32)) = (((p2.toUInt32 >>> ((10 : Int32) &&& 31).toUInt32).toInt32) &&& (255 : Int32)) then (1 : Int32) else (0 : Int32)) = (0 : Int32) then (0 : Int32) else (if (if (((p1.toUInt32 >>> ((18 : Int32) &&& 31).toUInt32).toInt32) &&& (255 : Int32)) = (((p2.toUInt32 >>> ((18 : Int32) &&& 31).toUInt32).toInt32) &&& (255 : Int32)) then (1 : Int32) else (0 : Int32)) = (0 : Int32) then (0 : Int32) else (1 : Int32))))])) t → Steps p.tables e below (s₁.setTop (mkF m 127 #[.val (.int p1), .val (.int p2), .val (.int (p1 &&& (3 : Int32))), .val (.int (if (((p1.toUInt32 >>> ((2 : Int32) &&& 31).toUInt32).toInt32) &&& (255 : Int32)) = (((p2.toUInt32 >>> ((2 : Int32) &&& 31).toUInt32).toInt32) &&& (255 : Int32)) then (1 : Int32) else (0 : Int32))), .val (.int (if (((p1.toUInt32 >>> ((10 : Int32) &&& 31).toUInt32).toInt32) &&& (255 : Int32)) = (((p2.toUInt32 >>> ((10 : Int32) &&& 31).toUInt32).toInt32) &&& (255 : Int32)) then (1 : Int32) else (0 : Int32))), .val (.int (if (((p1.toUInt32 >>> ((18 : Int32) &&& 31).toUInt32).toInt32) &&& (255 : Int32)) = (((p2.toUInt32 >>> ((18 : Int32) &&& 31).toUInt32).toInt32) &&& (255 : Int32)) then (1 : Int32) else (0 : Int32)))] [(.int (if (((p1.toUInt32 >>> ((10 : Int32) &&& 31).toUInt32).toInt32) &&& (255 : Int32)) = (((p2.toUInt32 >>> ((10 : Int32) &&& 31).toUInt32).toInt32) &&& (255 : Int32)) then (1 : Int32) else (0 : Int32)))])) t := by
                intro t k
                by_cases hc : (if (((p1.toUInt32 >>> ((10 : Int32) &&& 31).toUInt32).toInt32) &&& (255 : Int32)) = (((p2.toUInt32 >>> ((10 : Int32) &&& 31).toUInt32).toInt32) &&& (255 : Int32)) then (1 : Int32) else (0 : Int32)) = (0 : Int32)
                · rw [show (if (if (((p1.toUInt32 >>> ((10 : Int32) &&& 31).toUInt32).toInt32) &&& (255 : Int32)) = (((p2.toUInt32 >>> ((10 : Int32) &&& 31).toUInt32).toInt32) &&& (255 : Int32)) then (1 : Int32) else (0 : Int32)) = (0 : Int32) then (0 : Int32) else (if (if (((p1.toUInt32 >>> ((18 : Int32) &&& 31).toUInt32).toInt32) &&& (255 : Int32)) = (((p2.toUInt32 >>> ((18 : Int32) &&& 31).toUInt32).toInt32) &&& (255 : Int32)) then (1 : Int32) else (0 : Int32)) = (0 : Int32) then (0 : Int32) else (1 : Int32))) = (0 : Int32) from if_pos hc] at k
                  refine XS.ifYes X0.here hx rfl (pc0 := 127) (pc' := 139) rfl (hb hby d_sam_127) rfl ((if0 _ _).trans (teq hc).1) (by decide) (by decide) ?_
                  show Steps p.tables e below (s₁.setTop (mkF m 139 #[.val (.int p1), .val (.int p2), .val (.int (p1 &&& (3 : Int32))), .val (.int (if (((p1.toUInt32 >>> ((2 : Int32) &&& 31).toUInt32).toInt32) &&& (255 : Int32)) = (((p2.toUInt32 >>> ((2 : Int32) &&& 31).toUInt32).toInt32) &&& (255 : Int32)) then (1 : Int32) else (0 : Int32))), .val (.int (if (((p1.toUInt32 >>> ((10 : Int32) &&& 31).toUInt32).toInt32) &&& (255 : Int32)) = (((p2.toUInt32 >>> ((10 : Int32) &&& 31).toUInt32).toInt32) &&& (255 : Int32)) then (1 : Int32) else (0 : Int32))), .val (.int (if (((p1.toUInt32 >>> ((18 : Int32) &&& 31).toUInt32).toInt32) &&& (255 : Int32)) = (((p2.toUInt32 >>> ((18 : Int32) &&& 31).toUInt32).toInt32) &&& (255 : Int32)) then (1 : Int32) else (0 : Int32)))] [])) _
                  refine XS.iconst X0.here hx rfl (hb hby d_sam_139) ?_
                  show Steps p.tables e below (s₁.setTop (mkF m 140 #[.val (.int p1), .val (.int p2), .val (.int (p1 &&& (3 : Int32))), .val (.int (if (((p1.toUInt32 >>> ((2 : Int32) &&& 31).toUInt32).toInt32) &&& (255 : Int32)) = (((p2.toUInt32 >>> ((2 : Int32) &&& 31).toUInt32).toInt32) &&& (255 : Int32)) then (1 : Int32) else (0 : Int32))), .val (.int (if (((p1.toUInt32 >>> ((10 : Int32) &&& 31).toUInt32).toInt32) &&& (255 : Int32)) = (((p2.toUInt32 >>> ((10 : Int32) &&& 31).toUInt32).toInt32) &&& (255 : Int32)) then (1 : Int32) else (0 : Int32))), .val (.int (if (((p1.toUInt32 >>> ((18 : Int32) &&& 31).toUInt32).toInt32) &&& (255 : Int32)) = (((p2.toUInt32 >>> ((18 : Int32) &&& 31).toUInt32).toInt32) &&& (255 : Int32)) then (1 : Int32) else (0 : Int32)))] [(.int (0 : Int32))])) _
                  first | exact k | (simp only [if_pos hc]; exact k)
                · rw [show (if (if (((p1.toUInt32 >>> ((10 : Int32) &&& 31).toUInt32).toInt32) &&& (255 : Int32)) = (((p2.toUInt32 >>> ((10 : Int32) &&& 31).toUInt32).toInt32) &&& (255 : Int32)) then (1 : Int32) else (0 : Int32)) = (0 : Int32) then (0 : Int32) else (if (if (((p1.toUInt32 >>> ((18 : Int32) &&& 31).toUInt32).toInt32) &&& (255 : Int32)) = (((p2.toUInt32 >>> ((18 : Int32) &&& 31).toUInt32).toInt32) &&& (255 : Int32)) then (1 : Int32) else (0 : Int32)) = (0 : Int32) then (0 : Int32) else (1 : Int32))) = (if (if (((p1.toUInt32 >>> ((18 : Int32) &&& 31).toUInt32).toInt32) &&& (255 : Int32)) = (((p2.toUInt32 >>> ((18 : Int32) &&& 31).toUInt32).toInt32) &&& (255 : Int32)) then (1 : Int32) else (0 : Int32)) = (0 : Int32) then (0 : Int32) else (1 : Int32)) from if_neg hc] at k
                  refine XS.ifNo X0.here hx rfl (hb hby d_sam_127) rfl ((if0 _ _).trans (feq hc).1) ?_
                  show Steps p.tables e below (s₁.setTop (mkF m 130 #[.val (.int p1), .val (.int p2), .val (.int (p1 &&& (3 : Int32))), .val (.int (if (((p1.toUInt32 >>> ((2 : Int32) &&& 31).toUInt32).toInt32) &&& (255 : Int32)) = (((p2.toUInt32 >>> ((2 : Int32) &&& 31).toUInt32).toInt32) &&& (255 : Int32)) then (1 : Int32) else (0 : Int32))), .val (.int (if (((p1.toUInt32 >>> ((10 : Int32) &&& 31).toUInt32).toInt32) &&& (255 : Int32)) = (((p2.toUInt32 >>> ((10 : Int32) &&& 31).toUInt32).toInt32) &&& (255 : Int32)) then (1 : Int32) else (0 : Int32))), .val (.int (if (((p1.toUInt32 >>> ((18 : Int32) &&& 31).toUInt32).toInt32) &&& (255 : Int32)) = (((p2.toUInt32 >>> ((18 : Int32) &&& 31).toUInt32).toInt32) &&& (255 : Int32)) then (1 : Int32) else (0 : Int32)))] [])) _
                  refine XS.iload X0.here hx rfl (hb hby d_sam_130) rfl ?_
                  show Steps p.tables e below (s₁.setTop (mkF m 132 #[.val (.int p1), .val (.int p2), .val (.int (p1 &&& (3 : Int32))), .val (.int (if (((p1.toUInt32 >>> ((2 : Int32) &&& 31).toUInt32).toInt32) &&& (255 : Int32)) = (((p2.toUInt32 >>> ((2 : Int32) &&& 31).toUInt32).toInt32) &&& (255 : Int32)) then (1 : Int32) else (0 : Int32))), .val (.int (if (((p1.toUInt32 >>> ((10 : Int32) &&& 31).toUInt32).toInt32) &&& (255 : Int32)) = (((p2.toUInt32 >>> ((10 : Int32) &&& 31).toUInt32).toInt32) &&& (255 : Int32)) then (1 : Int32) else (0 : Int32))), .val (.int (if (((p1.toUInt32 >>> ((18 : Int32) &&& 31).toUInt32).toInt32) &&& (255 : Int32)) = (((p2.toUInt32 >>> ((18 : Int32) &&& 31).toUInt32).toInt32) &&& (255 : Int32)) then (1 : Int32) else (0 : Int32)))] [(.int (if (((p1.toUInt32 >>> ((18 : Int32) &&& 31).toUInt32).toInt32) &&& (255 : Int32)) = (((p2.toUInt32 >>> ((18 : Int32) &&& 31).toUInt32).toInt32) &&& (255 : Int32)) then (1 : Int32) else (0 : Int32)))])) _
                  have D8 : ∀ t, Steps p.tables e below (s₁.setTop (mkF m 140 #[.val (.int p1), .val (.int p2), .val (.int (p1 &&& (3 : Int32))), .val (.int (if (((p1.toUInt32 >>> ((2 : Int32) &&& 31).toUInt32).toInt32) &&& (255 : Int32)) = (((p2.toUInt32 >>> ((2 : Int32) &&& 31).toUInt32).toInt32) &&& (255 : Int32)) then (1 : Int32) else (0 : Int32))), .val (.int (if (((p1.toUInt32 >>> ((10 : Int32) &&& 31).toUInt32).toInt32) &&& (255 : Int32)) = (((p2.toUInt32 >>> ((10 : Int32) &&& 31).toUInt32).toInt32) &&& (255 : Int32)) then (1 : Int32) else (0 : Int32))), .val (.int (if (((p1.toUInt32 >>> ((18 : Int32) &&& 31).toUInt32).toInt32) &&& (255 : Int32)) = (((p2.toUInt32 >>> ((18 : Int32) &&& 31).toUInt32).toInt32) &&& (255 : Int32)) then (1 : Int32) else (0 : Int32)))] [(.int (if (if (((p1.toUInt32 >>> ((18 : Int32) &&& 31).toUInt32).toInt32) &&& (255 : Int32)) = (((p2.toUInt32 >>> ((18 : Int32) &&& 31).toUInt32).toInt32) &&& (255 : Int32)) then (1 : Int32) else (0 : Int32)) = (0 : Int32) then (0 : Int32) else (1 : Int32)))])) t → Steps p.tables e below (s₁.setTop (mkF m 132 #[.val (.int p1), .val (.int p2), .val (.int (p1 &&& (3 : Int32))), .val (.int (if (((p1.toUInt32 >>> ((2 : Int32) &&& 31).toUInt32).toInt32) &&& (255 : Int32)) = (((p2.toUInt32 >>> ((2 : Int32) &&& 31).toUInt32).toInt32) &&& (255 : Int32)) then (1 : Int32) else (0 : Int32))), .val (.int (if (((p1.toUInt32 >>> ((10 : Int32) &&& 31).toUInt32).toInt32) &&& (255 : Int32)) = (((p2.toUInt32 >>> ((10 : Int32) &&& 31).toUInt32).toInt32) &&& (255 : Int32)) then (1 : Int32) else (0 : Int32))), .val (.int (if (((p1.toUInt32 >>> ((18 : Int32) &&& 31).toUInt32).toInt32) &&& (255 : Int32)) = (((p2.toUInt32 >>> ((18 : Int32) &&& 31).toUInt32).toInt32) &&& (255 : Int32)) then (1 : Int32) else (0 : Int32)))] [(.int (if (((p1.toUInt32 >>> ((18 : Int32) &&& 31).toUInt32).toInt32) &&& (255 : Int32)) = (((p2.toUInt32 >>> ((18 : Int32) &&& 31).toUInt32).toInt32) &&& (255 : Int32)) then (1 : Int32) else (0 : Int32)))])) t := by
                    intro t k
                    by_cases hc : (if (((p1.toUInt32 >>> ((18 : Int32) &&& 31).toUInt32).toInt32) &&& (255 : Int32)) = (((p2.toUInt32 >>> ((18 : Int32) &&& 31).toUInt32).toInt32) &&& (255 : Int32)) then (1 : Int32) else (0 : Int32)) = (0 : Int32)
                    · rw [show (if (if (((p1.toUInt32 >>> ((18 : Int32) &&& 31).toUInt32).toInt32) &&& (255 : Int32)) = (((p2.toUInt32 >>> ((18 : Int32) &&& 31).toUInt32).toInt32) &&& (255 : Int32)) then (1 : Int32) else (0 : Int32)) = (0 : Int32) then (0 : Int32) else (1 : Int32)) = (0 : Int32) from if_pos hc] at k
                      refine XS.ifYes X0.here hx rfl (pc0 := 132) (pc' := 139) rfl (hb hby d_sam_132) rfl ((if0 _ _).trans (teq hc).1) (by decide) (by decide) ?_
                      show Steps p.tables e below (s₁.setTop (mkF m 139 #[.val (.int p1), .val (.int p2), .val (.int (p1 &&& (3 : Int32))), .val (.int (if (((p1.toUInt32 >>> ((2 : Int32) &&& 31).toUInt32).toInt32) &&& (255 : Int32)) = (((p2.toUInt32 >>> ((2 : Int32) &&& 31).toUInt32).toInt32) &&& (255 : Int32)) then (1 : Int32) else (0 : Int32))), .val (.int (if (((p1.toUInt32 >>> ((10 : Int32) &&& 31).toUInt32).toInt32) &&& (255 : Int32)) = (((p2.toUInt32 >>> ((10 : Int32) &&& 31).toUInt32).toInt32) &&& (255 : Int32)) then (1 : Int32) else (0 : Int32))), .val (.int (if (((p1.toUInt32 >>> ((18 : Int32) &&& 31).toUInt32).toInt32) &&& (255 : Int32)) = (((p2.toUInt32 >>> ((18 : Int32) &&& 31).toUInt32).toInt32) &&& (255 : Int32)) then (1 : Int32) else (0 : Int32)))] [])) _
                      refine XS.iconst X0.here hx rfl (hb hby d_sam_139) ?_
                      show Steps p.tables e below (s₁.setTop (mkF m 140 #[.val (.int p1), .val (.int p2), .val (.int (p1 &&& (3 : Int32))), .val (.int (if (((p1.toUInt32 >>> ((2 : Int32) &&& 31).toUInt32).toInt32) &&& (255 : Int32)) = (((p2.toUInt32 >>> ((2 : Int32) &&& 31).toUInt32).toInt32) &&& (255 : Int32)) then (1 : Int32) else (0 : Int32))), .val (.int (if (((p1.toUInt32 >>> ((10 : Int32) &&& 31).toUInt32).toInt32) &&& (255 : Int32)) = (((p2.toUInt32 >>> ((10 : Int32) &&& 31).toUInt32).toInt32) &&& (255 : Int32)) then (1 : Int32) else (0 : Int32))), .val (.int (if (((p1.toUInt32 >>> ((18 : Int32) &&& 31).toUInt32).toInt32) &&& (255 : Int32)) = (((p2.toUInt32 >>> ((18 : Int32) &&& 31).toUInt32).toInt32) &&& (255 : Int32)) then (1 : Int32) else (0 : Int32)))] [(.int (0 : Int32))])) _
                      first | exact k | (simp only [if_pos hc]; exact k)
                    · rw [show (if (if (((p1.toUInt32 >>> ((18 : Int32) &&& 31).toUInt32).toInt32) &&& (255 : Int32)) = (((p2.toUInt32 >>> ((18 : Int32) &&& 31).toUInt32).toInt32) &&& (255 : Int32)) then (1 : Int32) else (0 : Int32)) = (0 : Int32) then (0 : Int32) else (1 : Int32)) = (1 : Int32) from if_neg hc] at k
                      refine XS.ifNo X0.here hx rfl (hb hby d_sam_132) rfl ((if0 _ _).trans (feq hc).1) ?_
                      show Steps p.tables e below (s₁.setTop (mkF m 135 #[.val (.int p1), .val (.int p2), .val (.int (p1 &&& (3 : Int32))), .val (.int (if (((p1.toUInt32 >>> ((2 : Int32) &&& 31).toUInt32).toInt32) &&& (255 : Int32)) = (((p2.toUInt32 >>> ((2 : Int32) &&& 31).toUInt32).toInt32) &&& (255 : Int32)) then (1 : Int32) else (0 : Int32))), .val (.int (if (((p1.toUInt32 >>> ((10 : Int32) &&& 31).toUInt32).toInt32) &&& (255 : Int32)) = (((p2.toUInt32 >>> ((10 : Int32) &&& 31).toUInt32).toInt32) &&& (255 : Int32)) then (1 : Int32) else (0 : Int32))), .val (.int (if (((p1.toUInt32 >>> ((18 : Int32) &&& 31).toUInt32).toInt32) &&& (255 : Int32)) = (((p2.toUInt32 >>> ((18 : Int32) &&& 31).toUInt32).toInt32) &&& (255 : Int32)) then (1 : Int32) else (0 : Int32)))] [])) _
                      refine XS.iconst X0.here hx rfl (hb hby d_sam_135) ?_
                      show Steps p.tables e below (s₁.setTop (mkF m 136 #[.val (.int p1), .val (.int p2), .val (.int (p1 &&& (3 : Int32))), .val (.int (if (((p1.toUInt32 >>> ((2 : Int32) &&& 31).toUInt32).toInt32) &&& (255 : Int32)) = (((p2.toUInt32 >>> ((2 : Int32) &&& 31).toUInt32).toInt32) &&& (255 : Int32)) then (1 : Int32) else (0 : Int32))), .val (.int (if (((p1.toUInt32 >>> ((10 : Int32) &&& 31).toUInt32).toInt32) &&& (255 : Int32)) = (((p2.toUInt32 >>> ((10 : Int32) &&& 31).toUInt32).toInt32) &&& (255 : Int32)) then (1 : Int32) else (0 : Int32))), .val (.int (if (((p1.toUInt32 >>> ((18 : Int32) &&& 31).toUInt32).toInt32) &&& (255 : Int32)) = (((p2.toUInt32 >>> ((18 : Int32) &&& 31).toUInt32).toInt32) &&& (255 : Int32)) then (1 : Int32) else (0 : Int32)))] [(.int (1 : Int32))])) _
                      refine XS.goto X0.here hx rfl (pc0 := 136) (pc' := 140) rfl (hb hby d_sam_136) (by decide) (by decide) ?_
                      show Steps p.tables e below (s₁.setTop (mkF m 140 #[.val (.int p1), .val (.int p2), .val (.int (p1 &&& (3 : Int32))), .val (.int (if (((p1.toUInt32 >>> ((2 : Int32) &&& 31).toUInt32).toInt32) &&& (255 : Int32)) = (((p2.toUInt32 >>> ((2 : Int32) &&& 31).toUInt32).toInt32) &&& (255 : Int32)) then (1 : Int32) else (0 : Int32))), .val (.int (if (((p1.toUInt32 >>> ((10 : Int32) &&& 31).toUInt32).toInt32) &&& (255 : Int32)) = (((p2.toUInt32 >>> ((10 : Int32) &&& 31).toUInt32).toInt32) &&& (255 : Int32)) then (1 : Int32) else (0 : Int32))), .val (.int (if (((p1.toUInt32 >>> ((18 : Int32) &&& 31).toUInt32).toInt32) &&& (255 : Int32)) = (((p2.toUInt32 >>> ((18 : Int32) &&& 31).toUInt32).toInt32) &&& (255 : Int32)) then (1 : Int32) else (0 : Int32)))] [(.int (1 : Int32))])) _
                      first | exact k | (simp only [if_neg hc]; exact k)
                  refine D8 _ ?_
                  show Steps p.tables e below (s₁.setTop (mkF m 140 #[.val (.int p1), .val (.int p2), .val (.int (p1 &&& (3 : Int32))), .val (.int (if (((p1.toUInt32 >>> ((2 : Int32) &&& 31).toUInt32).toInt32) &&& (255 : Int32)) = (((p2.toUInt32 >>> ((2 : Int32) &&& 31).toUInt32).toInt32) &&& (255 : Int32)) then (1 : Int32) else (0 : Int32))), .val (.int (if (((p1.toUInt32 >>> ((10 : Int32) &&& 31).toUInt32).toInt32) &&& (255 : Int32)) = (((p2.toUInt32 >>> ((10 : Int32) &&& 31).toUInt32).toInt32) &&& (255 : Int32)) then (1 : Int32) else (0 : Int32))), .val (.int (if (((p1.toUInt32 >>> ((18 : Int32) &&& 31).toUInt32).toInt32) &&& (255 : Int32)) = (((p2.toUInt32 >>> ((18 : Int32) &&& 31).toUInt32).toInt32) &&& (255 : Int32)) then (1 : Int32) else (0 : Int32)))] [(.int (if (if (((p1.toUInt32 >>> ((18 : Int32) &&& 31).toUInt32).toInt32) &&& (255 : Int32)) = (((p2.toUInt32 >>> ((18 : Int32) &&& 31).toUInt32).toInt32) &&& (255 : Int32)) then (1 : Int32) else (0 : Int32)) = (0 : Int32) then (0 : Int32) else (1 : Int32)))])) _
                  first | exact k | (simp only [if_neg hc]; exact k)
              refine D7 _ ?_
              show Steps p.tables e below (s₁.setTop (mkF m 140 #[.val (.int p1), .val (.int p2), .val (.int (p1 &&& (3 : Int32))), .val (.int (if (((p1.toUInt32 >>> ((2 : Int32) &&& 31).toUInt32).toInt32) &&& (255 : Int32)) = (((p2.toUInt32 >>> ((2 : Int32) &&& 31).toUInt32).toInt32) &&& (255 : Int32)) then (1 : Int32) else (0 : Int32))), .val (.int (if (((p1.toUInt32 >>> ((10 : Int32) &&& 31).toUInt32).toInt32) &&& (255 : Int32)) = (((p2.toUInt32 >>> ((10 : Int32) &&& 31).toUInt32).toInt32) &&& (255 : Int32)) then (1 : Int32) else (0 : Int32))), .val (.int (if (((p1.toUInt32 >>> ((18 : Int32) &&& 31).toUInt32).toInt32) &&& (255 : Int32)) = (((p2.toUInt32 >>> ((18 : Int32) &&& 31).toUInt32).toInt32) &&& (255 : Int32)) then (1 : Int32) else (0 : Int32)))] [(.int (if (if (((p1.toUInt32 >>> ((10 : Int32) &&& 31).toUInt32).toInt32) &&& (255 : Int32)) = (((p2.toUInt32 >>> ((10 : Int32) &&& 31).toUInt32).toInt32) &&& (255 : Int32)) then (1 : Int32) else (0 : Int32)) = (0 : Int32) then (0 : Int32) else (if (if (((p1.toUInt32 >>> ((18 : Int32) &&& 31).toUInt32).toInt32) &&& (255 : Int32)) = (((p2.toUInt32 >>> ((18 : Int32) &&& 31).toUInt32).toInt32) &&& (255 : Int32)) then (1 : Int32) else (0 : Int32)) = (0 : Int32) then (0 : Int32) else (1 : Int32))))])) _
              first | exact k | (simp only [if_neg hc]; exact k)
          refine OGo.by_ D6 ?_
          show OGo p e below _ (s₁.setTop (mkF m 140 #[.val (.int p1), .val (.int p2), .val (.int (p1 &&& (3 : Int32))), .val (.int (if (((p1.toUInt32 >>> ((2 : Int32) &&& 31).toUInt32).toInt32) &&& (255 : Int32)) = (((p2.toUInt32 >>> ((2 : Int32) &&& 31).toUInt32).toInt32) &&& (255 : Int32)) then (1 : Int32) else (0 : Int32))), .val (.int (if (((p1.toUInt32 >>> ((10 : Int32) &&& 31).toUInt32).toInt32) &&& (255 : Int32)) = (((p2.toUInt32 >>> ((10 : Int32) &&& 31).toUInt32).toInt32) &&& (255 : Int32)) then (1 : Int32) else (0 : Int32))), .val (.int (if (((p1.toUInt32 >>> ((18 : Int32) &&& 31).toUInt32).toInt32) &&& (255 : Int32)) = (((p2.toUInt32 >>> ((18 : Int32) &&& 31).toUInt32).toInt32) &&& (255 : Int32)) then (1 : Int32) else (0 : Int32)))] [(.int (if (if (((p1.toUInt32 >>> ((2 : Int32) &&& 31).toUInt32).toInt32) &&& (255 : Int32)) = (((p2.toUInt32 >>> ((2 : Int32) &&& 31).toUInt32).toInt32) &&& (255 : Int32)) then (1 : Int32) else (0 : Int32)) = (0 : Int32) then (0 : Int32) else (if (if (((p1.toUInt32 >>> ((10 : Int32) &&& 31).toUInt32).toInt32) &&& (255 : Int32)) = (((p2.toUInt32 >>> ((10 : Int32) &&& 31).toUInt32).toInt32) &&& (255 : Int32)) then (1 : Int32) else (0 : Int32)) = (0 : Int32) then (0 : Int32) else (if (if (((p1.toUInt32 >>> ((18 : Int32) &&& 31).toUInt32).toInt32) &&& (255 : Int32)) = (((p2.toUInt32 >>> ((18 : Int32) &&& 31).toUInt32).toInt32) &&& (255 : Int32)) then (1 : Int32) else (0 : Int32)) = (0 : Int32) then (0 : Int32) else (1 : Int32)))))]))
          exact own_retN X0 hx hlk (t := .boolean) hret (by simp) (hb hby d_sam_140) (by decide) (by decide) (⟨by rw [own_xs3 hl0 hl1 hl2, own_xs3 (hc8 ▸ hl0) (hc8 ▸ hl1) (hc8 ▸ hl2)]; exact congrArg (fun z => some (Value.int z)) own_e3, N0, e0⟩)
  · refine OGo.by_ (fun t k => XS.icmpNo X0.here hx rfl (hb hby d_sam_8) rfl (feq hc8).1 k) ?_
    show OGo p e below _ (s₁.setTop (mkF m 11 #[.val (.int p1), .val (.int p2), .val (.int (p1 &&& (3 : Int32))), .unset, .unset, .unset] []))
    refine OGo.by_ (fun t k => XS.iconst X0.here hx rfl (hb hby d_sam_11) k) ?_
    show OGo p e below _ (s₁.setTop (mkF m 12 #[.val (.int p1), .val (.int p2), .val (.int (p1 &&& (3 : Int32))), .unset, .unset, .unset] [(.int (0 : Int32))]))
    exact own_retN X0 hx hlk (t := .boolean) hret (by simp) (hb hby d_sam_12) (by decide) (by decide) (⟨by rw [if_neg (own_xsD hc8)]; rfl, N0, e0⟩)
theorem own_l0 {ys : List Int32} (h : own_len 0 ys) : ys = [] := by
  rcases h with ⟨-, h⟩ | ⟨h, -⟩ | ⟨h, -⟩ | ⟨h, -⟩
  · exact h
  all_goals exact absurd h (by decide)
theorem own_l1 {ys : List Int32} (h : own_len 1 ys) : ∃ x, ys = [x] := by
  rcases h with ⟨h, -⟩ | ⟨-, h⟩ | ⟨h, -⟩ | ⟨h, -⟩
  · exact absurd h (by decide)
  · exact h
  all_goals exact absurd h (by decide)
theorem own_l2 {ys : List Int32} (h : own_len 2 ys) : ∃ x y, ys = [x, y] := by
  rcases h with ⟨h, -⟩ | ⟨h, -⟩ | ⟨-, h⟩ | ⟨h, -⟩
  · exact absurd h (by decide)
  · exact absurd h (by decide)
  · exact h
  · exact absurd h (by decide)
theorem own_l3 {ys : List Int32} (h : own_len 3 ys) : ∃ x y z, ys = [x, y, z] := by
  rcases h with ⟨h, -⟩ | ⟨h, -⟩ | ⟨h, -⟩ | ⟨-, h⟩
  · exact absurd h (by decide)
  · exact absurd h (by decide)
  · exact absurd h (by decide)
  · exact h
theorem own_lenL {n : Int32} {xs : List Int32} (h : own_len n xs) : (n = 0 ∧ xs.length = 0) ∨ (n = 1 ∧ xs.length = 1) ∨ (n = 2 ∧ xs.length = 2) ∨ (n = 3 ∧ xs.length = 3) := by
  rcases h with ⟨h, rfl⟩ | ⟨h, x, rfl⟩ | ⟨h, x, y, rfl⟩ | ⟨h, x, y, z, rfl⟩
  · exact Or.inl ⟨h, rfl⟩
  · exact Or.inr (Or.inl ⟨h, rfl⟩)
  · exact Or.inr (Or.inr (Or.inl ⟨h, rfl⟩))
  · exact Or.inr (Or.inr (Or.inr ⟨h, rfl⟩))
theorem own_lenD {n k : Int32} {xs ys : List Int32} (h : own_len n xs) (h' : own_len k ys) (hn : ¬ n = k) : ¬ xs = ys := fun q => by
  subst q
  rcases own_lenL h with ⟨rfl, e⟩ | ⟨rfl, e⟩ | ⟨rfl, e⟩ | ⟨rfl, e⟩ <;> rcases own_lenL h' with ⟨rfl, e'⟩ | ⟨rfl, e'⟩ | ⟨rfl, e'⟩ | ⟨rfl, e'⟩ <;> first | exact hn rfl | (rw [e] at e'; exact absurd e' (by decide))
theorem own_bi {x y : Int32} (h : own_ch x) (h' : own_ch y) (e : x.toInt8.toInt32 = y.toInt8.toInt32) : x = y := by
  have a : (x.toInt8.toInt32 &&& (255 : Int32)) = x := h
  have b : (y.toInt8.toInt32 &&& (255 : Int32)) = y := h'
  rw [← a, e, b]
theorem own_bn {x y : Int32} (e : ¬ x.toInt8.toInt32 = y.toInt8.toInt32) : ¬ x = y := fun q => e (by rw [q])
theorem d_leq_0 : decode jdk_43_method_13_code 0 = .ok (.aload_n 0, 1) := by decide +kernel
theorem d_leq_1 : decode jdk_43_method_13_code 1 = .ok (.arraylength, 1) := by decide +kernel
theorem d_leq_2 : decode jdk_43_method_13_code 2 = .ok (.aload_n 1, 1) := by decide +kernel
theorem d_leq_3 : decode jdk_43_method_13_code 3 = .ok (.arraylength, 1) := by decide +kernel
theorem d_leq_4 : decode jdk_43_method_13_code 4 = .ok (.if_icmp .ne 30, 3) := by decide +kernel
theorem d_leq_7 : decode jdk_43_method_13_code 7 = .ok (.iconst 0, 1) := by decide +kernel
theorem d_leq_8 : decode jdk_43_method_13_code 8 = .ok (.istore_n 2, 1) := by decide +kernel
theorem d_leq_9 : decode jdk_43_method_13_code 9 = .ok (.iload_n 2, 1) := by decide +kernel
theorem d_leq_10 : decode jdk_43_method_13_code 10 = .ok (.aload_n 0, 1) := by decide +kernel
theorem d_leq_11 : decode jdk_43_method_13_code 11 = .ok (.arraylength, 1) := by decide +kernel
theorem d_leq_12 : decode jdk_43_method_13_code 12 = .ok (.if_icmp .ge 20, 3) := by decide +kernel
theorem d_leq_32 : decode jdk_43_method_13_code 32 = .ok (.iconst 1, 1) := by decide +kernel
theorem d_leq_33 : decode jdk_43_method_13_code 33 = .ok (.ireturn, 1) := by decide +kernel
theorem d_leq_15 : decode jdk_43_method_13_code 15 = .ok (.aload_n 0, 1) := by decide +kernel
theorem d_leq_16 : decode jdk_43_method_13_code 16 = .ok (.iload_n 2, 1) := by decide +kernel
theorem d_leq_17 : decode jdk_43_method_13_code 17 = .ok (.baload, 1) := by decide +kernel
theorem d_leq_18 : decode jdk_43_method_13_code 18 = .ok (.aload_n 1, 1) := by decide +kernel
theorem d_leq_19 : decode jdk_43_method_13_code 19 = .ok (.iload_n 2, 1) := by decide +kernel
theorem d_leq_20 : decode jdk_43_method_13_code 20 = .ok (.baload, 1) := by decide +kernel
theorem d_leq_21 : decode jdk_43_method_13_code 21 = .ok (.if_icmp .eq 5, 3) := by decide +kernel
theorem d_leq_26 : decode jdk_43_method_13_code 26 = .ok (.iinc 2 1, 3) := by decide +kernel
theorem d_leq_29 : decode jdk_43_method_13_code 29 = .ok (.goto (-20), 3) := by decide +kernel
theorem d_leq_24 : decode jdk_43_method_13_code 24 = .ok (.iconst 0, 1) := by decide +kernel
theorem d_leq_25 : decode jdk_43_method_13_code 25 = .ok (.ireturn, 1) := by decide +kernel
theorem d_leq_34 : decode jdk_43_method_13_code 34 = .ok (.iconst 0, 1) := by decide +kernel
theorem d_leq_35 : decode jdk_43_method_13_code 35 = .ok (.ireturn, 1) := by decide +kernel
theorem pn_java_lang_StringLatin1 : plainName "java/lang/StringLatin1" = true := by first | (simp [plainName, overriddenIn]; done) | decide +kernel
theorem ef_leq (m : MethodId) (x0 : Addr) (x1 : Addr) : entryFrame m #[(.ref x0), (.ref x1)] 3 = mkF m 0 #[.val (.ref x0), .val (.ref x1), .unset] [] := by first | (simp [entryFrame, mkF, argsToLocals, Value.category]; done) | rfl
def Q_leq (Z : State) (b1 b2 : Addr) (k1 k2 : ClassId) (n k8 : Int32) (xs ys : List Int32) (h0 : Heap) (n0 : Nat) (v : Option Value) (h : Heap) (L : List Loc) : Prop := v = some (.int (if xs = ys then (1 : Int32) else (0 : Int32))) ∧ Fr n0 L ∧ h = h0
set_option maxRecDepth 65536 in
set_option maxHeartbeats 40000000 in
theorem rm_leq (l : Launch) (Z : State) (a0 : Array Value) (hw : ∀ d ∈ tables_1, d.before a0 Z = true) (ws : List Jvm.Cond) (b1 b2 : Addr) (k1 k2 : ClassId) (n k8 : Int32) (xs ys : List Int32) (h0 : Heap) (n0 : Nat) (Z0 : n0 ≤ h0.size) (V1 : Arv Z h0 b1 k1 .byte n (xs.map fun x => .int x.toInt8.toInt32) (.int (0 : Int32))) (V2 : Arv Z h0 b2 k2 .byte k8 (ys.map fun x => .int x.toInt8.toInt32) (.int (0 : Int32))) (L1 : own_len n xs) (L2 : own_len k8 ys) (C1 : ∀ x ∈ xs, own_ch x) (C2 : ∀ x ∈ ys, own_ch x) :
    MetFree l (⟨"java/lang/StringLatin1", "equals", "([B[B)Z"⟩ : MethodName) (head1 (Jvm.Cond.code (⟨"java/lang/StringLatin1", "equals", "([B[B)Z"⟩ : MethodName) jdk_43_method_13_code 3 (some .boolean) :: ws) ({ frames := 0, cells := 0, slots := 0, locals := 0 } : Room)) (fun a_ U => a_ = #[(.ref b1), (.ref b2)] ∧ Z.Warmed39 U.vm ∧ U.heap = h0) (fun _ _ _ _ _ => True) (fun _ U o U' => ∃ v L, o = .returned v ∧ Q_leq Z b1 b2 k1 k2 n k8 xs ys h0 n0 v U'.heap L ∧ FrameEnd U o U' L ({ frames := 0, cells := 0, slots := 0, locals := 0 } : Room).cells ({ frames := 0, cells := 0, slots := 0, locals := 0 } : Room).slots) := by
  refine MetFree.of_bodySF (plainFor_of_name pn_java_lang_StringLatin1) hisR ?_
  intro p e s m args below meth c s₁ Bd hml0 hP hK
  obtain ⟨rfl, hZ, hh⟩ := hP
  have hx := Bd.exec
  have hby := Bd.bytes
  have hml : c.maxLocals = 3 := hml0
  have hown : s.vm.findClass "java/lang/StringLatin1" = some m.cls := findClass_of_methodNamed Bd.named
  have hnm := (name_of_methodNamed Bd.named Bd.method).1
  have X0 : Stand p l e ({ frames := 0, cells := 0, slots := 0, locals := 0 } : Room) s m #[(.ref b1), (.ref b2)] below meth c s₁ [] 0 0 := Stand.of_body Bd
  have e0 : s₁.heap = h0 := by rw [← hh, Bd.state]; rfl
  have N0 := Fr.nil n0
  have hlk := Bd.notSynchronized
  have hret := Bd.returns
  show OGo p e below (OEnd s (Q_leq Z b1 b2 k1 k2 n k8 xs ys h0 n0) ({ frames := 0, cells := 0, slots := 0, locals := 0 } : Room).cells ({ frames := 0, cells := 0, slots := 0, locals := 0 } : Room).slots) (s₁.setTop (entryFrame m #[(.ref b1), (.ref b2)] 3))
  rw [ef_leq]
  show OGo p e below _ (s₁.setTop (mkF m 0 #[.val (.ref b1), .val (.ref b2), .unset] []))
  refine OGo.by_ (fun t k => XS.aloadN X0.here hx rfl (hb hby d_leq_0) rfl rfl k) ?_
  show OGo p e below _ (s₁.setTop (mkF m 1 #[.val (.ref b1), .val (.ref b2), .unset] [(.ref b1)]))
  obtain ⟨cl1, Ar1, q1, S1, Nn1, H1, G1⟩ := id V1
  refine OGo.by_ (X0.arraylength hx (by rw [e0]; exact Ar1.1) (State.isArrayOf_alike hZ.alike Ar1.2.1) (g := (mkF m 1 #[.val (.ref b1), .val (.ref b2), .unset] [(.ref b1)])) rfl rfl (hb hby d_leq_1)) ?_
  rw [len_of S1 Nn1]
  show OGo p e below _ (s₁.setTop (mkF m 2 #[.val (.ref b1), .val (.ref b2), .unset] [(.int n)]))
  refine OGo.by_ (fun t k => XS.aloadN X0.here hx rfl (hb hby d_leq_2) rfl rfl k) ?_
  show OGo p e below _ (s₁.setTop (mkF m 3 #[.val (.ref b1), .val (.ref b2), .unset] [(.ref b2), (.int n)]))
  obtain ⟨cl2, Ar2, q2, S2, Nn2, H2, G2⟩ := id V2
  refine OGo.by_ (X0.arraylength hx (by rw [e0]; exact Ar2.1) (State.isArrayOf_alike hZ.alike Ar2.2.1) (g := (mkF m 3 #[.val (.ref b1), .val (.ref b2), .unset] [(.ref b2), (.int n)])) rfl rfl (hb hby d_leq_3)) ?_
  rw [len_of S2 Nn2]
  show OGo p e below _ (s₁.setTop (mkF m 4 #[.val (.ref b1), .val (.ref b2), .unset] [(.int k8), (.int n)]))
  by_cases hnk : n = k8
  · refine OGo.by_ (fun t k => XS.icmpNo X0.here hx rfl (hb hby d_leq_4) rfl (teq hnk).2 k) ?_
    show OGo p e below _ (s₁.setTop (mkF m 7 #[.val (.ref b1), .val (.ref b2), .unset] []))
    subst hnk
    rcases L1 with ⟨rfl, rfl⟩ | ⟨rfl, x, rfl⟩ | ⟨rfl, x, y, rfl⟩ | ⟨rfl, x, y, z, rfl⟩
    · have hy := own_l0 L2
      subst hy
      refine OGo.by_ (fun t k => XS.iconst X0.here hx rfl (hb hby d_leq_7) k) ?_
      show OGo p e below _ (s₁.setTop (mkF m 8 #[.val (.ref b1), .val (.ref b2), .unset] [(.int (0 : Int32))]))
      refine OGo.by_ (fun t k => XS.istoreN X0.here hx rfl (hb hby d_leq_8) rfl (l' := #[.val (.ref b1), .val (.ref b2), .val (.int (0 : Int32))]) rfl k) ?_
      show OGo p e below _ (s₁.setTop (mkF m 9 #[.val (.ref b1), .val (.ref b2), .val (.int (0 : Int32))] []))
      refine OGo.by_ (fun t k => XS.iloadN X0.here hx rfl (hb hby d_leq_9) rfl k) ?_
      show OGo p e below _ (s₁.setTop (mkF m 10 #[.val (.ref b1), .val (.ref b2), .val (.int (0 : Int32))] [(.int (0 : Int32))]))
      refine OGo.by_ (fun t k => XS.aloadN X0.here hx rfl (hb hby d_leq_10) rfl rfl k) ?_
      show OGo p e below _ (s₁.setTop (mkF m 11 #[.val (.ref b1), .val (.ref b2), .val (.int (0 : Int32))] [(.ref b1), (.int (0 : Int32))]))
      obtain ⟨cl3, Ar3, q3, S3, Nn3, H3, G3⟩ := id V1
      refine OGo.by_ (X0.arraylength hx (by rw [e0]; exact Ar3.1) (State.isArrayOf_alike hZ.alike Ar3.2.1) (g := (mkF m 11 #[.val (.ref b1), .val (.ref b2), .val (.int (0 : Int32))] [(.ref b1), (.int (0 : Int32))])) rfl rfl (hb hby d_leq_11)) ?_
      rw [len_of S3 Nn3]
      show OGo p e below _ (s₁.setTop (mkF m 12 #[.val (.ref b1), .val (.ref b2), .val (.int (0 : Int32))] [(.int (0 : Int32)), (.int (0 : Int32))]))
      refine OGo.by_ (fun t k => XS.icmpYes X0.here hx rfl (pc0 := 12) (pc' := 32) rfl (hb hby d_leq_12) rfl (flt (by decide)).2.1 (by decide) (by decide) k) ?_
      show OGo p e below _ (s₁.setTop (mkF m 32 #[.val (.ref b1), .val (.ref b2), .val (.int (0 : Int32))] []))
      refine OGo.by_ (fun t k => XS.iconst X0.here hx rfl (hb hby d_leq_32) k) ?_
      show OGo p e below _ (s₁.setTop (mkF m 33 #[.val (.ref b1), .val (.ref b2), .val (.int (0 : Int32))] [(.int (1 : Int32))]))
      exact own_retN X0 hx hlk (t := .boolean) hret (by simp) (hb hby d_leq_33) (by decide) (by decide) (⟨by rw [if_pos (show ([] : List Int32) = [] by rfl)]; rfl, N0, e0⟩)
    · obtain ⟨x', rfl⟩ := own_l1 L2
      have cx0 := C1 _ (List.mem_of_getElem? (i := 0) rfl)
      have cy0 := C2 _ (List.mem_of_getElem? (i := 0) rfl)
      refine OGo.by_ (fun t k => XS.iconst X0.here hx rfl (hb hby d_leq_7) k) ?_
      show OGo p e below _ (s₁.setTop (mkF m 8 #[.val (.ref b1), .val (.ref b2), .unset] [(.int (0 : Int32))]))
      refine OGo.by_ (fun t k => XS.istoreN X0.here hx rfl (hb hby d_leq_8) rfl (l' := #[.val (.ref b1), .val (.ref b2), .val (.int (0 : Int32))]) rfl k) ?_
      show OGo p e below _ (s₁.setTop (mkF m 9 #[.val (.ref b1), .val (.ref b2), .val (.int (0 : Int32))] []))
      refine OGo.by_ (fun t k => XS.iloadN X0.here hx rfl (hb hby d_leq_9) rfl k) ?_
      show OGo p e below _ (s₁.setTop (mkF m 10 #[.val (.ref b1), .val (.ref b2), .val (.int (0 : Int32))] [(.int (0 : Int32))]))
      refine OGo.by_ (fun t k => XS.aloadN X0.here hx rfl (hb hby d_leq_10) rfl rfl k) ?_
      show OGo p e below _ (s₁.setTop (mkF m 11 #[.val (.ref b1), .val (.ref b2), .val (.int (0 : Int32))] [(.ref b1), (.int (0 : Int32))]))
      obtain ⟨cl4, Ar4, q4, S4, Nn4, H4, G4⟩ := id V1
      refine OGo.by_ (X0.arraylength hx (by rw [e0]; exact Ar4.1) (State.isArrayOf_alike hZ.alike Ar4.2.1) (g := (mkF m 11 #[.val (.ref b1), .val (.ref b2), .val (.int (0 : Int32))] [(.ref b1), (.int (0 : Int32))])) rfl rfl (hb hby d_leq_11)) ?_
      rw [len_of S4 Nn4]
      show OGo p e below _ (s₁.setTop (mkF m 12 #[.val (.ref b1), .val (.ref b2), .val (.int (0 : Int32))] [(.int (1 : Int32)), (.int (0 : Int32))]))
      refine OGo.by_ (fun t k => XS.icmpNo X0.here hx rfl (hb hby d_leq_12) rfl (tlt (by decide)).2.1 k) ?_
      show OGo p e below _ (s₁.setTop (mkF m 15 #[.val (.ref b1), .val (.ref b2), .val (.int (0 : Int32))] []))
      refine OGo.by_ (fun t k => XS.aloadN X0.here hx rfl (hb hby d_leq_15) rfl rfl k) ?_
      show OGo p e below _ (s₁.setTop (mkF m 16 #[.val (.ref b1), .val (.ref b2), .val (.int (0 : Int32))] [(.ref b1)]))
      refine OGo.by_ (fun t k => XS.iloadN X0.here hx rfl (hb hby d_leq_16) rfl k) ?_
      show OGo p e below _ (s₁.setTop (mkF m 17 #[.val (.ref b1), .val (.ref b2), .val (.int (0 : Int32))] [(.int (0 : Int32)), (.ref b1)]))
      obtain ⟨cl5, Ar5, q5, S5, Nn5, H5, G5⟩ := id V1
      have in5 := inb_of S5 ⟨(by decide : ¬ (0 : Int32) < 0), (by decide : (0 : Int32) < (1 : Int32))⟩
      refine OGo.by_ (fun t kk => X0.baloadBytes hx (j := (0 : Int32)) (v := (.int (x.toInt8.toInt32))) (by rw [e0]; exact Ar5.1) (State.isArrayOf_alike hZ.alike Ar5.2.1) Ar5.2.2 in5 (H5.at in5 (rfl)) (g := (mkF m 17 #[.val (.ref b1), .val (.ref b2), .val (.int (0 : Int32))] [(.int (0 : Int32)), (.ref b1)])) rfl rfl (hb hby d_leq_17) _ kk) ?_
      show OGo p e below _ (s₁.setTop (mkF m 18 #[.val (.ref b1), .val (.ref b2), .val (.int (0 : Int32))] [(.int (x.toInt8.toInt32))]))
      refine OGo.by_ (fun t k => XS.aloadN X0.here hx rfl (hb hby d_leq_18) rfl rfl k) ?_
      show OGo p e below _ (s₁.setTop (mkF m 19 #[.val (.ref b1), .val (.ref b2), .val (.int (0 : Int32))] [(.ref b2), (.int (x.toInt8.toInt32))]))
      refine OGo.by_ (fun t k => XS.iloadN X0.here hx rfl (hb hby d_leq_19) rfl k) ?_
      show OGo p e below _ (s₁.setTop (mkF m 20 #[.val (.ref b1), .val (.ref b2), .val (.int (0 : Int32))] [(.int (0 : Int32)), (.ref b2), (.int (x.toInt8.toInt32))]))
      obtain ⟨cl6, Ar6, q6, S6, Nn6, H6, G6⟩ := id V2
      have in6 := inb_of S6 ⟨(by decide : ¬ (0 : Int32) < 0), (by decide : (0 : Int32) < (1 : Int32))⟩
      refine OGo.by_ (fun t kk => X0.baloadBytes hx (j := (0 : Int32)) (v := (.int (x'.toInt8.toInt32))) (by rw [e0]; exact Ar6.1) (State.isArrayOf_alike hZ.alike Ar6.2.1) Ar6.2.2 in6 (H6.at in6 (rfl)) (g := (mkF m 20 #[.val (.ref b1), .val (.ref b2), .val (.int (0 : Int32))] [(.int (0 : Int32)), (.ref b2), (.int (x.toInt8.toInt32))])) rfl rfl (hb hby d_leq_20) _ kk) ?_
      show OGo p e below _ (s₁.setTop (mkF m 21 #[.val (.ref b1), .val (.ref b2), .val (.int (0 : Int32))] [(.int (x'.toInt8.toInt32)), (.int (x.toInt8.toInt32))]))
      by_cases hb0 : (x.toInt8.toInt32) = (x'.toInt8.toInt32)
      · refine OGo.by_ (fun t k => XS.icmpYes X0.here hx rfl (pc0 := 21) (pc' := 26) rfl (hb hby d_leq_21) rfl (teq hb0).1 (by decide) (by decide) k) ?_
        show OGo p e below _ (s₁.setTop (mkF m 26 #[.val (.ref b1), .val (.ref b2), .val (.int (0 : Int32))] []))
        refine OGo.by_ (fun t k => XS.iinc X0.here hx rfl (hb hby d_leq_26) rfl (l' := #[.val (.ref b1), .val (.ref b2), .val (.int (1 : Int32))]) rfl k) ?_
        show OGo p e below _ (s₁.setTop (mkF m 29 #[.val (.ref b1), .val (.ref b2), .val (.int (1 : Int32))] []))
        refine OGo.by_ (fun t k => XS.goto X0.here hx rfl (pc0 := 29) (pc' := 9) rfl (hb hby d_leq_29) (by decide) (by decide) k) ?_
        show OGo p e below _ (s₁.setTop (mkF m 9 #[.val (.ref b1), .val (.ref b2), .val (.int (1 : Int32))] []))
        refine OGo.by_ (fun t k => XS.iloadN X0.here hx rfl (hb hby d_leq_9) rfl k) ?_
        show OGo p e below _ (s₁.setTop (mkF m 10 #[.val (.ref b1), .val (.ref b2), .val (.int (1 : Int32))] [(.int (1 : Int32))]))
        refine OGo.by_ (fun t k => XS.aloadN X0.here hx rfl (hb hby d_leq_10) rfl rfl k) ?_
        show OGo p e below _ (s₁.setTop (mkF m 11 #[.val (.ref b1), .val (.ref b2), .val (.int (1 : Int32))] [(.ref b1), (.int (1 : Int32))]))
        obtain ⟨cl7, Ar7, q7, S7, Nn7, H7, G7⟩ := id V1
        refine OGo.by_ (X0.arraylength hx (by rw [e0]; exact Ar7.1) (State.isArrayOf_alike hZ.alike Ar7.2.1) (g := (mkF m 11 #[.val (.ref b1), .val (.ref b2), .val (.int (1 : Int32))] [(.ref b1), (.int (1 : Int32))])) rfl rfl (hb hby d_leq_11)) ?_
        rw [len_of S7 Nn7]
        show OGo p e below _ (s₁.setTop (mkF m 12 #[.val (.ref b1), .val (.ref b2), .val (.int (1 : Int32))] [(.int (1 : Int32)), (.int (1 : Int32))]))
        refine OGo.by_ (fun t k => XS.icmpYes X0.here hx rfl (pc0 := 12) (pc' := 32) rfl (hb hby d_leq_12) rfl (flt (by decide)).2.1 (by decide) (by decide) k) ?_
        show OGo p e below _ (s₁.setTop (mkF m 32 #[.val (.ref b1), .val (.ref b2), .val (.int (1 : Int32))] []))
        refine OGo.by_ (fun t k => XS.iconst X0.here hx rfl (hb hby d_leq_32) k) ?_
        show OGo p e below _ (s₁.setTop (mkF m 33 #[.val (.ref b1), .val (.ref b2), .val (.int (1 : Int32))] [(.int (1 : Int32))]))
        exact own_retN X0 hx hlk (t := .boolean) hret (by simp) (hb hby d_leq_33) (by decide) (by decide) (⟨by rw [if_pos (show [x] = [x'] by rw [own_bi cx0 cy0 hb0])]; rfl, N0, e0⟩)
      · refine OGo.by_ (fun t k => XS.icmpNo X0.here hx rfl (hb hby d_leq_21) rfl (feq hb0).1 k) ?_
        show OGo p e below _ (s₁.setTop (mkF m 24 #[.val (.ref b1), .val (.ref b2), .val (.int (0 : Int32))] []))
        refine OGo.by_ (fun t k => XS.iconst X0.here hx rfl (hb hby d_leq_24) k) ?_
        show OGo p e below _ (s₁.setTop (mkF m 25 #[.val (.ref b1), .val (.ref b2), .val (.int (0 : Int32))] [(.int (0 : Int32))]))
        exact own_retN X0 hx hlk (t := .boolean) hret (by simp) (hb hby d_leq_25) (by decide) (by decide) (⟨by rw [if_neg (fun q => own_bn hb0 (List.cons.inj q).1)]; rfl, N0, e0⟩)
    · obtain ⟨x', y', rfl⟩ := own_l2 L2
      have cx0 := C1 _ (List.mem_of_getElem? (i := 0) rfl)
      have cy0 := C2 _ (List.mem_of_getElem? (i := 0) rfl)
      have cx1 := C1 _ (List.mem_of_getElem? (i := 1) rfl)
      have cy1 := C2 _ (List.mem_of_getElem? (i := 1) rfl)
      refine OGo.by_ (fun t k => XS.iconst X0.here hx rfl (hb hby d_leq_7) k) ?_
      show OGo p e below _ (s₁.setTop (mkF m 8 #[.val (.ref b1), .val (.ref b2), .unset] [(.int (0 : Int32))]))
      refine OGo.by_ (fun t k => XS.istoreN X0.here hx rfl (hb hby d_leq_8) rfl (l' := #[.val (.ref b1), .val (.ref b2), .val (.int (0 : Int32))]) rfl k) ?_
      show OGo p e below _ (s₁.setTop (mkF m 9 #[.val (.ref b1), .val (.ref b2), .val (.int (0 : Int32))] []))
      refine OGo.by_ (fun t k => XS.iloadN X0.here hx rfl (hb hby d_leq_9) rfl k) ?_
      show OGo p e below _ (s₁.setTop (mkF m 10 #[.val (.ref b1), .val (.ref b2), .val (.int (0 : Int32))] [(.int (0 : Int32))]))
      refine OGo.by_ (fun t k => XS.aloadN X0.here hx rfl (hb hby d_leq_10) rfl rfl k) ?_
      show OGo p e below _ (s₁.setTop (mkF m 11 #[.val (.ref b1), .val (.ref b2), .val (.int (0 : Int32))] [(.ref b1), (.int (0 : Int32))]))
      obtain ⟨cl8, Ar8, q8, S8, Nn8, H8, G8⟩ := id V1
      refine OGo.by_ (X0.arraylength hx (by rw [e0]; exact Ar8.1) (State.isArrayOf_alike hZ.alike Ar8.2.1) (g := (mkF m 11 #[.val (.ref b1), .val (.ref b2), .val (.int (0 : Int32))] [(.ref b1), (.int (0 : Int32))])) rfl rfl (hb hby d_leq_11)) ?_
      rw [len_of S8 Nn8]
      show OGo p e below _ (s₁.setTop (mkF m 12 #[.val (.ref b1), .val (.ref b2), .val (.int (0 : Int32))] [(.int (2 : Int32)), (.int (0 : Int32))]))
      refine OGo.by_ (fun t k => XS.icmpNo X0.here hx rfl (hb hby d_leq_12) rfl (tlt (by decide)).2.1 k) ?_
      show OGo p e below _ (s₁.setTop (mkF m 15 #[.val (.ref b1), .val (.ref b2), .val (.int (0 : Int32))] []))
      refine OGo.by_ (fun t k => XS.aloadN X0.here hx rfl (hb hby d_leq_15) rfl rfl k) ?_
      show OGo p e below _ (s₁.setTop (mkF m 16 #[.val (.ref b1), .val (.ref b2), .val (.int (0 : Int32))] [(.ref b1)]))
      refine OGo.by_ (fun t k => XS.iloadN X0.here hx rfl (hb hby d_leq_16) rfl k) ?_
      show OGo p e below _ (s₁.setTop (mkF m 17 #[.val (.ref b1), .val (.ref b2), .val (.int (0 : Int32))] [(.int (0 : Int32)), (.ref b1)]))
      obtain ⟨cl9, Ar9, q9, S9, Nn9, H9, G9⟩ := id V1
      have in9 := inb_of S9 ⟨(by decide : ¬ (0 : Int32) < 0), (by decide : (0 : Int32) < (2 : Int32))⟩
      refine OGo.by_ (fun t kk => X0.baloadBytes hx (j := (0 : Int32)) (v := (.int (x.toInt8.toInt32))) (by rw [e0]; exact Ar9.1) (State.isArrayOf_alike hZ.alike Ar9.2.1) Ar9.2.2 in9 (H9.at in9 (rfl)) (g := (mkF m 17 #[.val (.ref b1), .val (.ref b2), .val (.int (0 : Int32))] [(.int (0 : Int32)), (.ref b1)])) rfl rfl (hb hby d_leq_17) _ kk) ?_
      show OGo p e below _ (s₁.setTop (mkF m 18 #[.val (.ref b1), .val (.ref b2), .val (.int (0 : Int32))] [(.int (x.toInt8.toInt32))]))
      refine OGo.by_ (fun t k => XS.aloadN X0.here hx rfl (hb hby d_leq_18) rfl rfl k) ?_
      show OGo p e below _ (s₁.setTop (mkF m 19 #[.val (.ref b1), .val (.ref b2), .val (.int (0 : Int32))] [(.ref b2), (.int (x.toInt8.toInt32))]))
      refine OGo.by_ (fun t k => XS.iloadN X0.here hx rfl (hb hby d_leq_19) rfl k) ?_
      show OGo p e below _ (s₁.setTop (mkF m 20 #[.val (.ref b1), .val (.ref b2), .val (.int (0 : Int32))] [(.int (0 : Int32)), (.ref b2), (.int (x.toInt8.toInt32))]))
      obtain ⟨cl10, Ar10, q10, S10, Nn10, H10, G10⟩ := id V2
      have in10 := inb_of S10 ⟨(by decide : ¬ (0 : Int32) < 0), (by decide : (0 : Int32) < (2 : Int32))⟩
      refine OGo.by_ (fun t kk => X0.baloadBytes hx (j := (0 : Int32)) (v := (.int (x'.toInt8.toInt32))) (by rw [e0]; exact Ar10.1) (State.isArrayOf_alike hZ.alike Ar10.2.1) Ar10.2.2 in10 (H10.at in10 (rfl)) (g := (mkF m 20 #[.val (.ref b1), .val (.ref b2), .val (.int (0 : Int32))] [(.int (0 : Int32)), (.ref b2), (.int (x.toInt8.toInt32))])) rfl rfl (hb hby d_leq_20) _ kk) ?_
      show OGo p e below _ (s₁.setTop (mkF m 21 #[.val (.ref b1), .val (.ref b2), .val (.int (0 : Int32))] [(.int (x'.toInt8.toInt32)), (.int (x.toInt8.toInt32))]))
      by_cases hb0 : (x.toInt8.toInt32) = (x'.toInt8.toInt32)
      · refine OGo.by_ (fun t k => XS.icmpYes X0.here hx rfl (pc0 := 21) (pc' := 26) rfl (hb hby d_leq_21) rfl (teq hb0).1 (by decide) (by decide) k) ?_
        show OGo p e below _ (s₁.setTop (mkF m 26 #[.val (.ref b1), .val (.ref b2), .val (.int (0 : Int32))] []))
        refine OGo.by_ (fun t k => XS.iinc X0.here hx rfl (hb hby d_leq_26) rfl (l' := #[.val (.ref b1), .val (.ref b2), .val (.int (1 : Int32))]) rfl k) ?_
        show OGo p e below _ (s₁.setTop (mkF m 29 #[.val (.ref b1), .val (.ref b2), .val (.int (1 : Int32))] []))
        refine OGo.by_ (fun t k => XS.goto X0.here hx rfl (pc0 := 29) (pc' := 9) rfl (hb hby d_leq_29) (by decide) (by decide) k) ?_
        show OGo p e below _ (s₁.setTop (mkF m 9 #[.val (.ref b1), .val (.ref b2), .val (.int (1 : Int32))] []))
        refine OGo.by_ (fun t k => XS.iloadN X0.here hx rfl (hb hby d_leq_9) rfl k) ?_
        show OGo p e below _ (s₁.setTop (mkF m 10 #[.val (.ref b1), .val (.ref b2), .val (.int (1 : Int32))] [(.int (1 : Int32))]))
        refine OGo.by_ (fun t k => XS.aloadN X0.here hx rfl (hb hby d_leq_10) rfl rfl k) ?_
        show OGo p e below _ (s₁.setTop (mkF m 11 #[.val (.ref b1), .val (.ref b2), .val (.int (1 : Int32))] [(.ref b1), (.int (1 : Int32))]))
        obtain ⟨cl11, Ar11, q11, S11, Nn11, H11, G11⟩ := id V1
        refine OGo.by_ (X0.arraylength hx (by rw [e0]; exact Ar11.1) (State.isArrayOf_alike hZ.alike Ar11.2.1) (g := (mkF m 11 #[.val (.ref b1), .val (.ref b2), .val (.int (1 : Int32))] [(.ref b1), (.int (1 : Int32))])) rfl rfl (hb hby d_leq_11)) ?_
        rw [len_of S11 Nn11]
        show OGo p e below _ (s₁.setTop (mkF m 12 #[.val (.ref b1), .val (.ref b2), .val (.int (1 : Int32))] [(.int (2 : Int32)), (.int (1 : Int32))]))
        refine OGo.by_ (fun t k => XS.icmpNo X0.here hx rfl (hb hby d_leq_12) rfl (tlt (by decide)).2.1 k) ?_
        show OGo p e below _ (s₁.setTop (mkF m 15 #[.val (.ref b1), .val (.ref b2), .val (.int (1 : Int32))] []))
        refine OGo.by_ (fun t k => XS.aloadN X0.here hx rfl (hb hby d_leq_15) rfl rfl k) ?_
        show OGo p e below _ (s₁.setTop (mkF m 16 #[.val (.ref b1), .val (.ref b2), .val (.int (1 : Int32))] [(.ref b1)]))
        refine OGo.by_ (fun t k => XS.iloadN X0.here hx rfl (hb hby d_leq_16) rfl k) ?_
        show OGo p e below _ (s₁.setTop (mkF m 17 #[.val (.ref b1), .val (.ref b2), .val (.int (1 : Int32))] [(.int (1 : Int32)), (.ref b1)]))
        obtain ⟨cl12, Ar12, q12, S12, Nn12, H12, G12⟩ := id V1
        have in12 := inb_of S12 ⟨(by decide : ¬ (1 : Int32) < 0), (by decide : (1 : Int32) < (2 : Int32))⟩
        refine OGo.by_ (fun t kk => X0.baloadBytes hx (j := (1 : Int32)) (v := (.int (y.toInt8.toInt32))) (by rw [e0]; exact Ar12.1) (State.isArrayOf_alike hZ.alike Ar12.2.1) Ar12.2.2 in12 (H12.at in12 (rfl)) (g := (mkF m 17 #[.val (.ref b1), .val (.ref b2), .val (.int (1 : Int32))] [(.int (1 : Int32)), (.ref b1)])) rfl rfl (hb hby d_leq_17) _ kk) ?_
        show OGo p e below _ (s₁.setTop (mkF m 18 #[.val (.ref b1), .val (.ref b2), .val (.int (1 : Int32))] [(.int (y.toInt8.toInt32))]))
        refine OGo.by_ (fun t k => XS.aloadN X0.here hx rfl (hb hby d_leq_18) rfl rfl k) ?_
        show OGo p e below _ (s₁.setTop (mkF m 19 #[.val (.ref b1), .val (.ref b2), .val (.int (1 : Int32))] [(.ref b2), (.int (y.toInt8.toInt32))]))
        refine OGo.by_ (fun t k => XS.iloadN X0.here hx rfl (hb hby d_leq_19) rfl k) ?_
        show OGo p e below _ (s₁.setTop (mkF m 20 #[.val (.ref b1), .val (.ref b2), .val (.int (1 : Int32))] [(.int (1 : Int32)), (.ref b2), (.int (y.toInt8.toInt32))]))
        obtain ⟨cl13, Ar13, q13, S13, Nn13, H13, G13⟩ := id V2
        have in13 := inb_of S13 ⟨(by decide : ¬ (1 : Int32) < 0), (by decide : (1 : Int32) < (2 : Int32))⟩
        refine OGo.by_ (fun t kk => X0.baloadBytes hx (j := (1 : Int32)) (v := (.int (y'.toInt8.toInt32))) (by rw [e0]; exact Ar13.1) (State.isArrayOf_alike hZ.alike Ar13.2.1) Ar13.2.2 in13 (H13.at in13 (rfl)) (g := (mkF m 20 #[.val (.ref b1), .val (.ref b2), .val (.int (1 : Int32))] [(.int (1 : Int32)), (.ref b2), (.int (y.toInt8.toInt32))])) rfl rfl (hb hby d_leq_20) _ kk) ?_
        show OGo p e below _ (s₁.setTop (mkF m 21 #[.val (.ref b1), .val (.ref b2), .val (.int (1 : Int32))] [(.int (y'.toInt8.toInt32)), (.int (y.toInt8.toInt32))]))
        by_cases hb1 : (y.toInt8.toInt32) = (y'.toInt8.toInt32)
        · refine OGo.by_ (fun t k => XS.icmpYes X0.here hx rfl (pc0 := 21) (pc' := 26) rfl (hb hby d_leq_21) rfl (teq hb1).1 (by decide) (by decide) k) ?_
          show OGo p e below _ (s₁.setTop (mkF m 26 #[.val (.ref b1), .val (.ref b2), .val (.int (1 : Int32))] []))
          refine OGo.by_ (fun t k => XS.iinc X0.here hx rfl (hb hby d_leq_26) rfl (l' := #[.val (.ref b1), .val (.ref b2), .val (.int (2 : Int32))]) rfl k) ?_
          show OGo p e below _ (s₁.setTop (mkF m 29 #[.val (.ref b1), .val (.ref b2), .val (.int (2 : Int32))] []))
          refine OGo.by_ (fun t k => XS.goto X0.here hx rfl (pc0 := 29) (pc' := 9) rfl (hb hby d_leq_29) (by decide) (by decide) k) ?_
          show OGo p e below _ (s₁.setTop (mkF m 9 #[.val (.ref b1), .val (.ref b2), .val (.int (2 : Int32))] []))
          refine OGo.by_ (fun t k => XS.iloadN X0.here hx rfl (hb hby d_leq_9) rfl k) ?_
          show OGo p e below _ (s₁.setTop (mkF m 10 #[.val (.ref b1), .val (.ref b2), .val (.int (2 : Int32))] [(.int (2 : Int32))]))
          refine OGo.by_ (fun t k => XS.aloadN X0.here hx rfl (hb hby d_leq_10) rfl rfl k) ?_
          show OGo p e below _ (s₁.setTop (mkF m 11 #[.val (.ref b1), .val (.ref b2), .val (.int (2 : Int32))] [(.ref b1), (.int (2 : Int32))]))
          obtain ⟨cl14, Ar14, q14, S14, Nn14, H14, G14⟩ := id V1
          refine OGo.by_ (X0.arraylength hx (by rw [e0]; exact Ar14.1) (State.isArrayOf_alike hZ.alike Ar14.2.1) (g := (mkF m 11 #[.val (.ref b1), .val (.ref b2), .val (.int (2 : Int32))] [(.ref b1), (.int (2 : Int32))])) rfl rfl (hb hby d_leq_11)) ?_
          rw [len_of S14 Nn14]
          show OGo p e below _ (s₁.setTop (mkF m 12 #[.val (.ref b1), .val (.ref b2), .val (.int (2 : Int32))] [(.int (2 : Int32)), (.int (2 : Int32))]))
          refine OGo.by_ (fun t k => XS.icmpYes X0.here hx rfl (pc0 := 12) (pc' := 32) rfl (hb hby d_leq_12) rfl (flt (by decide)).2.1 (by decide) (by decide) k) ?_
          show OGo p e below _ (s₁.setTop (mkF m 32 #[.val (.ref b1), .val (.ref b2), .val (.int (2 : Int32))] []))
          refine OGo.by_ (fun t k => XS.iconst X0.here hx rfl (hb hby d_leq_32) k) ?_
          show OGo p e below _ (s₁.setTop (mkF m 33 #[.val (.ref b1), .val (.ref b2), .val (.int (2 : Int32))] [(.int (1 : Int32))]))
          exact own_retN X0 hx hlk (t := .boolean) hret (by simp) (hb hby d_leq_33) (by decide) (by decide) (⟨by rw [if_pos (show [x, y] = [x', y'] by rw [own_bi cx0 cy0 hb0, own_bi cx1 cy1 hb1])]; rfl, N0, e0⟩)
        · refine OGo.by_ (fun t k => XS.icmpNo X0.here hx rfl (hb hby d_leq_21) rfl (feq hb1).1 k) ?_
          show OGo p e below _ (s₁.setTop (mkF m 24 #[.val (.ref b1), .val (.ref b2), .val (.int (1 : Int32))] []))
          refine OGo.by_ (fun t k => XS.iconst X0.here hx rfl (hb hby d_leq_24) k) ?_
          show OGo p e below _ (s₁.setTop (mkF m 25 #[.val (.ref b1), .val (.ref b2), .val (.int (1 : Int32))] [(.int (0 : Int32))]))
          exact own_retN X0 hx hlk (t := .boolean) hret (by simp) (hb hby d_leq_25) (by decide) (by decide) (⟨by rw [if_neg (fun q => own_bn hb1 (List.cons.inj (List.cons.inj q).2).1)]; rfl, N0, e0⟩)
      · refine OGo.by_ (fun t k => XS.icmpNo X0.here hx rfl (hb hby d_leq_21) rfl (feq hb0).1 k) ?_
        show OGo p e below _ (s₁.setTop (mkF m 24 #[.val (.ref b1), .val (.ref b2), .val (.int (0 : Int32))] []))
        refine OGo.by_ (fun t k => XS.iconst X0.here hx rfl (hb hby d_leq_24) k) ?_
        show OGo p e below _ (s₁.setTop (mkF m 25 #[.val (.ref b1), .val (.ref b2), .val (.int (0 : Int32))] [(.int (0 : Int32))]))
        exact own_retN X0 hx hlk (t := .boolean) hret (by simp) (hb hby d_leq_25) (by decide) (by decide) (⟨by rw [if_neg (fun q => own_bn hb0 (List.cons.inj q).1)]; rfl, N0, e0⟩)
    · obtain ⟨x', y', z', rfl⟩ := own_l3 L2
      have cx0 := C1 _ (List.mem_of_getElem? (i := 0) rfl)
      have cy0 := C2 _ (List.mem_of_getElem? (i := 0) rfl)
      have cx1 := C1 _ (List.mem_of_getElem? (i := 1) rfl)
      have cy1 := C2 _ (List.mem_of_getElem? (i := 1) rfl)
      have cx2 := C1 _ (List.mem_of_getElem? (i := 2) rfl)
      have cy2 := C2 _ (List.mem_of_getElem? (i := 2) rfl)
      refine OGo.by_ (fun t k => XS.iconst X0.here hx rfl (hb hby d_leq_7) k) ?_
      show OGo p e below _ (s₁.setTop (mkF m 8 #[.val (.ref b1), .val (.ref b2), .unset] [(.int (0 : Int32))]))
      refine OGo.by_ (fun t k => XS.istoreN X0.here hx rfl (hb hby d_leq_8) rfl (l' := #[.val (.ref b1), .val (.ref b2), .val (.int (0 : Int32))]) rfl k) ?_
      show OGo p e below _ (s₁.setTop (mkF m 9 #[.val (.ref b1), .val (.ref b2), .val (.int (0 : Int32))] []))
      refine OGo.by_ (fun t k => XS.iloadN X0.here hx rfl (hb hby d_leq_9) rfl k) ?_
      show OGo p e below _ (s₁.setTop (mkF m 10 #[.val (.ref b1), .val (.ref b2), .val (.int (0 : Int32))] [(.int (0 : Int32))]))
      refine OGo.by_ (fun t k => XS.aloadN X0.here hx rfl (hb hby d_leq_10) rfl rfl k) ?_
      show OGo p e below _ (s₁.setTop (mkF m 11 #[.val (.ref b1), .val (.ref b2), .val (.int (0 : Int32))] [(.ref b1), (.int (0 : Int32))]))
      obtain ⟨cl15, Ar15, q15, S15, Nn15, H15, G15⟩ := id V1
      refine OGo.by_ (X0.arraylength hx (by rw [e0]; exact Ar15.1) (State.isArrayOf_alike hZ.alike Ar15.2.1) (g := (mkF m 11 #[.val (.ref b1), .val (.ref b2), .val (.int (0 : Int32))] [(.ref b1), (.int (0 : Int32))])) rfl rfl (hb hby d_leq_11)) ?_
      rw [len_of S15 Nn15]
      show OGo p e below _ (s₁.setTop (mkF m 12 #[.val (.ref b1), .val (.ref b2), .val (.int (0 : Int32))] [(.int (3 : Int32)), (.int (0 : Int32))]))
      refine OGo.by_ (fun t k => XS.icmpNo X0.here hx rfl (hb hby d_leq_12) rfl (tlt (by decide)).2.1 k) ?_
      show OGo p e below _ (s₁.setTop (mkF m 15 #[.val (.ref b1), .val (.ref b2), .val (.int (0 : Int32))] []))
      refine OGo.by_ (fun t k => XS.aloadN X0.here hx rfl (hb hby d_leq_15) rfl rfl k) ?_
      show OGo p e below _ (s₁.setTop (mkF m 16 #[.val (.ref b1), .val (.ref b2), .val (.int (0 : Int32))] [(.ref b1)]))
      refine OGo.by_ (fun t k => XS.iloadN X0.here hx rfl (hb hby d_leq_16) rfl k) ?_
      show OGo p e below _ (s₁.setTop (mkF m 17 #[.val (.ref b1), .val (.ref b2), .val (.int (0 : Int32))] [(.int (0 : Int32)), (.ref b1)]))
      obtain ⟨cl16, Ar16, q16, S16, Nn16, H16, G16⟩ := id V1
      have in16 := inb_of S16 ⟨(by decide : ¬ (0 : Int32) < 0), (by decide : (0 : Int32) < (3 : Int32))⟩
      refine OGo.by_ (fun t kk => X0.baloadBytes hx (j := (0 : Int32)) (v := (.int (x.toInt8.toInt32))) (by rw [e0]; exact Ar16.1) (State.isArrayOf_alike hZ.alike Ar16.2.1) Ar16.2.2 in16 (H16.at in16 (rfl)) (g := (mkF m 17 #[.val (.ref b1), .val (.ref b2), .val (.int (0 : Int32))] [(.int (0 : Int32)), (.ref b1)])) rfl rfl (hb hby d_leq_17) _ kk) ?_
      show OGo p e below _ (s₁.setTop (mkF m 18 #[.val (.ref b1), .val (.ref b2), .val (.int (0 : Int32))] [(.int (x.toInt8.toInt32))]))
      refine OGo.by_ (fun t k => XS.aloadN X0.here hx rfl (hb hby d_leq_18) rfl rfl k) ?_
      show OGo p e below _ (s₁.setTop (mkF m 19 #[.val (.ref b1), .val (.ref b2), .val (.int (0 : Int32))] [(.ref b2), (.int (x.toInt8.toInt32))]))
      refine OGo.by_ (fun t k => XS.iloadN X0.here hx rfl (hb hby d_leq_19) rfl k) ?_
      show OGo p e below _ (s₁.setTop (mkF m 20 #[.val (.ref b1), .val (.ref b2), .val (.int (0 : Int32))] [(.int (0 : Int32)), (.ref b2), (.int (x.toInt8.toInt32))]))
      obtain ⟨cl17, Ar17, q17, S17, Nn17, H17, G17⟩ := id V2
      have in17 := inb_of S17 ⟨(by decide : ¬ (0 : Int32) < 0), (by decide : (0 : Int32) < (3 : Int32))⟩
      refine OGo.by_ (fun t kk => X0.baloadBytes hx (j := (0 : Int32)) (v := (.int (x'.toInt8.toInt32))) (by rw [e0]; exact Ar17.1) (State.isArrayOf_alike hZ.alike Ar17.2.1) Ar17.2.2 in17 (H17.at in17 (rfl)) (g := (mkF m 20 #[.val (.ref b1), .val (.ref b2), .val (.int (0 : Int32))] [(.int (0 : Int32)), (.ref b2), (.int (x.toInt8.toInt32))])) rfl rfl (hb hby d_leq_20) _ kk) ?_
      show OGo p e below _ (s₁.setTop (mkF m 21 #[.val (.ref b1), .val (.ref b2), .val (.int (0 : Int32))] [(.int (x'.toInt8.toInt32)), (.int (x.toInt8.toInt32))]))
      by_cases hb0 : (x.toInt8.toInt32) = (x'.toInt8.toInt32)
      · refine OGo.by_ (fun t k => XS.icmpYes X0.here hx rfl (pc0 := 21) (pc' := 26) rfl (hb hby d_leq_21) rfl (teq hb0).1 (by decide) (by decide) k) ?_
        show OGo p e below _ (s₁.setTop (mkF m 26 #[.val (.ref b1), .val (.ref b2), .val (.int (0 : Int32))] []))
        refine OGo.by_ (fun t k => XS.iinc X0.here hx rfl (hb hby d_leq_26) rfl (l' := #[.val (.ref b1), .val (.ref b2), .val (.int (1 : Int32))]) rfl k) ?_
        show OGo p e below _ (s₁.setTop (mkF m 29 #[.val (.ref b1), .val (.ref b2), .val (.int (1 : Int32))] []))
        refine OGo.by_ (fun t k => XS.goto X0.here hx rfl (pc0 := 29) (pc' := 9) rfl (hb hby d_leq_29) (by decide) (by decide) k) ?_
        show OGo p e below _ (s₁.setTop (mkF m 9 #[.val (.ref b1), .val (.ref b2), .val (.int (1 : Int32))] []))
        refine OGo.by_ (fun t k => XS.iloadN X0.here hx rfl (hb hby d_leq_9) rfl k) ?_
        show OGo p e below _ (s₁.setTop (mkF m 10 #[.val (.ref b1), .val (.ref b2), .val (.int (1 : Int32))] [(.int (1 : Int32))]))
        refine OGo.by_ (fun t k => XS.aloadN X0.here hx rfl (hb hby d_leq_10) rfl rfl k) ?_
        show OGo p e below _ (s₁.setTop (mkF m 11 #[.val (.ref b1), .val (.ref b2), .val (.int (1 : Int32))] [(.ref b1), (.int (1 : Int32))]))
        obtain ⟨cl18, Ar18, q18, S18, Nn18, H18, G18⟩ := id V1
        refine OGo.by_ (X0.arraylength hx (by rw [e0]; exact Ar18.1) (State.isArrayOf_alike hZ.alike Ar18.2.1) (g := (mkF m 11 #[.val (.ref b1), .val (.ref b2), .val (.int (1 : Int32))] [(.ref b1), (.int (1 : Int32))])) rfl rfl (hb hby d_leq_11)) ?_
        rw [len_of S18 Nn18]
        show OGo p e below _ (s₁.setTop (mkF m 12 #[.val (.ref b1), .val (.ref b2), .val (.int (1 : Int32))] [(.int (3 : Int32)), (.int (1 : Int32))]))
        refine OGo.by_ (fun t k => XS.icmpNo X0.here hx rfl (hb hby d_leq_12) rfl (tlt (by decide)).2.1 k) ?_
        show OGo p e below _ (s₁.setTop (mkF m 15 #[.val (.ref b1), .val (.ref b2), .val (.int (1 : Int32))] []))
        refine OGo.by_ (fun t k => XS.aloadN X0.here hx rfl (hb hby d_leq_15) rfl rfl k) ?_
        show OGo p e below _ (s₁.setTop (mkF m 16 #[.val (.ref b1), .val (.ref b2), .val (.int (1 : Int32))] [(.ref b1)]))
        refine OGo.by_ (fun t k => XS.iloadN X0.here hx rfl (hb hby d_leq_16) rfl k) ?_
        show OGo p e below _ (s₁.setTop (mkF m 17 #[.val (.ref b1), .val (.ref b2), .val (.int (1 : Int32))] [(.int (1 : Int32)), (.ref b1)]))
        obtain ⟨cl19, Ar19, q19, S19, Nn19, H19, G19⟩ := id V1
        have in19 := inb_of S19 ⟨(by decide : ¬ (1 : Int32) < 0), (by decide : (1 : Int32) < (3 : Int32))⟩
        refine OGo.by_ (fun t kk => X0.baloadBytes hx (j := (1 : Int32)) (v := (.int (y.toInt8.toInt32))) (by rw [e0]; exact Ar19.1) (State.isArrayOf_alike hZ.alike Ar19.2.1) Ar19.2.2 in19 (H19.at in19 (rfl)) (g := (mkF m 17 #[.val (.ref b1), .val (.ref b2), .val (.int (1 : Int32))] [(.int (1 : Int32)), (.ref b1)])) rfl rfl (hb hby d_leq_17) _ kk) ?_
        show OGo p e below _ (s₁.setTop (mkF m 18 #[.val (.ref b1), .val (.ref b2), .val (.int (1 : Int32))] [(.int (y.toInt8.toInt32))]))
        refine OGo.by_ (fun t k => XS.aloadN X0.here hx rfl (hb hby d_leq_18) rfl rfl k) ?_
        show OGo p e below _ (s₁.setTop (mkF m 19 #[.val (.ref b1), .val (.ref b2), .val (.int (1 : Int32))] [(.ref b2), (.int (y.toInt8.toInt32))]))
        refine OGo.by_ (fun t k => XS.iloadN X0.here hx rfl (hb hby d_leq_19) rfl k) ?_
        show OGo p e below _ (s₁.setTop (mkF m 20 #[.val (.ref b1), .val (.ref b2), .val (.int (1 : Int32))] [(.int (1 : Int32)), (.ref b2), (.int (y.toInt8.toInt32))]))
        obtain ⟨cl20, Ar20, q20, S20, Nn20, H20, G20⟩ := id V2
        have in20 := inb_of S20 ⟨(by decide : ¬ (1 : Int32) < 0), (by decide : (1 : Int32) < (3 : Int32))⟩
        refine OGo.by_ (fun t kk => X0.baloadBytes hx (j := (1 : Int32)) (v := (.int (y'.toInt8.toInt32))) (by rw [e0]; exact Ar20.1) (State.isArrayOf_alike hZ.alike Ar20.2.1) Ar20.2.2 in20 (H20.at in20 (rfl)) (g := (mkF m 20 #[.val (.ref b1), .val (.ref b2), .val (.int (1 : Int32))] [(.int (1 : Int32)), (.ref b2), (.int (y.toInt8.toInt32))])) rfl rfl (hb hby d_leq_20) _ kk) ?_
        show OGo p e below _ (s₁.setTop (mkF m 21 #[.val (.ref b1), .val (.ref b2), .val (.int (1 : Int32))] [(.int (y'.toInt8.toInt32)), (.int (y.toInt8.toInt32))]))
        by_cases hb1 : (y.toInt8.toInt32) = (y'.toInt8.toInt32)
        · refine OGo.by_ (fun t k => XS.icmpYes X0.here hx rfl (pc0 := 21) (pc' := 26) rfl (hb hby d_leq_21) rfl (teq hb1).1 (by decide) (by decide) k) ?_
          show OGo p e below _ (s₁.setTop (mkF m 26 #[.val (.ref b1), .val (.ref b2), .val (.int (1 : Int32))] []))
          refine OGo.by_ (fun t k => XS.iinc X0.here hx rfl (hb hby d_leq_26) rfl (l' := #[.val (.ref b1), .val (.ref b2), .val (.int (2 : Int32))]) rfl k) ?_
          show OGo p e below _ (s₁.setTop (mkF m 29 #[.val (.ref b1), .val (.ref b2), .val (.int (2 : Int32))] []))
          refine OGo.by_ (fun t k => XS.goto X0.here hx rfl (pc0 := 29) (pc' := 9) rfl (hb hby d_leq_29) (by decide) (by decide) k) ?_
          show OGo p e below _ (s₁.setTop (mkF m 9 #[.val (.ref b1), .val (.ref b2), .val (.int (2 : Int32))] []))
          refine OGo.by_ (fun t k => XS.iloadN X0.here hx rfl (hb hby d_leq_9) rfl k) ?_
          show OGo p e below _ (s₁.setTop (mkF m 10 #[.val (.ref b1), .val (.ref b2), .val (.int (2 : Int32))] [(.int (2 : Int32))]))
          refine OGo.by_ (fun t k => XS.aloadN X0.here hx rfl (hb hby d_leq_10) rfl rfl k) ?_
          show OGo p e below _ (s₁.setTop (mkF m 11 #[.val (.ref b1), .val (.ref b2), .val (.int (2 : Int32))] [(.ref b1), (.int (2 : Int32))]))
          obtain ⟨cl21, Ar21, q21, S21, Nn21, H21, G21⟩ := id V1
          refine OGo.by_ (X0.arraylength hx (by rw [e0]; exact Ar21.1) (State.isArrayOf_alike hZ.alike Ar21.2.1) (g := (mkF m 11 #[.val (.ref b1), .val (.ref b2), .val (.int (2 : Int32))] [(.ref b1), (.int (2 : Int32))])) rfl rfl (hb hby d_leq_11)) ?_
          rw [len_of S21 Nn21]
          show OGo p e below _ (s₁.setTop (mkF m 12 #[.val (.ref b1), .val (.ref b2), .val (.int (2 : Int32))] [(.int (3 : Int32)), (.int (2 : Int32))]))
          refine OGo.by_ (fun t k => XS.icmpNo X0.here hx rfl (hb hby d_leq_12) rfl (tlt (by decide)).2.1 k) ?_
          show OGo p e below _ (s₁.setTop (mkF m 15 #[.val (.ref b1), .val (.ref b2), .val (.int (2 : Int32))] []))
          refine OGo.by_ (fun t k => XS.aloadN X0.here hx rfl (hb hby d_leq_15) rfl rfl k) ?_
          show OGo p e below _ (s₁.setTop (mkF m 16 #[.val (.ref b1), .val (.ref b2), .val (.int (2 : Int32))] [(.ref b1)]))
          refine OGo.by_ (fun t k => XS.iloadN X0.here hx rfl (hb hby d_leq_16) rfl k) ?_
          show OGo p e below _ (s₁.setTop (mkF m 17 #[.val (.ref b1), .val (.ref b2), .val (.int (2 : Int32))] [(.int (2 : Int32)), (.ref b1)]))
          obtain ⟨cl22, Ar22, q22, S22, Nn22, H22, G22⟩ := id V1
          have in22 := inb_of S22 ⟨(by decide : ¬ (2 : Int32) < 0), (by decide : (2 : Int32) < (3 : Int32))⟩
          refine OGo.by_ (fun t kk => X0.baloadBytes hx (j := (2 : Int32)) (v := (.int (z.toInt8.toInt32))) (by rw [e0]; exact Ar22.1) (State.isArrayOf_alike hZ.alike Ar22.2.1) Ar22.2.2 in22 (H22.at in22 (rfl)) (g := (mkF m 17 #[.val (.ref b1), .val (.ref b2), .val (.int (2 : Int32))] [(.int (2 : Int32)), (.ref b1)])) rfl rfl (hb hby d_leq_17) _ kk) ?_
          show OGo p e below _ (s₁.setTop (mkF m 18 #[.val (.ref b1), .val (.ref b2), .val (.int (2 : Int32))] [(.int (z.toInt8.toInt32))]))
          refine OGo.by_ (fun t k => XS.aloadN X0.here hx rfl (hb hby d_leq_18) rfl rfl k) ?_
          show OGo p e below _ (s₁.setTop (mkF m 19 #[.val (.ref b1), .val (.ref b2), .val (.int (2 : Int32))] [(.ref b2), (.int (z.toInt8.toInt32))]))
          refine OGo.by_ (fun t k => XS.iloadN X0.here hx rfl (hb hby d_leq_19) rfl k) ?_
          show OGo p e below _ (s₁.setTop (mkF m 20 #[.val (.ref b1), .val (.ref b2), .val (.int (2 : Int32))] [(.int (2 : Int32)), (.ref b2), (.int (z.toInt8.toInt32))]))
          obtain ⟨cl23, Ar23, q23, S23, Nn23, H23, G23⟩ := id V2
          have in23 := inb_of S23 ⟨(by decide : ¬ (2 : Int32) < 0), (by decide : (2 : Int32) < (3 : Int32))⟩
          refine OGo.by_ (fun t kk => X0.baloadBytes hx (j := (2 : Int32)) (v := (.int (z'.toInt8.toInt32))) (by rw [e0]; exact Ar23.1) (State.isArrayOf_alike hZ.alike Ar23.2.1) Ar23.2.2 in23 (H23.at in23 (rfl)) (g := (mkF m 20 #[.val (.ref b1), .val (.ref b2), .val (.int (2 : Int32))] [(.int (2 : Int32)), (.ref b2), (.int (z.toInt8.toInt32))])) rfl rfl (hb hby d_leq_20) _ kk) ?_
          show OGo p e below _ (s₁.setTop (mkF m 21 #[.val (.ref b1), .val (.ref b2), .val (.int (2 : Int32))] [(.int (z'.toInt8.toInt32)), (.int (z.toInt8.toInt32))]))
          by_cases hb2 : (z.toInt8.toInt32) = (z'.toInt8.toInt32)
          · refine OGo.by_ (fun t k => XS.icmpYes X0.here hx rfl (pc0 := 21) (pc' := 26) rfl (hb hby d_leq_21) rfl (teq hb2).1 (by decide) (by decide) k) ?_
            show OGo p e below _ (s₁.setTop (mkF m 26 #[.val (.ref b1), .val (.ref b2), .val (.int (2 : Int32))] []))
            refine OGo.by_ (fun t k => XS.iinc X0.here hx rfl (hb hby d_leq_26) rfl (l' := #[.val (.ref b1), .val (.ref b2), .val (.int (3 : Int32))]) rfl k) ?_
            show OGo p e below _ (s₁.setTop (mkF m 29 #[.val (.ref b1), .val (.ref b2), .val (.int (3 : Int32))] []))
            refine OGo.by_ (fun t k => XS.goto X0.here hx rfl (pc0 := 29) (pc' := 9) rfl (hb hby d_leq_29) (by decide) (by decide) k) ?_
            show OGo p e below _ (s₁.setTop (mkF m 9 #[.val (.ref b1), .val (.ref b2), .val (.int (3 : Int32))] []))
            refine OGo.by_ (fun t k => XS.iloadN X0.here hx rfl (hb hby d_leq_9) rfl k) ?_
            show OGo p e below _ (s₁.setTop (mkF m 10 #[.val (.ref b1), .val (.ref b2), .val (.int (3 : Int32))] [(.int (3 : Int32))]))
            refine OGo.by_ (fun t k => XS.aloadN X0.here hx rfl (hb hby d_leq_10) rfl rfl k) ?_
            show OGo p e below _ (s₁.setTop (mkF m 11 #[.val (.ref b1), .val (.ref b2), .val (.int (3 : Int32))] [(.ref b1), (.int (3 : Int32))]))
            obtain ⟨cl24, Ar24, q24, S24, Nn24, H24, G24⟩ := id V1
            refine OGo.by_ (X0.arraylength hx (by rw [e0]; exact Ar24.1) (State.isArrayOf_alike hZ.alike Ar24.2.1) (g := (mkF m 11 #[.val (.ref b1), .val (.ref b2), .val (.int (3 : Int32))] [(.ref b1), (.int (3 : Int32))])) rfl rfl (hb hby d_leq_11)) ?_
            rw [len_of S24 Nn24]
            show OGo p e below _ (s₁.setTop (mkF m 12 #[.val (.ref b1), .val (.ref b2), .val (.int (3 : Int32))] [(.int (3 : Int32)), (.int (3 : Int32))]))
            refine OGo.by_ (fun t k => XS.icmpYes X0.here hx rfl (pc0 := 12) (pc' := 32) rfl (hb hby d_leq_12) rfl (flt (by decide)).2.1 (by decide) (by decide) k) ?_
            show OGo p e below _ (s₁.setTop (mkF m 32 #[.val (.ref b1), .val (.ref b2), .val (.int (3 : Int32))] []))
            refine OGo.by_ (fun t k => XS.iconst X0.here hx rfl (hb hby d_leq_32) k) ?_
            show OGo p e below _ (s₁.setTop (mkF m 33 #[.val (.ref b1), .val (.ref b2), .val (.int (3 : Int32))] [(.int (1 : Int32))]))
            exact own_retN X0 hx hlk (t := .boolean) hret (by simp) (hb hby d_leq_33) (by decide) (by decide) (⟨by rw [if_pos (show [x, y, z] = [x', y', z'] by rw [own_bi cx0 cy0 hb0, own_bi cx1 cy1 hb1, own_bi cx2 cy2 hb2])]; rfl, N0, e0⟩)
          · refine OGo.by_ (fun t k => XS.icmpNo X0.here hx rfl (hb hby d_leq_21) rfl (feq hb2).1 k) ?_
            show OGo p e below _ (s₁.setTop (mkF m 24 #[.val (.ref b1), .val (.ref b2), .val (.int (2 : Int32))] []))
            refine OGo.by_ (fun t k => XS.iconst X0.here hx rfl (hb hby d_leq_24) k) ?_
            show OGo p e below _ (s₁.setTop (mkF m 25 #[.val (.ref b1), .val (.ref b2), .val (.int (2 : Int32))] [(.int (0 : Int32))]))
            exact own_retN X0 hx hlk (t := .boolean) hret (by simp) (hb hby d_leq_25) (by decide) (by decide) (⟨by rw [if_neg (fun q => own_bn hb2 (List.cons.inj (List.cons.inj (List.cons.inj q).2).2).1)]; rfl, N0, e0⟩)
        · refine OGo.by_ (fun t k => XS.icmpNo X0.here hx rfl (hb hby d_leq_21) rfl (feq hb1).1 k) ?_
          show OGo p e below _ (s₁.setTop (mkF m 24 #[.val (.ref b1), .val (.ref b2), .val (.int (1 : Int32))] []))
          refine OGo.by_ (fun t k => XS.iconst X0.here hx rfl (hb hby d_leq_24) k) ?_
          show OGo p e below _ (s₁.setTop (mkF m 25 #[.val (.ref b1), .val (.ref b2), .val (.int (1 : Int32))] [(.int (0 : Int32))]))
          exact own_retN X0 hx hlk (t := .boolean) hret (by simp) (hb hby d_leq_25) (by decide) (by decide) (⟨by rw [if_neg (fun q => own_bn hb1 (List.cons.inj (List.cons.inj q).2).1)]; rfl, N0, e0⟩)
      · refine OGo.by_ (fun t k => XS.icmpNo X0.here hx rfl (hb hby d_leq_21) rfl (feq hb0).1 k) ?_
        show OGo p e below _ (s₁.setTop (mkF m 24 #[.val (.ref b1), .val (.ref b2), .val (.int (0 : Int32))] []))
        refine OGo.by_ (fun t k => XS.iconst X0.here hx rfl (hb hby d_leq_24) k) ?_
        show OGo p e below _ (s₁.setTop (mkF m 25 #[.val (.ref b1), .val (.ref b2), .val (.int (0 : Int32))] [(.int (0 : Int32))]))
        exact own_retN X0 hx hlk (t := .boolean) hret (by simp) (hb hby d_leq_25) (by decide) (by decide) (⟨by rw [if_neg (fun q => own_bn hb0 (List.cons.inj q).1)]; rfl, N0, e0⟩)
  · refine OGo.by_ (fun t k => XS.icmpYes X0.here hx rfl (pc0 := 4) (pc' := 34) rfl (hb hby d_leq_4) rfl (feq hnk).2 (by decide) (by decide) k) ?_
    show OGo p e below _ (s₁.setTop (mkF m 34 #[.val (.ref b1), .val (.ref b2), .unset] []))
    refine OGo.by_ (fun t k => XS.iconst X0.here hx rfl (hb hby d_leq_34) k) ?_
    show OGo p e below _ (s₁.setTop (mkF m 35 #[.val (.ref b1), .val (.ref b2), .unset] [(.int (0 : Int32))]))
    exact own_retN X0 hx hlk (t := .boolean) hret (by simp) (hb hby d_leq_35) (by decide) (by decide) (⟨by rw [if_neg (own_lenD L1 L2 hnk)]; rfl, N0, e0⟩)
theorem own_r (q : Prop) [Decidable q] : nar .boolean (if (if q then (1 : Int32) else (0 : Int32)) = (0 : Int32) then (0 : Int32) else (1 : Int32)) = (if q then (1 : Int32) else (0 : Int32)) := by
  by_cases h : q
  · rw [if_pos h]; rfl
  · rw [if_neg h]; rfl
theorem own_nbo (q : Prop) [Decidable q] : nar .boolean (if q then (1 : Int32) else (0 : Int32)) = (if q then (1 : Int32) else (0 : Int32)) := by split <;> rfl
theorem d_seq_0 : decode jdk_42_method_66_code 0 = .ok (.aload_n 0, 1) := by decide +kernel
theorem d_seq_1 : decode jdk_42_method_66_code 1 = .ok (.aload_n 1, 1) := by decide +kernel
theorem d_seq_2 : decode jdk_42_method_66_code 2 = .ok (.if_acmp .ne 5, 3) := by decide +kernel
theorem d_seq_7 : decode jdk_42_method_66_code 7 = .ok (.aload_n 1, 1) := by decide +kernel
theorem d_seq_8 : decode jdk_42_method_66_code 8 = .ok (.instanceof 10, 3) := by decide +kernel
theorem d_seq_11 : decode jdk_42_method_66_code 11 = .ok (.ifCond .eq 43, 3) := by decide +kernel
theorem d_seq_14 : decode jdk_42_method_66_code 14 = .ok (.aload_n 1, 1) := by decide +kernel
theorem d_seq_15 : decode jdk_42_method_66_code 15 = .ok (.checkcast 10, 3) := by decide +kernel
theorem d_seq_18 : decode jdk_42_method_66_code 18 = .ok (.astore_n 2, 1) := by decide +kernel
theorem d_seq_19 : decode jdk_42_method_66_code 19 = .ok (.getstatic 38, 3) := by decide +kernel
theorem d_seq_22 : decode jdk_42_method_66_code 22 = .ok (.ifCond .eq 14, 3) := by decide +kernel
theorem d_seq_25 : decode jdk_42_method_66_code 25 = .ok (.aload_n 0, 1) := by decide +kernel
theorem d_seq_26 : decode jdk_42_method_66_code 26 = .ok (.getfield 15, 3) := by decide +kernel
theorem d_seq_29 : decode jdk_42_method_66_code 29 = .ok (.aload_n 2, 1) := by decide +kernel
theorem d_seq_30 : decode jdk_42_method_66_code 30 = .ok (.getfield 15, 3) := by decide +kernel
theorem d_seq_33 : decode jdk_42_method_66_code 33 = .ok (.if_icmp .ne 21, 3) := by decide +kernel
theorem d_seq_36 : decode jdk_42_method_66_code 36 = .ok (.aload_n 0, 1) := by decide +kernel
theorem d_seq_37 : decode jdk_42_method_66_code 37 = .ok (.getfield 9, 3) := by decide +kernel
theorem d_seq_40 : decode jdk_42_method_66_code 40 = .ok (.aload_n 2, 1) := by decide +kernel
theorem d_seq_41 : decode jdk_42_method_66_code 41 = .ok (.getfield 9, 3) := by decide +kernel
theorem d_seq_44 : decode jdk_42_method_66_code 44 = .ok (.invokestatic 541, 3) := by decide +kernel
theorem pd_oABABcZ : parseMethodDescriptor "([B[B)Z" = some ⟨[(.array .byte), (.array .byte)], some .boolean⟩ := by decide +kernel
theorem d_seq_47 : decode jdk_42_method_66_code 47 = .ok (.ifCond .eq 7, 3) := by decide +kernel
theorem d_seq_54 : decode jdk_42_method_66_code 54 = .ok (.iconst 0, 1) := by decide +kernel
theorem d_seq_50 : decode jdk_42_method_66_code 50 = .ok (.iconst 1, 1) := by decide +kernel
theorem d_seq_51 : decode jdk_42_method_66_code 51 = .ok (.goto 4, 3) := by decide +kernel
theorem d_seq_55 : decode jdk_42_method_66_code 55 = .ok (.ireturn, 1) := by decide +kernel
theorem ef_seq (m : MethodId) (x0 : Addr) (x1 : Addr) : entryFrame m #[(.ref x0), (.ref x1)] 3 = mkF m 0 #[.val (.ref x0), .val (.ref x1), .unset] [] := by first | (simp [entryFrame, mkF, argsToLocals, Value.category]; done) | rfl
def Q_seq (Z : State) (a a2 b1 b2 : Addr) (n k8 cs : Int32) (xs ys : List Int32) (h0 : Heap) (n0 : Nat) (v : Option Value) (h : Heap) (L : List Loc) : Prop := v = some (.int (if xs = ys then (1 : Int32) else (0 : Int32))) ∧ Fr n0 L ∧ h = h0
set_option maxRecDepth 65536 in
set_option maxHeartbeats 40000000 in
theorem rm_seq (l : Launch) (Z : State) (a0 : Array Value) (hw : ∀ d ∈ tables_1, d.before a0 Z = true) (ws : List Jvm.Cond) (a a2 b1 b2 : Addr) (n k8 cs : Int32) (xs ys : List Int32) (h0 : Heap) (n0 : Nat) (Z0 : n0 ≤ h0.size) (SC : Sta Z h0 "java/lang/String" "COMPACT_STRINGS" "Z" (.int cs)) (hcs : ¬ cs = (0 : Int32)) (S1 : own_S Z h0 a b1 n xs) (S2 : own_S Z h0 a2 b2 k8 ys) (hab : ¬ a = a2) :
    MetFree l (⟨"java/lang/String", "equals", "(Ljava/lang/Object;)Z"⟩ : MethodName) (head1 (Jvm.Cond.code (⟨"java/lang/String", "equals", "(Ljava/lang/Object;)Z"⟩ : MethodName) jdk_42_method_66_code 3 (some .boolean) :: ws) ({ frames := 1, cells := 0, slots := 0, locals := 14 } : Room)) (fun a_ U => a_ = #[(.ref a), (.ref a2)] ∧ Z.Warmed39 U.vm ∧ U.heap = h0) (fun _ _ _ _ _ => True) (fun _ U o U' => ∃ v L, o = .returned v ∧ Q_seq Z a a2 b1 b2 n k8 cs xs ys h0 n0 v U'.heap L ∧ FrameEnd U o U' L ({ frames := 1, cells := 0, slots := 0, locals := 14 } : Room).cells ({ frames := 1, cells := 0, slots := 0, locals := 14 } : Room).slots) := by
  refine MetFree.of_bodySF (plainFor_of_name pn_java_lang_String) hisR ?_
  intro p e s m args below meth c s₁ Bd hml0 hP hK
  obtain ⟨rfl, hZ, hh⟩ := hP
  have hx := Bd.exec
  have hby := Bd.bytes
  have hml : c.maxLocals = 3 := hml0
  have hown : s.vm.findClass "java/lang/String" = some m.cls := findClass_of_methodNamed Bd.named
  have hnm := (name_of_methodNamed Bd.named Bd.method).1
  have X0 : Stand p l e ({ frames := 1, cells := 0, slots := 0, locals := 14 } : Room) s m #[(.ref a), (.ref a2)] below meth c s₁ [] 0 0 := Stand.of_body Bd
  have e0 : s₁.heap = h0 := by rw [← hh, Bd.state]; rfl
  have N0 := Fr.nil n0
  have hlk := Bd.notSynchronized
  have hret := Bd.returns
  show OGo p e below (OEnd s (Q_seq Z a a2 b1 b2 n k8 cs xs ys h0 n0) ({ frames := 1, cells := 0, slots := 0, locals := 14 } : Room).cells ({ frames := 1, cells := 0, slots := 0, locals := 14 } : Room).slots) (s₁.setTop (entryFrame m #[(.ref a), (.ref a2)] 3))
  rw [ef_seq]
  show OGo p e below _ (s₁.setTop (mkF m 0 #[.val (.ref a), .val (.ref a2), .unset] []))
  obtain ⟨E1_, Fc1, Fv1, ⟨kk1, Vb1⟩, L1, C1⟩ := S1
  obtain ⟨E2_, Fc2, Fv2, ⟨kk2, Vb2⟩, L2, C2⟩ := S2
  refine OGo.by_ (fun t k => XS.aloadN X0.here hx rfl (hb hby d_seq_0) rfl rfl k) ?_
  show OGo p e below _ (s₁.setTop (mkF m 1 #[.val (.ref a), .val (.ref a2), .unset] [(.ref a)]))
  refine OGo.by_ (fun t k => XS.aloadN X0.here hx rfl (hb hby d_seq_1) rfl rfl k) ?_
  show OGo p e below _ (s₁.setTop (mkF m 2 #[.val (.ref a), .val (.ref a2), .unset] [(.ref a2), (.ref a)]))
  refine OGo.by_ (fun t k => Jvm.RoadKit.acmp (g := (mkF m 2 #[.val (.ref a), .val (.ref a2), .unset] [(.ref a2), (.ref a)])) X0 hx rfl rfl rfl (pc0 := 2) (pc' := 7) (same := false) rfl (hb hby d_seq_2) rfl (decide_eq_false fun q => hab (Value.ref.inj q)) (by decide) (by decide) k) ?_
  show OGo p e below _ (s₁.setTop (mkF m 7 #[.val (.ref a), .val (.ref a2), .unset] []))
  refine OGo.by_ (fun t k => XS.aloadN X0.here hx rfl (hb hby d_seq_7) rfl rfl k) ?_
  show OGo p e below _ (s₁.setTop (mkF m 8 #[.val (.ref a), .val (.ref a2), .unset] [(.ref a2)]))
  obtain ⟨T1, X1, e1, st1⟩ := instY X0 hx hZ hown (hw _ (List.mem_of_getElem? (i := 63) rfl)) e0 (Ins.self E2_) (g := (mkF m 8 #[.val (.ref a), .val (.ref a2), .unset] [(.ref a2)])) rfl rfl (hb hby d_seq_8)
  refine OGo.by_ st1 ?_
  show OGo p e below _ (T1.setTop (mkF m 11 #[.val (.ref a), .val (.ref a2), .unset] [(.int (1 : Int32))]))
  refine OGo.by_ (fun t k => XS.ifNo X1.here hx rfl (hb hby d_seq_11) rfl ((if0 _ _).trans (feq (by decide)).1) k) ?_
  show OGo p e below _ (T1.setTop (mkF m 14 #[.val (.ref a), .val (.ref a2), .unset] []))
  refine OGo.by_ (fun t k => XS.aloadN X1.here hx rfl (hb hby d_seq_14) rfl rfl k) ?_
  show OGo p e below _ (T1.setTop (mkF m 15 #[.val (.ref a), .val (.ref a2), .unset] [(.ref a2)]))
  obtain ⟨T2, X2, e2, st2⟩ := castY X1 hx hZ hown (hw _ (List.mem_of_getElem? (i := 63) rfl)) e1 (Ins.self E2_) (g := (mkF m 15 #[.val (.ref a), .val (.ref a2), .unset] [(.ref a2)])) rfl rfl (hb hby d_seq_15)
  refine OGo.by_ st2 ?_
  show OGo p e below _ (T2.setTop (mkF m 18 #[.val (.ref a), .val (.ref a2), .unset] [(.ref a2)]))
  refine OGo.by_ (fun t k => XS.astoreN X2.here hx rfl (hb hby d_seq_18) rfl rfl (l' := #[.val (.ref a), .val (.ref a2), .val (.ref a2)]) rfl k) ?_
  show OGo p e below _ (T2.setTop (mkF m 19 #[.val (.ref a), .val (.ref a2), .val (.ref a2)] []))
  obtain ⟨T3, X3, e3, st3⟩ := getS X2 hx hZ hown (host := "") (hw _ (List.mem_of_getElem? (i := 29) rfl)) Via.refl e2 SC (g := (mkF m 19 #[.val (.ref a), .val (.ref a2), .val (.ref a2)] [])) rfl (hb hby d_seq_19)
  refine OGo.by_ st3 ?_
  show OGo p e below _ (T3.setTop (mkF m 22 #[.val (.ref a), .val (.ref a2), .val (.ref a2)] [(.int cs)]))
  refine OGo.by_ (fun t k => XS.ifNo X3.here hx rfl (hb hby d_seq_22) rfl ((if0 _ _).trans (feq hcs).1) k) ?_
  show OGo p e below _ (T3.setTop (mkF m 25 #[.val (.ref a), .val (.ref a2), .val (.ref a2)] []))
  refine OGo.by_ (fun t k => XS.aloadN X3.here hx rfl (hb hby d_seq_25) rfl rfl k) ?_
  show OGo p e below _ (T3.setTop (mkF m 26 #[.val (.ref a), .val (.ref a2), .val (.ref a2)] [(.ref a)]))
  obtain ⟨T4, X4, e4, st4⟩ := getF X3 hx hZ hown (host := "") (Or.inl (hw _ (List.mem_of_getElem? (i := 28) rfl))) Via.refl e3 Fc1 (g := (mkF m 26 #[.val (.ref a), .val (.ref a2), .val (.ref a2)] [(.ref a)])) rfl rfl (hb hby d_seq_26)
  refine OGo.by_ st4 ?_
  show OGo p e below _ (T4.setTop (mkF m 29 #[.val (.ref a), .val (.ref a2), .val (.ref a2)] [(.int (0 : Int32))]))
  refine OGo.by_ (fun t k => XS.aloadN X4.here hx rfl (hb hby d_seq_29) rfl rfl k) ?_
  show OGo p e below _ (T4.setTop (mkF m 30 #[.val (.ref a), .val (.ref a2), .val (.ref a2)] [(.ref a2), (.int (0 : Int32))]))
  obtain ⟨T5, X5, e5, st5⟩ := getF X4 hx hZ hown (host := "") (Or.inl (hw _ (List.mem_of_getElem? (i := 28) rfl))) Via.refl e4 Fc2 (g := (mkF m 30 #[.val (.ref a), .val (.ref a2), .val (.ref a2)] [(.ref a2), (.int (0 : Int32))])) rfl rfl (hb hby d_seq_30)
  refine OGo.by_ st5 ?_
  show OGo p e below _ (T5.setTop (mkF m 33 #[.val (.ref a), .val (.ref a2), .val (.ref a2)] [(.int (0 : Int32)), (.int (0 : Int32))]))
  refine OGo.by_ (fun t k => XS.icmpNo X5.here hx rfl (hb hby d_seq_33) rfl (teq rfl).2 k) ?_
  show OGo p e below _ (T5.setTop (mkF m 36 #[.val (.ref a), .val (.ref a2), .val (.ref a2)] []))
  refine OGo.by_ (fun t k => XS.aloadN X5.here hx rfl (hb hby d_seq_36) rfl rfl k) ?_
  show OGo p e below _ (T5.setTop (mkF m 37 #[.val (.ref a), .val (.ref a2), .val (.ref a2)] [(.ref a)]))
  obtain ⟨T6, X6, e6, st6⟩ := getF X5 hx hZ hown (host := "") (Or.inl (hw _ (List.mem_of_getElem? (i := 27) rfl))) Via.refl e5 Fv1 (g := (mkF m 37 #[.val (.ref a), .val (.ref a2), .val (.ref a2)] [(.ref a)])) rfl rfl (hb hby d_seq_37)
  refine OGo.by_ st6 ?_
  show OGo p e below _ (T6.setTop (mkF m 40 #[.val (.ref a), .val (.ref a2), .val (.ref a2)] [(.ref b1)]))
  refine OGo.by_ (fun t k => XS.aloadN X6.here hx rfl (hb hby d_seq_40) rfl rfl k) ?_
  show OGo p e below _ (T6.setTop (mkF m 41 #[.val (.ref a), .val (.ref a2), .val (.ref a2)] [(.ref a2), (.ref b1)]))
  obtain ⟨T7, X7, e7, st7⟩ := getF X6 hx hZ hown (host := "") (Or.inl (hw _ (List.mem_of_getElem? (i := 27) rfl))) Via.refl e6 Fv2 (g := (mkF m 41 #[.val (.ref a), .val (.ref a2), .val (.ref a2)] [(.ref a2), (.ref b1)])) rfl rfl (hb hby d_seq_41)
  refine OGo.by_ st7 ?_
  show OGo p e below _ (T7.setTop (mkF m 44 #[.val (.ref a), .val (.ref a2), .val (.ref a2)] [(.ref b2), (.ref b1)]))
  obtain ⟨_, _, ⟨T8, L8, k8, n8⟩, -, X8, ⟨Lc8, hQ8, l8, y8, z8⟩, st8⟩ := Jvm.LawKit.callS X7 hx (y := (⟨"java/lang/StringLatin1", "equals", "([B[B)Z"⟩ : MethodName)) hown (mvT hZ (hw _ (List.mem_of_getElem? (i := 64) rfl))) (mvT hZ (hw _ (List.mem_of_getElem? (i := 65) rfl))) (mvT hZ (hw _ (List.mem_of_getElem? (i := 66) rfl))) (mvT hZ (hw _ (List.mem_of_getElem? (i := 67) rfl))) (by decide) (backOf (W := 0) (rm_leq l Z a0 hw [] b1 b2 kk1 kk2 n k8 xs ys h0 n0 Z0 Vb1 Vb2 L1 L2 C1 C2) hZ (hw _ (List.mem_of_getElem? (i := 67) rfl)) (hw _ (List.mem_of_getElem? (i := 66) rfl)) (by decide) (by decide)) (g := (mkF m 44 #[.val (.ref a), .val (.ref a2), .val (.ref a2)] [(.ref b2), (.ref b1)])) rfl (by rw [hml]; rfl) (argsL := [(.ref b1), (.ref b2)]) (rest := []) (lenOf pd_oABABcZ rfl) rfl (by show 2 * 0 + _ ≤ _; exact Nat.le_of_eq rfl) (hb hby d_seq_44) (fun _ _ => ⟨rfl, e7, (by decide : 0 + 0 ≤ _), (by decide : 0 + 0 ≤ _)⟩)
  dsimp only [Pt.U, Pt.locs, Pt.cells, Pt.slots] at X8 l8 y8 z8 st8 hQ8
  subst l8 y8 z8
  obtain ⟨rfl, Nq8, eq8⟩ := hQ8
  have N8 := Fr.app N0 Nq8
  refine OGo.by_ st8 ?_
  show OGo p e below _ (T8.setTop (mkF m 47 #[.val (.ref a), .val (.ref a2), .val (.ref a2)] [(.int (if xs = ys then (1 : Int32) else (0 : Int32)))]))
  have D9 : ∀ t, Steps p.tables e below (T8.setTop (mkF m 55 #[.val (.ref a), .val (.ref a2), .val (.ref a2)] [(.int (if (if xs = ys then (1 : Int32) else (0 : Int32)) = (0 : Int32) then (0 : Int32) else (1 : Int32)))])) t → Steps p.tables e below (T8.setTop (mkF m 47 #[.val (.ref a), .val (.ref a2), .val (.ref a2)] [(.int (if xs = ys then (1 : Int32) else (0 : Int32)))])) t := by
    intro t k
    by_cases hc : (if xs = ys then (1 : Int32) else (0 : Int32)) = (0 : Int32)
    · rw [show (if (if xs = ys then (1 : Int32) else (0 : Int32)) = (0 : Int32) then (0 : Int32) else (1 : Int32)) = (0 : Int32) from if_pos hc] at k
      refine XS.ifYes X8.here hx rfl (pc0 := 47) (pc' := 54) rfl (hb hby d_seq_47) rfl ((if0 _ _).trans (teq hc).1) (by decide) (by decide) ?_
      show Steps p.tables e below (T8.setTop (mkF m 54 #[.val (.ref a), .val (.ref a2), .val (.ref a2)] [])) _
      refine XS.iconst X8.here hx rfl (hb hby d_seq_54) ?_
      show Steps p.tables e below (T8.setTop (mkF m 55 #[.val (.ref a), .val (.ref a2), .val (.ref a2)] [(.int (0 : Int32))])) _
      first | exact k | (simp only [if_pos hc]; exact k)
    · rw [show (if (if xs = ys then (1 : Int32) else (0 : Int32)) = (0 : Int32) then (0 : Int32) else (1 : Int32)) = (1 : Int32) from if_neg hc] at k
      refine XS.ifNo X8.here hx rfl (hb hby d_seq_47) rfl ((if0 _ _).trans (feq hc).1) ?_
      show Steps p.tables e below (T8.setTop (mkF m 50 #[.val (.ref a), .val (.ref a2), .val (.ref a2)] [])) _
      refine XS.iconst X8.here hx rfl (hb hby d_seq_50) ?_
      show Steps p.tables e below (T8.setTop (mkF m 51 #[.val (.ref a), .val (.ref a2), .val (.ref a2)] [(.int (1 : Int32))])) _
      refine XS.goto X8.here hx rfl (pc0 := 51) (pc' := 55) rfl (hb hby d_seq_51) (by decide) (by decide) ?_
      show Steps p.tables e below (T8.setTop (mkF m 55 #[.val (.ref a), .val (.ref a2), .val (.ref a2)] [(.int (1 : Int32))])) _
      first | exact k | (simp only [if_neg hc]; exact k)
  refine OGo.by_ D9 ?_
  show OGo p e below _ (T8.setTop (mkF m 55 #[.val (.ref a), .val (.ref a2), .val (.ref a2)] [(.int (if (if xs = ys then (1 : Int32) else (0 : Int32)) = (0 : Int32) then (0 : Int32) else (1 : Int32)))]))
  exact own_retN X8 hx hlk (t := .boolean) hret (by simp) (hb hby d_seq_55) (by decide) (by decide) (⟨by rw [own_r], N8, eq8⟩)
theorem d_sqs_0 : decode jdk_42_method_66_code 0 = .ok (.aload_n 0, 1) := by decide +kernel
theorem d_sqs_1 : decode jdk_42_method_66_code 1 = .ok (.aload_n 1, 1) := by decide +kernel
theorem d_sqs_2 : decode jdk_42_method_66_code 2 = .ok (.if_acmp .ne 5, 3) := by decide +kernel
theorem d_sqs_5 : decode jdk_42_method_66_code 5 = .ok (.iconst 1, 1) := by decide +kernel
theorem d_sqs_6 : decode jdk_42_method_66_code 6 = .ok (.ireturn, 1) := by decide +kernel
theorem ef_sqs (m : MethodId) (x0 : Addr) (x1 : Addr) : entryFrame m #[(.ref x0), (.ref x1)] 3 = mkF m 0 #[.val (.ref x0), .val (.ref x1), .unset] [] := by first | (simp [entryFrame, mkF, argsToLocals, Value.category]; done) | rfl
def Q_sqs (Z : State) (a : Addr) (h0 : Heap) (n0 : Nat) (v : Option Value) (h : Heap) (L : List Loc) : Prop := v = some (.int (1 : Int32)) ∧ Fr n0 L ∧ h = h0
set_option maxRecDepth 65536 in
set_option maxHeartbeats 40000000 in
theorem rm_sqs (l : Launch) (Z : State) (a0 : Array Value) (hw : ∀ d ∈ tables_1, d.before a0 Z = true) (ws : List Jvm.Cond) (a : Addr) (h0 : Heap) (n0 : Nat) (Z0 : n0 ≤ h0.size)  :
    MetFree l (⟨"java/lang/String", "equals", "(Ljava/lang/Object;)Z"⟩ : MethodName) (head1 (Jvm.Cond.code (⟨"java/lang/String", "equals", "(Ljava/lang/Object;)Z"⟩ : MethodName) jdk_42_method_66_code 3 (some .boolean) :: ws) ({ frames := 0, cells := 0, slots := 0, locals := 0 } : Room)) (fun a_ U => a_ = #[(.ref a), (.ref a)] ∧ Z.Warmed39 U.vm ∧ U.heap = h0) (fun _ _ _ _ _ => True) (fun _ U o U' => ∃ v L, o = .returned v ∧ Q_sqs Z a h0 n0 v U'.heap L ∧ FrameEnd U o U' L ({ frames := 0, cells := 0, slots := 0, locals := 0 } : Room).cells ({ frames := 0, cells := 0, slots := 0, locals := 0 } : Room).slots) := by
  refine MetFree.of_bodySF (plainFor_of_name pn_java_lang_String) hisR ?_
  intro p e s m args below meth c s₁ Bd hml0 hP hK
  obtain ⟨rfl, hZ, hh⟩ := hP
  have hx := Bd.exec
  have hby := Bd.bytes
  have hml : c.maxLocals = 3 := hml0
  have hown : s.vm.findClass "java/lang/String" = some m.cls := findClass_of_methodNamed Bd.named
  have hnm := (name_of_methodNamed Bd.named Bd.method).1
  have X0 : Stand p l e ({ frames := 0, cells := 0, slots := 0, locals := 0 } : Room) s m #[(.ref a), (.ref a)] below meth c s₁ [] 0 0 := Stand.of_body Bd
  have e0 : s₁.heap = h0 := by rw [← hh, Bd.state]; rfl
  have N0 := Fr.nil n0
  have hlk := Bd.notSynchronized
  have hret := Bd.returns
  show OGo p e below (OEnd s (Q_sqs Z a h0 n0) ({ frames := 0, cells := 0, slots := 0, locals := 0 } : Room).cells ({ frames := 0, cells := 0, slots := 0, locals := 0 } : Room).slots) (s₁.setTop (entryFrame m #[(.ref a), (.ref a)] 3))
  rw [ef_sqs]
  show OGo p e below _ (s₁.setTop (mkF m 0 #[.val (.ref a), .val (.ref a), .unset] []))
  refine OGo.by_ (fun t k => XS.aloadN X0.here hx rfl (hb hby d_sqs_0) rfl rfl k) ?_
  show OGo p e below _ (s₁.setTop (mkF m 1 #[.val (.ref a), .val (.ref a), .unset] [(.ref a)]))
  refine OGo.by_ (fun t k => XS.aloadN X0.here hx rfl (hb hby d_sqs_1) rfl rfl k) ?_
  show OGo p e below _ (s₁.setTop (mkF m 2 #[.val (.ref a), .val (.ref a), .unset] [(.ref a), (.ref a)]))
  refine OGo.by_ (fun t k => Jvm.RoadKit.acmp (g := (mkF m 2 #[.val (.ref a), .val (.ref a), .unset] [(.ref a), (.ref a)])) X0 hx rfl rfl rfl (pc0 := 2) (pc' := 5) (same := true) rfl (hb hby d_sqs_2) rfl (decide_eq_true rfl) (by decide) (by decide) k) ?_
  show OGo p e below _ (s₁.setTop (mkF m 5 #[.val (.ref a), .val (.ref a), .unset] []))
  refine OGo.by_ (fun t k => XS.iconst X0.here hx rfl (hb hby d_sqs_5) k) ?_
  show OGo p e below _ (s₁.setTop (mkF m 6 #[.val (.ref a), .val (.ref a), .unset] [(.int (1 : Int32))]))
  exact own_retN X0 hx hlk (t := .boolean) hret (by simp) (hb hby d_sqs_6) (by decide) (by decide) (⟨rfl, N0, e0⟩)
def own_D (Z : State) (h : Heap) (o s t : Addr) : Prop := Exa Z h o "com/example/shardwright/shardwright/kernel/config/DataNode" ∧ Fld Z h o "com/example/shardwright/shardwright/kernel/config/DataNode" "dataSource" "Ljava/lang/String;" (.ref s) ∧ Fld Z h o "com/example/shardwright/shardwright/kernel/config/DataNode" "table" "Ljava/lang/String;" (.ref t)
theorem own_D_keep {Z : State} {h h' : Heap} {o s t : Addr} {ws : List Addr} (F : own_D Z h o s t) (K : Keep h h' ws) (ho : o ∉ ws) : own_D Z h' o s t := ⟨F.1.keep K, F.2.1.keep K ho, F.2.2.keep K ho⟩
theorem own_S_node {Z : State} {a0 : Array Value} {h h' : Heap} {o s b : Addr} {n : Int32} {xs : List Int32} {j : Nat} (wi : (Jvm.Cond.instantiable "com/example/shardwright/shardwright/kernel/config/DataNode" j).before a0 Z = true) (F : own_S Z h s b n xs) (E : Exa Z h o "com/example/shardwright/shardwright/kernel/config/DataNode") (K : Keep h h' [o]) : own_S Z h' s b n xs := by
  have h1 : o ≠ s := Exa.ne E F.1 (by decide)
  obtain ⟨k, V⟩ := F.2.2.2.1
  have h2 : o ≠ b := Exa.neArv E V wi
  exact own_S_keep F K (own_nin1 h1.symm) (own_nin1 h2.symm)
theorem own_noSD {Z : State} {a0 : Array Value} (hw : ∀ d ∈ tables_1, d.before a0 Z = true) : ∃ c t, Z.vm.findClass "java/lang/String" = some c ∧ Z.vm.findClass "com/example/shardwright/shardwright/kernel/config/DataNode" = some t ∧ Z.vm.assignable c t = false := by
  obtain ⟨t, kt, g1, g2, g3, g4, -⟩ := Cond.instantiable_spec (hw _ (List.mem_of_getElem? (i := 1) rfl))
  obtain ⟨c, h0⟩ := found_sup (hw _ (List.mem_of_getElem? (i := 68) rfl))
  obtain ⟨q, k, kp, h1, h2, h3, h4, h5, -, h7⟩ := Cond.superclass_spec h0 (hw _ (List.mem_of_getElem? (i := 68) rfl))
  obtain ⟨c', k', f1, f2, f3, -, -⟩ := Cond.noSuperclass_spec (hw _ (List.mem_of_getElem? (i := 69) rfl))
  cases f1.symm.trans h1
  have ne := ids_ne h0 g1 (by decide)
  have ne2 := ids_ne f1 g1 (by decide)
  have gi : kt.isInterface = false := by
    cases hi : kt.isInterface
    · rfl
    · rw [hi] at g4; cases g4
  have n0 : ∀ fuel, Z.vm.isSubclassAux fuel q t = false := fun fuel => by
    cases fuel with
    | zero => rfl
    | succ f => simp [Vm.isSubclassAux, ne2, f2, f3]
  have n1 : ∀ fuel, Z.vm.isSubclassAux fuel c t = false := fun fuel => by
    cases fuel with
    | zero => rfl
    | succ f => simp [Vm.isSubclassAux, ne, h2, h4, n0]
  refine ⟨c, t, h0, g1, ?_⟩
  show Z.vm.assignableAux (255 + 1) c t = false
  simp [Vm.assignableAux, ne, h2, g2, h5, g3, gi, Vm.isSubclass, n1]
theorem d_din_0 : decode prog_11_method_1_code 0 = .ok (.aload_n 0, 1) := by decide +kernel
theorem d_din_1 : decode prog_11_method_1_code 1 = .ok (.invokespecial 1, 3) := by decide +kernel
theorem d_din_4 : decode prog_11_method_1_code 4 = .ok (.aload_n 0, 1) := by decide +kernel
theorem d_din_5 : decode prog_11_method_1_code 5 = .ok (.aload_n 1, 1) := by decide +kernel
theorem d_din_6 : decode prog_11_method_1_code 6 = .ok (.putfield 7, 3) := by decide +kernel
theorem d_din_9 : decode prog_11_method_1_code 9 = .ok (.aload_n 0, 1) := by decide +kernel
theorem d_din_10 : decode prog_11_method_1_code 10 = .ok (.aload_n 2, 1) := by decide +kernel
theorem d_din_11 : decode prog_11_method_1_code 11 = .ok (.putfield 13, 3) := by decide +kernel
theorem d_din_14 : decode prog_11_method_1_code 14 = .ok (.return_, 1) := by decide +kernel
theorem pn_com_example_shardwright_shardwright_kernel_config_DataNode : plainName "com/example/shardwright/shardwright/kernel/config/DataNode" = true := by first | (simp [plainName, overriddenIn]; done) | decide +kernel
theorem ef_din (m : MethodId) (x0 : Addr) (x1 : Addr) (x2 : Addr) : entryFrame m #[(.ref x0), (.ref x1), (.ref x2)] 3 = mkF m 0 #[.val (.ref x0), .val (.ref x1), .val (.ref x2)] [] := by first | (simp [entryFrame, mkF, argsToLocals, Value.category]; done) | rfl
def Q_din (Z : State) (a s8 t8 : Addr) (h0 : Heap) (n0 : Nat) (v : Option Value) (h : Heap) (L : List Loc) : Prop := v = none ∧ Fr n0 L ∧ Keep h0 h [a] ∧ own_D Z h a s8 t8
set_option maxRecDepth 65536 in
set_option maxHeartbeats 40000000 in
theorem rm_din (l : Launch) (Z : State) (a0 : Array Value) (hw : ∀ d ∈ tables_1, d.before a0 Z = true) (ws : List Jvm.Cond) (a s8 t8 : Addr) (h0 : Heap) (n0 : Nat) (Z0 : n0 ≤ h0.size) (E0 : Exa Z h0 a "com/example/shardwright/shardwright/kernel/config/DataNode") (F0 : Fld Z h0 a "com/example/shardwright/shardwright/kernel/config/DataNode" "dataSource" "Ljava/lang/String;" .null) (F1 : Fld Z h0 a "com/example/shardwright/shardwright/kernel/config/DataNode" "table" "Ljava/lang/String;" .null) (ga : n0 ≤ a) :
    MetFree l (⟨"com/example/shardwright/shardwright/kernel/config/DataNode", "<init>", "(Ljava/lang/String;Ljava/lang/String;)V"⟩ : MethodName) (head1 (Jvm.Cond.code (⟨"com/example/shardwright/shardwright/kernel/config/DataNode", "<init>", "(Ljava/lang/String;Ljava/lang/String;)V"⟩ : MethodName) prog_11_method_1_code 3 none :: ws) ({ frames := 1, cells := 0, slots := 0, locals := 12 } : Room)) (fun a_ U => a_ = #[(.ref a), (.ref s8), (.ref t8)] ∧ Z.Warmed39 U.vm ∧ U.heap = h0) (fun _ _ _ _ _ => True) (fun _ U o U' => ∃ v L, o = .returned v ∧ Q_din Z a s8 t8 h0 n0 v U'.heap L ∧ FrameEnd U o U' L ({ frames := 1, cells := 0, slots := 0, locals := 12 } : Room).cells ({ frames := 1, cells := 0, slots := 0, locals := 12 } : Room).slots) := by
  refine MetFree.of_bodySF (plainFor_of_name pn_com_example_shardwright_shardwright_kernel_config_DataNode) hisR ?_
  intro p e s m args below meth c s₁ Bd hml0 hP hK
  obtain ⟨rfl, hZ, hh⟩ := hP
  have hx := Bd.exec
  have hby := Bd.bytes
  have hml : c.maxLocals = 3 := hml0
  have hown : s.vm.findClass "com/example/shardwright/shardwright/kernel/config/DataNode" = some m.cls := findClass_of_methodNamed Bd.named
  have hnm := (name_of_methodNamed Bd.named Bd.method).1
  have X0 : Stand p l e ({ frames := 1, cells := 0, slots := 0, locals := 12 } : Room) s m #[(.ref a), (.ref s8), (.ref t8)] below meth c s₁ [] 0 0 := Stand.of_body Bd
  have e0 : s₁.heap = h0 := by rw [← hh, Bd.state]; rfl
  have N0 := Fr.nil n0
  have hlk := Bd.notSynchronized
  have hret := Bd.returns
  show OGo p e below (OEnd s (Q_din Z a s8 t8 h0 n0) ({ frames := 1, cells := 0, slots := 0, locals := 12 } : Room).cells ({ frames := 1, cells := 0, slots := 0, locals := 12 } : Room).slots) (s₁.setTop (entryFrame m #[(.ref a), (.ref s8), (.ref t8)] 3))
  rw [ef_din]
  show OGo p e below _ (s₁.setTop (mkF m 0 #[.val (.ref a), .val (.ref s8), .val (.ref t8)] []))
  refine OGo.by_ (fun t k => XS.aloadN X0.here hx rfl (hb hby d_din_0) rfl rfl k) ?_
  show OGo p e below _ (s₁.setTop (mkF m 1 #[.val (.ref a), .val (.ref s8), .val (.ref t8)] [(.ref a)]))
  obtain ⟨T1, X1, e1, st1⟩ := initO X0 hx hZ hown (hw _ (List.mem_of_getElem? (i := 43) rfl)) (hw _ (List.mem_of_getElem? (i := 19) rfl)) (hw _ (List.mem_of_getElem? (i := 20) rfl)) e0 (g := (mkF m 1 #[.val (.ref a), .val (.ref s8), .val (.ref t8)] [(.ref a)])) rfl (by rw [hml]; rfl) rfl (hb hby d_din_1) (by decide) (W := 0) (by show 2 * 0 + _ ≤ _; exact Nat.le_of_eq rfl) (by decide)
  refine OGo.by_ st1 ?_
  show OGo p e below _ (T1.setTop (mkF m 4 #[.val (.ref a), .val (.ref s8), .val (.ref t8)] []))
  refine OGo.by_ (fun t k => XS.aloadN X1.here hx rfl (hb hby d_din_4) rfl rfl k) ?_
  show OGo p e below _ (T1.setTop (mkF m 5 #[.val (.ref a), .val (.ref s8), .val (.ref t8)] [(.ref a)]))
  refine OGo.by_ (fun t k => XS.aloadN X1.here hx rfl (hb hby d_din_5) rfl rfl k) ?_
  show OGo p e below _ (T1.setTop (mkF m 6 #[.val (.ref a), .val (.ref s8), .val (.ref t8)] [(.ref s8), (.ref a)]))
  obtain ⟨T2, h2, X2, e2, W2, st2⟩ := putF X1 hx hZ hown (host := "") (Or.inl (hw _ (List.mem_of_getElem? (i := 44) rfl))) Via.refl e1 F0 E0 (Or.inr ⟨(hw _ (List.mem_of_getElem? (i := 45) rfl)), rfl, hnm⟩) (hw _ (List.mem_of_getElem? (i := 1) rfl)) (ty := (.object "java/lang/String")) (by decide) rfl rfl (g := (mkF m 6 #[.val (.ref a), .val (.ref s8), .val (.ref t8)] [(.ref s8), (.ref a)])) rfl rfl (hb hby d_din_6)
  refine OGo.by_ st2 ?_
  show OGo p e below _ (T2.setTop (mkF m 9 #[.val (.ref a), .val (.ref s8), .val (.ref t8)] []))
  have N2 := Fr.snoc X2 N0 ga
  have G1 := F1.other W2 (Or.inr (slot_ne (C := "com/example/shardwright/shardwright/kernel/config/DataNode") (Or.inr (hw _ (List.mem_of_getElem? (i := 47) rfl))) (Or.inr (hw _ (List.mem_of_getElem? (i := 45) rfl))) (by decide) (t := (.object "java/lang/String")) (t' := (.object "java/lang/String")) (by decide) (by decide)))
  have XE := E0.wr W2
  refine OGo.by_ (fun t k => XS.aloadN X2.here hx rfl (hb hby d_din_9) rfl rfl k) ?_
  show OGo p e below _ (T2.setTop (mkF m 10 #[.val (.ref a), .val (.ref s8), .val (.ref t8)] [(.ref a)]))
  refine OGo.by_ (fun t k => XS.aloadN X2.here hx rfl (hb hby d_din_10) rfl rfl k) ?_
  show OGo p e below _ (T2.setTop (mkF m 11 #[.val (.ref a), .val (.ref s8), .val (.ref t8)] [(.ref t8), (.ref a)]))
  obtain ⟨T3, h3, X3, e3, W3, st3⟩ := putF X2 hx hZ hown (host := "") (Or.inl (hw _ (List.mem_of_getElem? (i := 46) rfl))) Via.refl e2 G1 XE (Or.inr ⟨(hw _ (List.mem_of_getElem? (i := 47) rfl)), rfl, hnm⟩) (hw _ (List.mem_of_getElem? (i := 1) rfl)) (ty := (.object "java/lang/String")) (by decide) rfl rfl (g := (mkF m 11 #[.val (.ref a), .val (.ref s8), .val (.ref t8)] [(.ref t8), (.ref a)])) rfl rfl (hb hby d_din_11)
  refine OGo.by_ st3 ?_
  show OGo p e below _ (T3.setTop (mkF m 14 #[.val (.ref a), .val (.ref s8), .val (.ref t8)] []))
  have N3 := Fr.snoc X3 N2 ga
  exact own_ret X3 hx hlk hret (hb hby d_din_14) (by decide) (by decide) (by rw [e3]; exact ⟨rfl, N3, ((Keep.refl h0 [a]).wr W2 (Or.inl (List.mem_singleton.mpr rfl))).wr W3 (Or.inl (List.mem_singleton.mpr rfl)), XE.wr W3, (F0.same W2).other W3 (Or.inr (slot_ne (C := "com/example/shardwright/shardwright/kernel/config/DataNode") (Or.inr (hw _ (List.mem_of_getElem? (i := 45) rfl))) (Or.inr (hw _ (List.mem_of_getElem? (i := 47) rfl))) (by decide) (t := (.object "java/lang/String")) (t' := (.object "java/lang/String")) (by decide) (by decide))), G1.same W3⟩)
theorem d_dqn_0 : decode prog_11_method_4_code 0 = .ok (.aload_n 1, 1) := by decide +kernel
theorem d_dqn_1 : decode prog_11_method_4_code 1 = .ok (.instanceof 8, 3) := by decide +kernel
theorem d_dqn_4 : decode prog_11_method_4_code 4 = .ok (.ifCond .ne 5, 3) := by decide +kernel
theorem d_dqn_7 : decode prog_11_method_4_code 7 = .ok (.iconst 0, 1) := by decide +kernel
theorem d_dqn_8 : decode prog_11_method_4_code 8 = .ok (.ireturn, 1) := by decide +kernel
theorem ef_dqn (m : MethodId) (x0 : Addr) : entryFrame m #[(.ref x0), .null] 3 = mkF m 0 #[.val (.ref x0), .val .null, .unset] [] := by first | (simp [entryFrame, mkF, argsToLocals, Value.category]; done) | rfl
def Q_dqn (Z : State) (a : Addr) (h0 : Heap) (n0 : Nat) (v : Option Value) (h : Heap) (L : List Loc) : Prop := v = some (.int (0 : Int32)) ∧ Fr n0 L ∧ h = h0
set_option maxRecDepth 65536 in
set_option maxHeartbeats 40000000 in
theorem rm_dqn (l : Launch) (Z : State) (a0 : Array Value) (hw : ∀ d ∈ tables_1, d.before a0 Z = true) (ws : List Jvm.Cond) (a : Addr) (h0 : Heap) (n0 : Nat) (Z0 : n0 ≤ h0.size)  :
    MetFree l (⟨"com/example/shardwright/shardwright/kernel/config/DataNode", "equals", "(Ljava/lang/Object;)Z"⟩ : MethodName) (head1 (Jvm.Cond.code (⟨"com/example/shardwright/shardwright/kernel/config/DataNode", "equals", "(Ljava/lang/Object;)Z"⟩ : MethodName) prog_11_method_4_code 3 (some .boolean) :: ws) ({ frames := 0, cells := 0, slots := 0, locals := 0 } : Room)) (fun a_ U => a_ = #[(.ref a), .null] ∧ Z.Warmed39 U.vm ∧ U.heap = h0) (fun _ _ _ _ _ => True) (fun _ U o U' => ∃ v L, o = .returned v ∧ Q_dqn Z a h0 n0 v U'.heap L ∧ FrameEnd U o U' L ({ frames := 0, cells := 0, slots := 0, locals := 0 } : Room).cells ({ frames := 0, cells := 0, slots := 0, locals := 0 } : Room).slots) := by
  refine MetFree.of_bodySF (plainFor_of_name pn_com_example_shardwright_shardwright_kernel_config_DataNode) hisR ?_
  intro p e s m args below meth c s₁ Bd hml0 hP hK
  obtain ⟨rfl, hZ, hh⟩ := hP
  have hx := Bd.exec
  have hby := Bd.bytes
  have hml : c.maxLocals = 3 := hml0
  have hown : s.vm.findClass "com/example/shardwright/shardwright/kernel/config/DataNode" = some m.cls := findClass_of_methodNamed Bd.named
  have hnm := (name_of_methodNamed Bd.named Bd.method).1
  have X0 : Stand p l e ({ frames := 0, cells := 0, slots := 0, locals := 0 } : Room) s m #[(.ref a), .null] below meth c s₁ [] 0 0 := Stand.of_body Bd
  have e0 : s₁.heap = h0 := by rw [← hh, Bd.state]; rfl
  have N0 := Fr.nil n0
  have hlk := Bd.notSynchronized
  have hret := Bd.returns
  show OGo p e below (OEnd s (Q_dqn Z a h0 n0) ({ frames := 0, cells := 0, slots := 0, locals := 0 } : Room).cells ({ frames := 0, cells := 0, slots := 0, locals := 0 } : Room).slots) (s₁.setTop (entryFrame m #[(.ref a), .null] 3))
  rw [ef_dqn]
  show OGo p e below _ (s₁.setTop (mkF m 0 #[.val (.ref a), .val .null, .unset] []))
  refine OGo.by_ (fun t k => XS.aloadN X0.here hx rfl (hb hby d_dqn_0) rfl rfl k) ?_
  show OGo p e below _ (s₁.setTop (mkF m 1 #[.val (.ref a), .val .null, .unset] [.null]))
  refine OGo.by_ (X0.instanceofNull hx (g := (mkF m 1 #[.val (.ref a), .val .null, .unset] [.null])) rfl rfl (hb hby d_dqn_1)) ?_
  show OGo p e below _ (s₁.setTop (mkF m 4 #[.val (.ref a), .val .null, .unset] [(.int (0 : Int32))]))
  refine OGo.by_ (fun t k => XS.ifNo X0.here hx rfl (hb hby d_dqn_4) rfl ((if0 _ _).trans (teq rfl).2) k) ?_
  show OGo p e below _ (s₁.setTop (mkF m 7 #[.val (.ref a), .val .null, .unset] []))
  refine OGo.by_ (fun t k => XS.iconst X0.here hx rfl (hb hby d_dqn_7) k) ?_
  show OGo p e below _ (s₁.setTop (mkF m 8 #[.val (.ref a), .val .null, .unset] [(.int (0 : Int32))]))
  exact own_retN X0 hx hlk (t := .boolean) hret (by simp) (hb hby d_dqn_8) (by decide) (by decide) (⟨rfl, N0, e0⟩)
theorem d_dqs_0 : decode prog_11_method_4_code 0 = .ok (.aload_n 1, 1) := by decide +kernel
theorem d_dqs_1 : decode prog_11_method_4_code 1 = .ok (.instanceof 8, 3) := by decide +kernel
theorem d_dqs_4 : decode prog_11_method_4_code 4 = .ok (.ifCond .ne 5, 3) := by decide +kernel
theorem d_dqs_7 : decode prog_11_method_4_code 7 = .ok (.iconst 0, 1) := by decide +kernel
theorem d_dqs_8 : decode prog_11_method_4_code 8 = .ok (.ireturn, 1) := by decide +kernel
theorem ef_dqs (m : MethodId) (x0 : Addr) (x1 : Addr) : entryFrame m #[(.ref x0), (.ref x1)] 3 = mkF m 0 #[.val (.ref x0), .val (.ref x1), .unset] [] := by first | (simp [entryFrame, mkF, argsToLocals, Value.category]; done) | rfl
def Q_dqs (Z : State) (a s8 : Addr) (h0 : Heap) (n0 : Nat) (v : Option Value) (h : Heap) (L : List Loc) : Prop := v = some (.int (0 : Int32)) ∧ Fr n0 L ∧ h = h0
set_option maxRecDepth 65536 in
set_option maxHeartbeats 40000000 in
theorem rm_dqs (l : Launch) (Z : State) (a0 : Array Value) (hw : ∀ d ∈ tables_1, d.before a0 Z = true) (ws : List Jvm.Cond) (a s8 : Addr) (h0 : Heap) (n0 : Nat) (Z0 : n0 ≤ h0.size) (Es : Exa Z h0 s8 "java/lang/String") :
    MetFree l (⟨"com/example/shardwright/shardwright/kernel/config/DataNode", "equals", "(Ljava/lang/Object;)Z"⟩ : MethodName) (head1 (Jvm.Cond.code (⟨"com/example/shardwright/shardwright/kernel/config/DataNode", "equals", "(Ljava/lang/Object;)Z"⟩ : MethodName) prog_11_method_4_code 3 (some .boolean) :: ws) ({ frames := 0, cells := 0, slots := 0, locals := 0 } : Room)) (fun a_ U => a_ = #[(.ref a), (.ref s8)] ∧ Z.Warmed39 U.vm ∧ U.heap = h0) (fun _ _ _ _ _ => True) (fun _ U o U' => ∃ v L, o = .returned v ∧ Q_dqs Z a s8 h0 n0 v U'.heap L ∧ FrameEnd U o U' L ({ frames := 0, cells := 0, slots := 0, locals := 0 } : Room).cells ({ frames := 0, cells := 0, slots := 0, locals := 0 } : Room).slots) := by
  refine MetFree.of_bodySF (plainFor_of_name pn_com_example_shardwright_shardwright_kernel_config_DataNode) hisR ?_
  intro p e s m args below meth c s₁ Bd hml0 hP hK
  obtain ⟨rfl, hZ, hh⟩ := hP
  have hx := Bd.exec
  have hby := Bd.bytes
  have hml : c.maxLocals = 3 := hml0
  have hown : s.vm.findClass "com/example/shardwright/shardwright/kernel/config/DataNode" = some m.cls := findClass_of_methodNamed Bd.named
  have hnm := (name_of_methodNamed Bd.named Bd.method).1
  have X0 : Stand p l e ({ frames := 0, cells := 0, slots := 0, locals := 0 } : Room) s m #[(.ref a), (.ref s8)] below meth c s₁ [] 0 0 := Stand.of_body Bd
  have e0 : s₁.heap = h0 := by rw [← hh, Bd.state]; rfl
  have N0 := Fr.nil n0
  have hlk := Bd.notSynchronized
  have hret := Bd.returns
  show OGo p e below (OEnd s (Q_dqs Z a s8 h0 n0) ({ frames := 0, cells := 0, slots := 0, locals := 0 } : Room).cells ({ frames := 0, cells := 0, slots := 0, locals := 0 } : Room).slots) (s₁.setTop (entryFrame m #[(.ref a), (.ref s8)] 3))
  rw [ef_dqs]
  show OGo p e below _ (s₁.setTop (mkF m 0 #[.val (.ref a), .val (.ref s8), .unset] []))
  refine OGo.by_ (fun t k => XS.aloadN X0.here hx rfl (hb hby d_dqs_0) rfl rfl k) ?_
  show OGo p e below _ (s₁.setTop (mkF m 1 #[.val (.ref a), .val (.ref s8), .unset] [(.ref s8)]))
  obtain ⟨T1, X1, e1, st1⟩ := instNo X0 hx hZ hown (hw _ (List.mem_of_getElem? (i := 56) rfl)) e0 Es (own_noSD hw) (g := (mkF m 1 #[.val (.ref a), .val (.ref s8), .unset] [(.ref s8)])) rfl rfl (hb hby d_dqs_1)
  refine OGo.by_ st1 ?_
  show OGo p e below _ (T1.setTop (mkF m 4 #[.val (.ref a), .val (.ref s8), .unset] [(.int (0 : Int32))]))
  refine OGo.by_ (fun t k => XS.ifNo X1.here hx rfl (hb hby d_dqs_4) rfl ((if0 _ _).trans (teq rfl).2) k) ?_
  show OGo p e below _ (T1.setTop (mkF m 7 #[.val (.ref a), .val (.ref s8), .unset] []))
  refine OGo.by_ (fun t k => XS.iconst X1.here hx rfl (hb hby d_dqs_7) k) ?_
  show OGo p e below _ (T1.setTop (mkF m 8 #[.val (.ref a), .val (.ref s8), .unset] [(.int (0 : Int32))]))
  exact own_retN X1 hx hlk (t := .boolean) hret (by simp) (hb hby d_dqs_8) (by decide) (by decide) (⟨rfl, N0, e1⟩)
theorem d_dqe_0 : decode prog_11_method_4_code 0 = .ok (.aload_n 1, 1) := by decide +kernel
theorem d_dqe_1 : decode prog_11_method_4_code 1 = .ok (.instanceof 8, 3) := by decide +kernel
theorem d_dqe_4 : decode prog_11_method_4_code 4 = .ok (.ifCond .ne 5, 3) := by decide +kernel
theorem d_dqe_9 : decode prog_11_method_4_code 9 = .ok (.aload_n 1, 1) := by decide +kernel
theorem d_dqe_10 : decode prog_11_method_4_code 10 = .ok (.checkcast 8, 3) := by decide +kernel
theorem d_dqe_13 : decode prog_11_method_4_code 13 = .ok (.astore_n 2, 1) := by decide +kernel
theorem d_dqe_14 : decode prog_11_method_4_code 14 = .ok (.aload_n 0, 1) := by decide +kernel
theorem d_dqe_15 : decode prog_11_method_4_code 15 = .ok (.getfield 7, 3) := by decide +kernel
theorem d_dqe_18 : decode prog_11_method_4_code 18 = .ok (.aload_n 2, 1) := by decide +kernel
theorem d_dqe_19 : decode prog_11_method_4_code 19 = .ok (.getfield 7, 3) := by decide +kernel
theorem d_dqe_22 : decode prog_11_method_4_code 22 = .ok (.invokevirtual 16, 3) := by decide +kernel
theorem pd_oLjava_lang_Object_cZ : parseMethodDescriptor "(Ljava/lang/Object;)Z" = some ⟨[(.object "java/lang/Object")], some .boolean⟩ := by decide +kernel
theorem d_dqe_25 : decode prog_11_method_4_code 25 = .ok (.ifCond .eq 21, 3) := by decide +kernel
theorem d_dqe_28 : decode prog_11_method_4_code 28 = .ok (.aload_n 0, 1) := by decide +kernel
theorem d_dqe_29 : decode prog_11_method_4_code 29 = .ok (.getfield 13, 3) := by decide +kernel
theorem d_dqe_32 : decode prog_11_method_4_code 32 = .ok (.aload_n 2, 1) := by decide +kernel
theorem d_dqe_33 : decode prog_11_method_4_code 33 = .ok (.getfield 13, 3) := by decide +kernel
theorem d_dqe_36 : decode prog_11_method_4_code 36 = .ok (.invokevirtual 16, 3) := by decide +kernel
theorem d_dqe_39 : decode prog_11_method_4_code 39 = .ok (.ifCond .eq 7, 3) := by decide +kernel
theorem d_dqe_42 : decode prog_11_method_4_code 42 = .ok (.iconst 1, 1) := by decide +kernel
theorem d_dqe_43 : decode prog_11_method_4_code 43 = .ok (.goto 4, 3) := by decide +kernel
theorem d_dqe_47 : decode prog_11_method_4_code 47 = .ok (.ireturn, 1) := by decide +kernel
theorem ef_dqe (m : MethodId) (x0 : Addr) (x1 : Addr) : entryFrame m #[(.ref x0), (.ref x1)] 3 = mkF m 0 #[.val (.ref x0), .val (.ref x1), .unset] [] := by first | (simp [entryFrame, mkF, argsToLocals, Value.category]; done) | rfl
def Q_dqe (Z : State) (a s8 t8 : Addr) (h0 : Heap) (n0 : Nat) (v : Option Value) (h : Heap) (L : List Loc) : Prop := v = some (.int (1 : Int32)) ∧ Fr n0 L ∧ h = h0
set_option maxRecDepth 65536 in
set_option maxHeartbeats 40000000 in
theorem rm_dqe (l : Launch) (Z : State) (a0 : Array Value) (hw : ∀ d ∈ tables_1, d.before a0 Z = true) (ws : List Jvm.Cond) (a s8 t8 : Addr) (h0 : Heap) (n0 : Nat) (Z0 : n0 ≤ h0.size) (DD : own_D Z h0 a s8 t8) (Es8 : Exa Z h0 s8 "java/lang/String") (Et8 : Exa Z h0 t8 "java/lang/String") :
    MetFree l (⟨"com/example/shardwright/shardwright/kernel/config/DataNode", "equals", "(Ljava/lang/Object;)Z"⟩ : MethodName) (head1 (Jvm.Cond.code (⟨"com/example/shardwright/shardwright/kernel/config/DataNode", "equals", "(Ljava/lang/Object;)Z"⟩ : MethodName) prog_11_method_4_code 3 (some .boolean) :: ws) ({ frames := 1, cells := 0, slots := 0, locals := 14 } : Room)) (fun a_ U => a_ = #[(.ref a), (.ref a)] ∧ Z.Warmed39 U.vm ∧ U.heap = h0) (fun _ _ _ _ _ => True) (fun _ U o U' => ∃ v L, o = .returned v ∧ Q_dqe Z a s8 t8 h0 n0 v U'.heap L ∧ FrameEnd U o U' L ({ frames := 1, cells := 0, slots := 0, locals := 14 } : Room).cells ({ frames := 1, cells := 0, slots := 0, locals := 14 } : Room).slots) := by
  refine MetFree.of_bodySF (plainFor_of_name pn_com_example_shardwright_shardwright_kernel_config_DataNode) hisR ?_
  intro p e s m args below meth c s₁ Bd hml0 hP hK
  obtain ⟨rfl, hZ, hh⟩ := hP
  have hx := Bd.exec
  have hby := Bd.bytes
  have hml : c.maxLocals = 3 := hml0
  have hown : s.vm.findClass "com/example/shardwright/shardwright/kernel/config/DataNode" = some m.cls := findClass_of_methodNamed Bd.named
  have hnm := (name_of_methodNamed Bd.named Bd.method).1
  have X0 : Stand p l e ({ frames := 1, cells := 0, slots := 0, locals := 14 } : Room) s m #[(.ref a), (.ref a)] below meth c s₁ [] 0 0 := Stand.of_body Bd
  have e0 : s₁.heap = h0 := by rw [← hh, Bd.state]; rfl
  have N0 := Fr.nil n0
  have hlk := Bd.notSynchronized
  have hret := Bd.returns
  show OGo p e below (OEnd s (Q_dqe Z a s8 t8 h0 n0) ({ frames := 1, cells := 0, slots := 0, locals := 14 } : Room).cells ({ frames := 1, cells := 0, slots := 0, locals := 14 } : Room).slots) (s₁.setTop (entryFrame m #[(.ref a), (.ref a)] 3))
  rw [ef_dqe]
  show OGo p e below _ (s₁.setTop (mkF m 0 #[.val (.ref a), .val (.ref a), .unset] []))
  refine OGo.by_ (fun t k => XS.aloadN X0.here hx rfl (hb hby d_dqe_0) rfl rfl k) ?_
  show OGo p e below _ (s₁.setTop (mkF m 1 #[.val (.ref a), .val (.ref a), .unset] [(.ref a)]))
  obtain ⟨T1, X1, e1, st1⟩ := instY X0 hx hZ hown (hw _ (List.mem_of_getElem? (i := 56) rfl)) e0 (Ins.self DD.1) (g := (mkF m 1 #[.val (.ref a), .val (.ref a), .unset] [(.ref a)])) rfl rfl (hb hby d_dqe_1)
  refine OGo.by_ st1 ?_
  show OGo p e below _ (T1.setTop (mkF m 4 #[.val (.ref a), .val (.ref a), .unset] [(.int (1 : Int32))]))
  refine OGo.by_ (fun t k => XS.ifYes X1.here hx rfl (pc0 := 4) (pc' := 9) rfl (hb hby d_dqe_4) rfl ((if0 _ _).trans (feq (by decide)).2) (by decide) (by decide) k) ?_
  show OGo p e below _ (T1.setTop (mkF m 9 #[.val (.ref a), .val (.ref a), .unset] []))
  refine OGo.by_ (fun t k => XS.aloadN X1.here hx rfl (hb hby d_dqe_9) rfl rfl k) ?_
  show OGo p e below _ (T1.setTop (mkF m 10 #[.val (.ref a), .val (.ref a), .unset] [(.ref a)]))
  obtain ⟨T2, X2, e2, st2⟩ := castY X1 hx hZ hown (hw _ (List.mem_of_getElem? (i := 56) rfl)) e1 (Ins.self DD.1) (g := (mkF m 10 #[.val (.ref a), .val (.ref a), .unset] [(.ref a)])) rfl rfl (hb hby d_dqe_10)
  refine OGo.by_ st2 ?_
  show OGo p e below _ (T2.setTop (mkF m 13 #[.val (.ref a), .val (.ref a), .unset] [(.ref a)]))
  refine OGo.by_ (fun t k => XS.astoreN X2.here hx rfl (hb hby d_dqe_13) rfl rfl (l' := #[.val (.ref a), .val (.ref a), .val (.ref a)]) rfl k) ?_
  show OGo p e below _ (T2.setTop (mkF m 14 #[.val (.ref a), .val (.ref a), .val (.ref a)] []))
  refine OGo.by_ (fun t k => XS.aloadN X2.here hx rfl (hb hby d_dqe_14) rfl rfl k) ?_
  show OGo p e below _ (T2.setTop (mkF m 15 #[.val (.ref a), .val (.ref a), .val (.ref a)] [(.ref a)]))
  obtain ⟨T3, X3, e3, st3⟩ := getF X2 hx hZ hown (host := "") (Or.inl (hw _ (List.mem_of_getElem? (i := 44) rfl))) Via.refl e2 DD.2.1 (g := (mkF m 15 #[.val (.ref a), .val (.ref a), .val (.ref a)] [(.ref a)])) rfl rfl (hb hby d_dqe_15)
  refine OGo.by_ st3 ?_
  show OGo p e below _ (T3.setTop (mkF m 18 #[.val (.ref a), .val (.ref a), .val (.ref a)] [(.ref s8)]))
  refine OGo.by_ (fun t k => XS.aloadN X3.here hx rfl (hb hby d_dqe_18) rfl rfl k) ?_
  show OGo p e below _ (T3.setTop (mkF m 19 #[.val (.ref a), .val (.ref a), .val (.ref a)] [(.ref a), (.ref s8)]))
  obtain ⟨T4, X4, e4, st4⟩ := getF X3 hx hZ hown (host := "") (Or.inl (hw _ (List.mem_of_getElem? (i := 44) rfl))) Via.refl e3 DD.2.1 (g := (mkF m 19 #[.val (.ref a), .val (.ref a), .val (.ref a)] [(.ref a), (.ref s8)])) rfl rfl (hb hby d_dqe_19)
  refine OGo.by_ st4 ?_
  show OGo p e below _ (T4.setTop (mkF m 22 #[.val (.ref a), .val (.ref a), .val (.ref a)] [(.ref s8), (.ref s8)]))
  obtain ⟨cq6, kq6, qa6, qb6, qc6⟩ := isOf hZ e4 Es8
  obtain ⟨_, _, ⟨T5, L5, k5, n5⟩, -, X5, ⟨Lc5, hQ5, l5, y5, z5⟩, st5⟩ := X4.virtualBack hx (y := (⟨"java/lang/String", "equals", "(Ljava/lang/Object;)Z"⟩ : MethodName)) (z := (⟨"java/lang/String", "equals", "(Ljava/lang/Object;)Z"⟩ : MethodName)) hown (mvT hZ (hw _ (List.mem_of_getElem? (i := 58) rfl))) (mvT hZ (hw _ (List.mem_of_getElem? (i := 59) rfl))) (notFace_of_selects (args := #[]) (mvT hZ (hw _ (List.mem_of_getElem? (i := 61) rfl)))) (mvT hZ (hw _ (List.mem_of_getElem? (i := 61) rfl))) (mvT hZ (hw _ (List.mem_of_getElem? (i := 60) rfl))) (by decide) (backOf (W := 0) (rm_sqs l Z a0 hw [] s8 h0 n0 Z0) hZ (hw _ (List.mem_of_getElem? (i := 62) rfl)) (hw _ (List.mem_of_getElem? (i := 9) rfl)) (by decide) (by decide)) qa6 qc6 (g := (mkF m 22 #[.val (.ref a), .val (.ref a), .val (.ref a)] [(.ref s8), (.ref s8)])) rfl (by rw [hml]; rfl) (Steps.refl _) (argsL := [(.ref s8)]) (rest := []) (lenOf pd_oLjava_lang_Object_cZ rfl) rfl (by show 2 * 0 + _ ≤ _; exact Nat.le_of_eq rfl) (hb hby d_dqe_22) (fun _ _ => ⟨rfl, e4, (by decide : 0 + 0 ≤ _), (by decide : 0 + 0 ≤ _)⟩)
  dsimp only [Pt.U, Pt.locs, Pt.cells, Pt.slots] at X5 l5 y5 z5 st5 hQ5
  subst l5 y5 z5
  obtain ⟨rfl, Nq5, eq5⟩ := hQ5
  have N5 := Fr.app N0 Nq5
  refine OGo.by_ (fun t k => st5.trans k) ?_
  show OGo p e below _ (T5.setTop (mkF m 25 #[.val (.ref a), .val (.ref a), .val (.ref a)] [(.int (1 : Int32))]))
  refine OGo.by_ (fun t k => XS.ifNo X5.here hx rfl (hb hby d_dqe_25) rfl ((if0 _ _).trans (feq (by decide)).1) k) ?_
  show OGo p e below _ (T5.setTop (mkF m 28 #[.val (.ref a), .val (.ref a), .val (.ref a)] []))
  refine OGo.by_ (fun t k => XS.aloadN X5.here hx rfl (hb hby d_dqe_28) rfl rfl k) ?_
  show OGo p e below _ (T5.setTop (mkF m 29 #[.val (.ref a), .val (.ref a), .val (.ref a)] [(.ref a)]))
  obtain ⟨T7, X7, e7, st7⟩ := getF X5 hx hZ hown (host := "") (Or.inl (hw _ (List.mem_of_getElem? (i := 46) rfl))) Via.refl eq5 DD.2.2 (g := (mkF m 29 #[.val (.ref a), .val (.ref a), .val (.ref a)] [(.ref a)])) rfl rfl (hb hby d_dqe_29)
  refine OGo.by_ st7 ?_
  show OGo p e below _ (T7.setTop (mkF m 32 #[.val (.ref a), .val (.ref a), .val (.ref a)] [(.ref t8)]))
  refine OGo.by_ (fun t k => XS.aloadN X7.here hx rfl (hb hby d_dqe_32) rfl rfl k) ?_
  show OGo p e below _ (T7.setTop (mkF m 33 #[.val (.ref a), .val (.ref a), .val (.ref a)] [(.ref a), (.ref t8)]))
  obtain ⟨T8, X8, e8, st8⟩ := getF X7 hx hZ hown (host := "") (Or.inl (hw _ (List.mem_of_getElem? (i := 46) rfl))) Via.refl e7 DD.2.2 (g := (mkF m 33 #[.val (.ref a), .val (.ref a), .val (.ref a)] [(.ref a), (.ref t8)])) rfl rfl (hb hby d_dqe_33)
  refine OGo.by_ st8 ?_
  show OGo p e below _ (T8.setTop (mkF m 36 #[.val (.ref a), .val (.ref a), .val (.ref a)] [(.ref t8), (.ref t8)]))
  obtain ⟨cq10, kq10, qa10, qb10, qc10⟩ := isOf hZ e8 Et8
  obtain ⟨_, _, ⟨T9, L9, k9, n9⟩, -, X9, ⟨Lc9, hQ9, l9, y9, z9⟩, st9⟩ := X8.virtualBack hx (y := (⟨"java/lang/String", "equals", "(Ljava/lang/Object;)Z"⟩ : MethodName)) (z := (⟨"java/lang/String", "equals", "(Ljava/lang/Object;)Z"⟩ : MethodName)) hown (mvT hZ (hw _ (List.mem_of_getElem? (i := 58) rfl))) (mvT hZ (hw _ (List.mem_of_getElem? (i := 59) rfl))) (notFace_of_selects (args := #[]) (mvT hZ (hw _ (List.mem_of_getElem? (i := 61) rfl)))) (mvT hZ (hw _ (List.mem_of_getElem? (i := 61) rfl))) (mvT hZ (hw _ (List.mem_of_getElem? (i := 60) rfl))) (by decide) (backOf (W := 0) (rm_sqs l Z a0 hw [] t8 h0 n0 Z0) hZ (hw _ (List.mem_of_getElem? (i := 62) rfl)) (hw _ (List.mem_of_getElem? (i := 9) rfl)) (by decide) (by decide)) qa10 qc10 (g := (mkF m 36 #[.val (.ref a), .val (.ref a), .val (.ref a)] [(.ref t8), (.ref t8)])) rfl (by rw [hml]; rfl) (Steps.refl _) (argsL := [(.ref t8)]) (rest := []) (lenOf pd_oLjava_lang_Object_cZ rfl) rfl (by show 2 * 0 + _ ≤ _; exact Nat.le_of_eq rfl) (hb hby d_dqe_36) (fun _ _ => ⟨rfl, e8, (by decide : 0 + 0 ≤ _), (by decide : 0 + 0 ≤ _)⟩)
  dsimp only [Pt.U, Pt.locs, Pt.cells, Pt.slots] at X9 l9 y9 z9 st9 hQ9
  subst l9 y9 z9
  obtain ⟨rfl, Nq9, eq9⟩ := hQ9
  have N9 := Fr.app N5 Nq9
  refine OGo.by_ (fun t k => st9.trans k) ?_
  show OGo p e below _ (T9.setTop (mkF m 39 #[.val (.ref a), .val (.ref a), .val (.ref a)] [(.int (1 : Int32))]))
  refine OGo.by_ (fun t k => XS.ifNo X9.here hx rfl (hb hby d_dqe_39) rfl ((if0 _ _).trans (feq (by decide)).1) k) ?_
  show OGo p e below _ (T9.setTop (mkF m 42 #[.val (.ref a), .val (.ref a), .val (.ref a)] []))
  refine OGo.by_ (fun t k => XS.iconst X9.here hx rfl (hb hby d_dqe_42) k) ?_
  show OGo p e below _ (T9.setTop (mkF m 43 #[.val (.ref a), .val (.ref a), .val (.ref a)] [(.int (1 : Int32))]))
  refine OGo.by_ (fun t k => XS.goto X9.here hx rfl (pc0 := 43) (pc' := 47) rfl (hb hby d_dqe_43) (by decide) (by decide) k) ?_
  show OGo p e below _ (T9.setTop (mkF m 47 #[.val (.ref a), .val (.ref a), .val (.ref a)] [(.int (1 : Int32))]))
  exact own_retN X9 hx hlk (t := .boolean) hret (by simp) (hb hby d_dqe_47) (by decide) (by decide) (⟨rfl, N9, eq9⟩)
theorem own_if0 {q : Prop} [Decidable q] (h : (if q then (1 : Int32) else (0 : Int32)) = (0 : Int32)) : ¬ q := fun k => by rw [if_pos k] at h; exact absurd h (by decide)
theorem own_if1 {q : Prop} [Decidable q] (h : ¬ (if q then (1 : Int32) else (0 : Int32)) = (0 : Int32)) : q := by
  by_cases k : q
  · exact k
  · rw [if_neg k] at h; exact absurd rfl h
theorem d_dqd_0 : decode prog_11_method_4_code 0 = .ok (.aload_n 1, 1) := by decide +kernel
theorem d_dqd_1 : decode prog_11_method_4_code 1 = .ok (.instanceof 8, 3) := by decide +kernel
theorem d_dqd_4 : decode prog_11_method_4_code 4 = .ok (.ifCond .ne 5, 3) := by decide +kernel
theorem d_dqd_9 : decode prog_11_method_4_code 9 = .ok (.aload_n 1, 1) := by decide +kernel
theorem d_dqd_10 : decode prog_11_method_4_code 10 = .ok (.checkcast 8, 3) := by decide +kernel
theorem d_dqd_13 : decode prog_11_method_4_code 13 = .ok (.astore_n 2, 1) := by decide +kernel
theorem d_dqd_14 : decode prog_11_method_4_code 14 = .ok (.aload_n 0, 1) := by decide +kernel
theorem d_dqd_15 : decode prog_11_method_4_code 15 = .ok (.getfield 7, 3) := by decide +kernel
theorem d_dqd_18 : decode prog_11_method_4_code 18 = .ok (.aload_n 2, 1) := by decide +kernel
theorem d_dqd_19 : decode prog_11_method_4_code 19 = .ok (.getfield 7, 3) := by decide +kernel
theorem d_dqd_22 : decode prog_11_method_4_code 22 = .ok (.invokevirtual 16, 3) := by decide +kernel
theorem d_dqd_25 : decode prog_11_method_4_code 25 = .ok (.ifCond .eq 21, 3) := by decide +kernel
theorem d_dqd_46 : decode prog_11_method_4_code 46 = .ok (.iconst 0, 1) := by decide +kernel
theorem d_dqd_47 : decode prog_11_method_4_code 47 = .ok (.ireturn, 1) := by decide +kernel
theorem d_dqd_28 : decode prog_11_method_4_code 28 = .ok (.aload_n 0, 1) := by decide +kernel
theorem d_dqd_29 : decode prog_11_method_4_code 29 = .ok (.getfield 13, 3) := by decide +kernel
theorem d_dqd_32 : decode prog_11_method_4_code 32 = .ok (.aload_n 2, 1) := by decide +kernel
theorem d_dqd_33 : decode prog_11_method_4_code 33 = .ok (.getfield 13, 3) := by decide +kernel
theorem d_dqd_36 : decode prog_11_method_4_code 36 = .ok (.invokevirtual 16, 3) := by decide +kernel
theorem d_dqd_39 : decode prog_11_method_4_code 39 = .ok (.ifCond .eq 7, 3) := by decide +kernel
theorem d_dqd_42 : decode prog_11_method_4_code 42 = .ok (.iconst 1, 1) := by decide +kernel
theorem d_dqd_43 : decode prog_11_method_4_code 43 = .ok (.goto 4, 3) := by decide +kernel
theorem ef_dqd (m : MethodId) (x0 : Addr) (x1 : Addr) : entryFrame m #[(.ref x0), (.ref x1)] 3 = mkF m 0 #[.val (.ref x0), .val (.ref x1), .unset] [] := by first | (simp [entryFrame, mkF, argsToLocals, Value.category]; done) | rfl
def Q_dqd (Z : State) (a a2 s1 t1 s2 t2 b1 b2 c1 c2 : Addr) (n1 n2 m1 m2 cs : Int32) (x1 x2 y1 y2 : List Int32) (h0 : Heap) (n0 : Nat) (v : Option Value) (h : Heap) (L : List Loc) : Prop := v = some (.int (if x1 = x2 ∧ y1 = y2 then (1 : Int32) else (0 : Int32))) ∧ Fr n0 L ∧ h = h0
set_option maxRecDepth 65536 in
set_option maxHeartbeats 40000000 in
theorem rm_dqd (l : Launch) (Z : State) (a0 : Array Value) (hw : ∀ d ∈ tables_1, d.before a0 Z = true) (ws : List Jvm.Cond) (a a2 s1 t1 s2 t2 b1 b2 c1 c2 : Addr) (n1 n2 m1 m2 cs : Int32) (x1 x2 y1 y2 : List Int32) (h0 : Heap) (n0 : Nat) (Z0 : n0 ≤ h0.size) (SC : Sta Z h0 "java/lang/String" "COMPACT_STRINGS" "Z" (.int cs)) (hcs : ¬ cs = (0 : Int32)) (D1 : own_D Z h0 a s1 t1) (D2 : own_D Z h0 a2 s2 t2) (S1 : own_S Z h0 s1 b1 n1 x1) (S2 : own_S Z h0 s2 b2 n2 x2) (T1_ : own_S Z h0 t1 c1 m1 y1) (T2_ : own_S Z h0 t2 c2 m2 y2) (hs : ¬ s1 = s2) (ht : ¬ t1 = t2) :
    MetFree l (⟨"com/example/shardwright/shardwright/kernel/config/DataNode", "equals", "(Ljava/lang/Object;)Z"⟩ : MethodName) (head1 (Jvm.Cond.code (⟨"com/example/shardwright/shardwright/kernel/config/DataNode", "equals", "(Ljava/lang/Object;)Z"⟩ : MethodName) prog_11_method_4_code 3 (some .boolean) :: ws) ({ frames := 2, cells := 0, slots := 0, locals := 28 } : Room)) (fun a_ U => a_ = #[(.ref a), (.ref a2)] ∧ Z.Warmed39 U.vm ∧ U.heap = h0) (fun _ _ _ _ _ => True) (fun _ U o U' => ∃ v L, o = .returned v ∧ Q_dqd Z a a2 s1 t1 s2 t2 b1 b2 c1 c2 n1 n2 m1 m2 cs x1 x2 y1 y2 h0 n0 v U'.heap L ∧ FrameEnd U o U' L ({ frames := 2, cells := 0, slots := 0, locals := 28 } : Room).cells ({ frames := 2, cells := 0, slots := 0, locals := 28 } : Room).slots) := by
  refine MetFree.of_bodySF (plainFor_of_name pn_com_example_shardwright_shardwright_kernel_config_DataNode) hisR ?_
  intro p e s m args below meth c s₁ Bd hml0 hP hK
  obtain ⟨rfl, hZ, hh⟩ := hP
  have hx := Bd.exec
  have hby := Bd.bytes
  have hml : c.maxLocals = 3 := hml0
  have hown : s.vm.findClass "com/example/shardwright/shardwright/kernel/config/DataNode" = some m.cls := findClass_of_methodNamed Bd.named
  have hnm := (name_of_methodNamed Bd.named Bd.method).1
  have X0 : Stand p l e ({ frames := 2, cells := 0, slots := 0, locals := 28 } : Room) s m #[(.ref a), (.ref a2)] below meth c s₁ [] 0 0 := Stand.of_body Bd
  have e0 : s₁.heap = h0 := by rw [← hh, Bd.state]; rfl
  have N0 := Fr.nil n0
  have hlk := Bd.notSynchronized
  have hret := Bd.returns
  show OGo p e below (OEnd s (Q_dqd Z a a2 s1 t1 s2 t2 b1 b2 c1 c2 n1 n2 m1 m2 cs x1 x2 y1 y2 h0 n0) ({ frames := 2, cells := 0, slots := 0, locals := 28 } : Room).cells ({ frames := 2, cells := 0, slots := 0, locals := 28 } : Room).slots) (s₁.setTop (entryFrame m #[(.ref a), (.ref a2)] 3))
  rw [ef_dqd]
  show OGo p e below _ (s₁.setTop (mkF m 0 #[.val (.ref a), .val (.ref a2), .unset] []))
  refine OGo.by_ (fun t k => XS.aloadN X0.here hx rfl (hb hby d_dqd_0) rfl rfl k) ?_
  show OGo p e below _ (s₁.setTop (mkF m 1 #[.val (.ref a), .val (.ref a2), .unset] [(.ref a2)]))
  obtain ⟨T1, X1, e1, st1⟩ := instY X0 hx hZ hown (hw _ (List.mem_of_getElem? (i := 56) rfl)) e0 (Ins.self D2.1) (g := (mkF m 1 #[.val (.ref a), .val (.ref a2), .unset] [(.ref a2)])) rfl rfl (hb hby d_dqd_1)
  refine OGo.by_ st1 ?_
  show OGo p e below _ (T1.setTop (mkF m 4 #[.val (.ref a), .val (.ref a2), .unset] [(.int (1 : Int32))]))
  refine OGo.by_ (fun t k => XS.ifYes X1.here hx rfl (pc0 := 4) (pc' := 9) rfl (hb hby d_dqd_4) rfl ((if0 _ _).trans (feq (by decide)).2) (by decide) (by decide) k) ?_
  show OGo p e below _ (T1.setTop (mkF m 9 #[.val (.ref a), .val (.ref a2), .unset] []))
  refine OGo.by_ (fun t k => XS.aloadN X1.here hx rfl (hb hby d_dqd_9) rfl rfl k) ?_
  show OGo p e below _ (T1.setTop (mkF m 10 #[.val (.ref a), .val (.ref a2), .unset] [(.ref a2)]))
  obtain ⟨T2, X2, e2, st2⟩ := castY X1 hx hZ hown (hw _ (List.mem_of_getElem? (i := 56) rfl)) e1 (Ins.self D2.1) (g := (mkF m 10 #[.val (.ref a), .val (.ref a2), .unset] [(.ref a2)])) rfl rfl (hb hby d_dqd_10)
  refine OGo.by_ st2 ?_
  show OGo p e below _ (T2.setTop (mkF m 13 #[.val (.ref a), .val (.ref a2), .unset] [(.ref a2)]))
  refine OGo.by_ (fun t k => XS.astoreN X2.here hx rfl (hb hby d_dqd_13) rfl rfl (l' := #[.val (.ref a), .val (.ref a2), .val (.ref a2)]) rfl k) ?_
  show OGo p e below _ (T2.setTop (mkF m 14 #[.val (.ref a), .val (.ref a2), .val (.ref a2)] []))
  refine OGo.by_ (fun t k => XS.aloadN X2.here hx rfl (hb hby d_dqd_14) rfl rfl k) ?_
  show OGo p e below _ (T2.setTop (mkF m 15 #[.val (.ref a), .val (.ref a2), .val (.ref a2)] [(.ref a)]))
  obtain ⟨T3, X3, e3, st3⟩ := getF X2 hx hZ hown (host := "") (Or.inl (hw _ (List.mem_of_getElem? (i := 44) rfl))) Via.refl e2 D1.2.1 (g := (mkF m 15 #[.val (.ref a), .val (.ref a2), .val (.ref a2)] [(.ref a)])) rfl rfl (hb hby d_dqd_15)
  refine OGo.by_ st3 ?_
  show OGo p e below _ (T3.setTop (mkF m 18 #[.val (.ref a), .val (.ref a2), .val (.ref a2)] [(.ref s1)]))
  refine OGo.by_ (fun t k => XS.aloadN X3.here hx rfl (hb hby d_dqd_18) rfl rfl k) ?_
  show OGo p e below _ (T3.setTop (mkF m 19 #[.val (.ref a), .val (.ref a2), .val (.ref a2)] [(.ref a2), (.ref s1)]))
  obtain ⟨T4, X4, e4, st4⟩ := getF X3 hx hZ hown (host := "") (Or.inl (hw _ (List.mem_of_getElem? (i := 44) rfl))) Via.refl e3 D2.2.1 (g := (mkF m 19 #[.val (.ref a), .val (.ref a2), .val (.ref a2)] [(.ref a2), (.ref s1)])) rfl rfl (hb hby d_dqd_19)
  refine OGo.by_ st4 ?_
  show OGo p e below _ (T4.setTop (mkF m 22 #[.val (.ref a), .val (.ref a2), .val (.ref a2)] [(.ref s2), (.ref s1)]))
  obtain ⟨cq6, kq6, qa6, qb6, qc6⟩ := isOf hZ e4 S1.1
  obtain ⟨_, _, ⟨T5, L5, k5, n5⟩, -, X5, ⟨Lc5, hQ5, l5, y5, z5⟩, st5⟩ := X4.virtualBack hx (y := (⟨"java/lang/String", "equals", "(Ljava/lang/Object;)Z"⟩ : MethodName)) (z := (⟨"java/lang/String", "equals", "(Ljava/lang/Object;)Z"⟩ : MethodName)) hown (mvT hZ (hw _ (List.mem_of_getElem? (i := 58) rfl))) (mvT hZ (hw _ (List.mem_of_getElem? (i := 59) rfl))) (notFace_of_selects (args := #[]) (mvT hZ (hw _ (List.mem_of_getElem? (i := 61) rfl)))) (mvT hZ (hw _ (List.mem_of_getElem? (i := 61) rfl))) (mvT hZ (hw _ (List.mem_of_getElem? (i := 60) rfl))) (by decide) (backOf (W := 0) (rm_seq l Z a0 hw [] s1 s2 b1 b2 n1 n2 cs x1 x2 h0 n0 Z0 SC hcs S1 S2 hs) hZ (hw _ (List.mem_of_getElem? (i := 62) rfl)) (hw _ (List.mem_of_getElem? (i := 9) rfl)) (by decide) (by decide)) qa6 qc6 (g := (mkF m 22 #[.val (.ref a), .val (.ref a2), .val (.ref a2)] [(.ref s2), (.ref s1)])) rfl (by rw [hml]; rfl) (Steps.refl _) (argsL := [(.ref s2)]) (rest := []) (lenOf pd_oLjava_lang_Object_cZ rfl) rfl (by show 2 * 0 + _ ≤ _; exact Nat.le_of_eq rfl) (hb hby d_dqd_22) (fun _ _ => ⟨rfl, e4, (by decide : 0 + 0 ≤ _), (by decide : 0 + 0 ≤ _)⟩)
  dsimp only [Pt.U, Pt.locs, Pt.cells, Pt.slots] at X5 l5 y5 z5 st5 hQ5
  subst l5 y5 z5
  obtain ⟨rfl, Nq5, eq5⟩ := hQ5
  have N5 := Fr.app N0 Nq5
  refine OGo.by_ (fun t k => st5.trans k) ?_
  show OGo p e below _ (T5.setTop (mkF m 25 #[.val (.ref a), .val (.ref a2), .val (.ref a2)] [(.int (if x1 = x2 then (1 : Int32) else (0 : Int32)))]))
  by_cases hr1 : (if x1 = x2 then (1 : Int32) else (0 : Int32)) = (0 : Int32)
  · refine OGo.by_ (fun t k => XS.ifYes X5.here hx rfl (pc0 := 25) (pc' := 46) rfl (hb hby d_dqd_25) rfl ((if0 _ _).trans (teq hr1).1) (by decide) (by decide) k) ?_
    show OGo p e below _ (T5.setTop (mkF m 46 #[.val (.ref a), .val (.ref a2), .val (.ref a2)] []))
    refine OGo.by_ (fun t k => XS.iconst X5.here hx rfl (hb hby d_dqd_46) k) ?_
    show OGo p e below _ (T5.setTop (mkF m 47 #[.val (.ref a), .val (.ref a2), .val (.ref a2)] [(.int (0 : Int32))]))
    exact own_retN X5 hx hlk (t := .boolean) hret (by simp) (hb hby d_dqd_47) (by decide) (by decide) (⟨by rw [if_neg (fun q => own_if0 hr1 q.1)]; rfl, N5, eq5⟩)
  · refine OGo.by_ (fun t k => XS.ifNo X5.here hx rfl (hb hby d_dqd_25) rfl ((if0 _ _).trans (feq hr1).1) k) ?_
    show OGo p e below _ (T5.setTop (mkF m 28 #[.val (.ref a), .val (.ref a2), .val (.ref a2)] []))
    refine OGo.by_ (fun t k => XS.aloadN X5.here hx rfl (hb hby d_dqd_28) rfl rfl k) ?_
    show OGo p e below _ (T5.setTop (mkF m 29 #[.val (.ref a), .val (.ref a2), .val (.ref a2)] [(.ref a)]))
    obtain ⟨T7, X7, e7, st7⟩ := getF X5 hx hZ hown (host := "") (Or.inl (hw _ (List.mem_of_getElem? (i := 46) rfl))) Via.refl eq5 D1.2.2 (g := (mkF m 29 #[.val (.ref a), .val (.ref a2), .val (.ref a2)] [(.ref a)])) rfl rfl (hb hby d_dqd_29)
    refine OGo.by_ st7 ?_
    show OGo p e below _ (T7.setTop (mkF m 32 #[.val (.ref a), .val (.ref a2), .val (.ref a2)] [(.ref t1)]))
    refine OGo.by_ (fun t k => XS.aloadN X7.here hx rfl (hb hby d_dqd_32) rfl rfl k) ?_
    show OGo p e below _ (T7.setTop (mkF m 33 #[.val (.ref a), .val (.ref a2), .val (.ref a2)] [(.ref a2), (.ref t1)]))
    obtain ⟨T8, X8, e8, st8⟩ := getF X7 hx hZ hown (host := "") (Or.inl (hw _ (List.mem_of_getElem? (i := 46) rfl))) Via.refl e7 D2.2.2 (g := (mkF m 33 #[.val (.ref a), .val (.ref a2), .val (.ref a2)] [(.ref a2), (.ref t1)])) rfl rfl (hb hby d_dqd_33)
    refine OGo.by_ st8 ?_
    show OGo p e below _ (T8.setTop (mkF m 36 #[.val (.ref a), .val (.ref a2), .val (.ref a2)] [(.ref t2), (.ref t1)]))
    obtain ⟨cq10, kq10, qa10, qb10, qc10⟩ := isOf hZ e8 T1_.1
    obtain ⟨_, _, ⟨T9, L9, k9, n9⟩, -, X9, ⟨Lc9, hQ9, l9, y9, z9⟩, st9⟩ := X8.virtualBack hx (y := (⟨"java/lang/String", "equals", "(Ljava/lang/Object;)Z"⟩ : MethodName)) (z := (⟨"java/lang/String", "equals", "(Ljava/lang/Object;)Z"⟩ : MethodName)) hown (mvT hZ (hw _ (List.mem_of_getElem? (i := 58) rfl))) (mvT hZ (hw _ (List.mem_of_getElem? (i := 59) rfl))) (notFace_of_selects (args := #[]) (mvT hZ (hw _ (List.mem_of_getElem? (i := 61) rfl)))) (mvT hZ (hw _ (List.mem_of_getElem? (i := 61) rfl))) (mvT hZ (hw _ (List.mem_of_getElem? (i := 60) rfl))) (by decide) (backOf (W := 0) (rm_seq l Z a0 hw [] t1 t2 c1 c2 m1 m2 cs y1 y2 h0 n0 Z0 SC hcs T1_ T2_ ht) hZ (hw _ (List.mem_of_getElem? (i := 62) rfl)) (hw _ (List.mem_of_getElem? (i := 9) rfl)) (by decide) (by decide)) qa10 qc10 (g := (mkF m 36 #[.val (.ref a), .val (.ref a2), .val (.ref a2)] [(.ref t2), (.ref t1)])) rfl (by rw [hml]; rfl) (Steps.refl _) (argsL := [(.ref t2)]) (rest := []) (lenOf pd_oLjava_lang_Object_cZ rfl) rfl (by show 2 * 0 + _ ≤ _; exact Nat.le_of_eq rfl) (hb hby d_dqd_36) (fun _ _ => ⟨rfl, e8, (by decide : 0 + 0 ≤ _), (by decide : 0 + 0 ≤ _)⟩)
    dsimp only [Pt.U, Pt.locs, Pt.cells, Pt.slots] at X9 l9 y9 z9 st9 hQ9
    subst l9 y9 z9
    obtain ⟨rfl, Nq9, eq9⟩ := hQ9
    have N9 := Fr.app N5 Nq9
    refine OGo.by_ (fun t k => st9.trans k) ?_
    show OGo p e below _ (T9.setTop (mkF m 39 #[.val (.ref a), .val (.ref a2), .val (.ref a2)] [(.int (if y1 = y2 then (1 : Int32) else (0 : Int32)))]))
    by_cases hr2 : (if y1 = y2 then (1 : Int32) else (0 : Int32)) = (0 : Int32)
    · refine OGo.by_ (fun t k => XS.ifYes X9.here hx rfl (pc0 := 39) (pc' := 46) rfl (hb hby d_dqd_39) rfl ((if0 _ _).trans (teq hr2).1) (by decide) (by decide) k) ?_
      show OGo p e below _ (T9.setTop (mkF m 46 #[.val (.ref a), .val (.ref a2), .val (.ref a2)] []))
      refine OGo.by_ (fun t k => XS.iconst X9.here hx rfl (hb hby d_dqd_46) k) ?_
      show OGo p e below _ (T9.setTop (mkF m 47 #[.val (.ref a), .val (.ref a2), .val (.ref a2)] [(.int (0 : Int32))]))
      exact own_retN X9 hx hlk (t := .boolean) hret (by simp) (hb hby d_dqd_47) (by decide) (by decide) (⟨by rw [if_neg (fun q => own_if0 hr2 q.2)]; rfl, N9, eq9⟩)
    · refine OGo.by_ (fun t k => XS.ifNo X9.here hx rfl (hb hby d_dqd_39) rfl ((if0 _ _).trans (feq hr2).1) k) ?_
      show OGo p e below _ (T9.setTop (mkF m 42 #[.val (.ref a), .val (.ref a2), .val (.ref a2)] []))
      refine OGo.by_ (fun t k => XS.iconst X9.here hx rfl (hb hby d_dqd_42) k) ?_
      show OGo p e below _ (T9.setTop (mkF m 43 #[.val (.ref a), .val (.ref a2), .val (.ref a2)] [(.int (1 : Int32))]))
      refine OGo.by_ (fun t k => XS.goto X9.here hx rfl (pc0 := 43) (pc' := 47) rfl (hb hby d_dqd_43) (by decide) (by decide) k) ?_
      show OGo p e below _ (T9.setTop (mkF m 47 #[.val (.ref a), .val (.ref a2), .val (.ref a2)] [(.int (1 : Int32))]))
      exact own_retN X9 hx hlk (t := .boolean) hret (by simp) (hb hby d_dqd_47) (by decide) (by decide) (⟨by rw [if_pos ⟨own_if1 hr1, own_if1 hr2⟩]; rfl, N9, eq9⟩)
theorem own_sta_keep {Z : State} {h h' : Heap} {C n d : String} {v : Value} {ws : List Addr} (F : Sta Z h C n d v) (K : Keep h h' ws) (hn : ∀ a ∈ ws, ∀ cl, h[a]? = some cl → cl.vm.isStatics = false) : Sta Z h' C n d v := by
  obtain ⟨cf, i, k, f, st, cell, h1, h2, h3, h4, h5, h6, h7⟩ := F
  refine ⟨cf, i, k, f, st, cell, h1, h2, h3, h4, K.2.1 _ _ h5 fun hm => ?_, h6, h7⟩
  rw [hn _ hm _ h5] at h6
  cases h6
theorem own_exa_plain {Z : State} {h : Heap} {a : Addr} {C : String} (E : Exa Z h a C) : ∀ x ∈ [a], ∀ cl, h[x]? = some cl → cl.vm.isStatics = false := fun x hx cl hc => by
  cases List.mem_singleton.mp hx
  obtain ⟨c, k, h1, h2, h3, h4, h5⟩ := E
  cases h1.symm.trans hc
  exact h4
theorem pd_oIcLjava_lang_String_ : parseMethodDescriptor "(I)Ljava/lang/String;" = some ⟨[.int], some (.object "java/lang/String")⟩ := by decide +kernel
theorem pd_oLjava_lang_String_Ljava_lang_String_cV : parseMethodDescriptor "(Ljava/lang/String;Ljava/lang/String;)V" = some ⟨[(.object "java/lang/String"), (.object "java/lang/String")], none⟩ := by decide +kernel
theorem pd_oIIcZ : parseMethodDescriptor "(II)Z" = some ⟨[.int, .int], some .boolean⟩ := by decide +kernel
theorem ef_law (m : MethodId) (x0 : Int32) (x1 : Int32) (x2 : Int32) (x3 : Int32) (x4 : Int32) : entryFrame m #[(.int x0), (.int x1), (.int x2), (.int x3), (.int x4)] maxLocals = mkF m 0 #[.val (.int x0), .val (.int x1), .val (.int x2), .val (.int x3), .val (.int x4), .unset, .unset, .unset, .unset, .unset, .unset] [] := by first | (simp [entryFrame, mkF, argsToLocals, Value.category, maxLocals]; done) | rfl
def Q_law (Z : State) (p1 p2 p3 p4 p5 cs : Int32) (h0 : Heap) (n0 : Nat) (v : Option Value) (h : Heap) (L : List Loc) : Prop := v = some (.int 1) ∧ Fr n0 L
set_option maxRecDepth 65536 in
set_option maxHeartbeats 40000000 in
theorem rm_law (l : Launch) (Z : State) (a0 : Array Value) (hw : ∀ d ∈ tables_1, d.before a0 Z = true) (ws : List Jvm.Cond) (p1 p2 p3 p4 p5 cs : Int32) (h0 : Heap) (n0 : Nat) (Z0 : n0 ≤ h0.size) (SC : Sta Z h0 "java/lang/String" "COMPACT_STRINGS" "Z" (.int cs)) (hcs : ¬ cs = (0 : Int32)) :
    MetFree l x (head1 (Jvm.Cond.code x code maxLocals ret :: ws) room_1) (fun a_ U => a_ = #[(.int p1), (.int p2), (.int p3), (.int p4), (.int p5)] ∧ Z.Warmed39 U.vm ∧ U.heap = h0 ∧ CHv Z own_EL U.vm h0) (fun _ _ _ _ _ => True) (fun _ U o U' => ∃ v L, o = .returned v ∧ Q_law Z p1 p2 p3 p4 p5 cs h0 n0 v U'.heap L ∧ ReturnedEndW U o U' L room_1.cells room_1.slots) := by
  refine MetFree.of_bodySF (plainFor_of_name pn_com_example_shardwright_shardwright_kernel_config_DataNodeEqualsPinLaw) hisR ?_
  intro p e s m args below meth c s₁ Bd hml0 hP hK
  obtain ⟨rfl, hZ, hh, HC⟩ := hP
  have hx := Bd.exec
  have hby := Bd.bytes
  have hml : c.maxLocals = 11 := hml0
  have hown : s.vm.findClass "com/example/shardwright/shardwright/kernel/config/DataNodeEqualsPinLaw" = some m.cls := findClass_of_methodNamed Bd.named
  have hnm := (name_of_methodNamed Bd.named Bd.method).1
  have X0 : Stand p l e room_1 s m #[(.int p1), (.int p2), (.int p3), (.int p4), (.int p5)] below meth c s₁ [] 0 0 := Stand.of_body Bd
  have e0 : s₁.heap = h0 := by rw [← hh, Bd.state]; rfl
  have N0 := Fr.nil n0
  have hlk := Bd.notSynchronized
  have hret := Bd.returns
  show OGo p e below (OEndW s (Q_law Z p1 p2 p3 p4 p5 cs h0 n0) room_1.cells room_1.slots) (s₁.setTop (entryFrame m #[(.int p1), (.int p2), (.int p3), (.int p4), (.int p5)] maxLocals))
  rw [ef_law]
  show OGo p e below _ (s₁.setTop (mkF m 0 #[.val (.int p1), .val (.int p2), .val (.int p3), .val (.int p4), .val (.int p5), .unset, .unset, .unset, .unset, .unset, .unset] []))
  have X0 : Stand p l e room_1 (s.setVm s.vm) m #[(.int p1), (.int p2), (.int p3), (.int p4), (.int p5)] below meth c s₁ [] 0 0 := X0
  have hZ : Z.Warmed39 (s.setVm s.vm).vm := hZ
  have hown : (s.setVm s.vm).vm.findClass "com/example/shardwright/shardwright/kernel/config/DataNodeEqualsPinLaw" = some m.cls := hown
  have hS : s.Since s.vm s.heap.size := (State.WarmedH.refl s).since _
  have hk : s.heap.size ≤ h0.size := by rw [hh]; exact Nat.le_refl _
  have HR := CHr.refl HC
  refine OGo.by_ (fun t k => XS.iload X0.here hx rfl (hb hby at_0) rfl k) ?_
  show OGo p e below _ (s₁.setTop (mkF m 2 #[.val (.int p1), .val (.int p2), .val (.int p3), .val (.int p4), .val (.int p5), .unset, .unset, .unset, .unset, .unset, .unset] [(.int p5)]))
  refine OGo.by_ (fun t k => XS.iconst X0.here hx rfl (hb hby at_2) k) ?_
  show OGo p e below _ (s₁.setTop (mkF m 3 #[.val (.int p1), .val (.int p2), .val (.int p3), .val (.int p4), .val (.int p5), .unset, .unset, .unset, .unset, .unset, .unset] [(.int (1 : Int32)), (.int p5)]))
  refine OGo.by_ (fun t k => XS.iand X0.here hx rfl (hb hby at_3) rfl k) ?_
  show OGo p e below _ (s₁.setTop (mkF m 4 #[.val (.int p1), .val (.int p2), .val (.int p3), .val (.int p4), .val (.int p5), .unset, .unset, .unset, .unset, .unset, .unset] [(.int (p5 &&& (1 : Int32)))]))
  have D1 : ∀ t, Steps p.tables e below (s₁.setTop (mkF m 12 #[.val (.int p1), .val (.int p2), .val (.int p3), .val (.int p4), .val (.int p5), .unset, .unset, .unset, .unset, .unset, .unset] [(.int (if (p5 &&& (1 : Int32)) = (0 : Int32) then p3 else p1))])) t → Steps p.tables e below (s₁.setTop (mkF m 4 #[.val (.int p1), .val (.int p2), .val (.int p3), .val (.int p4), .val (.int p5), .unset, .unset, .unset, .unset, .unset, .unset] [(.int (p5 &&& (1 : Int32)))])) t := by
    intro t k
    by_cases hc : (p5 &&& (1 : Int32)) = (0 : Int32)
    · rw [show (if (p5 &&& (1 : Int32)) = (0 : Int32) then p3 else p1) = p3 from if_pos hc] at k
      refine XS.ifYes X0.here hx rfl (pc0 := 4) (pc' := 11) rfl (hb hby at_4) rfl ((if0 _ _).trans (teq hc).1) (by decide) (by decide) ?_
      show Steps p.tables e below (s₁.setTop (mkF m 11 #[.val (.int p1), .val (.int p2), .val (.int p3), .val (.int p4), .val (.int p5), .unset, .unset, .unset, .unset, .unset, .unset] [])) _
      refine XS.iloadN X0.here hx rfl (hb hby at_11) rfl ?_
      show Steps p.tables e below (s₁.setTop (mkF m 12 #[.val (.int p1), .val (.int p2), .val (.int p3), .val (.int p4), .val (.int p5), .unset, .unset, .unset, .unset, .unset, .unset] [(.int p3)])) _
      first | exact k | (simp only [if_pos hc]; exact k)
    · rw [show (if (p5 &&& (1 : Int32)) = (0 : Int32) then p3 else p1) = p1 from if_neg hc] at k
      refine XS.ifNo X0.here hx rfl (hb hby at_4) rfl ((if0 _ _).trans (feq hc).1) ?_
      show Steps p.tables e below (s₁.setTop (mkF m 7 #[.val (.int p1), .val (.int p2), .val (.int p3), .val (.int p4), .val (.int p5), .unset, .unset, .unset, .unset, .unset, .unset] [])) _
      refine XS.iloadN X0.here hx rfl (hb hby at_7) rfl ?_
      show Steps p.tables e below (s₁.setTop (mkF m 8 #[.val (.int p1), .val (.int p2), .val (.int p3), .val (.int p4), .val (.int p5), .unset, .unset, .unset, .unset, .unset, .unset] [(.int p1)])) _
      refine XS.goto X0.here hx rfl (pc0 := 8) (pc' := 12) rfl (hb hby at_8) (by decide) (by decide) ?_
      show Steps p.tables e below (s₁.setTop (mkF m 12 #[.val (.int p1), .val (.int p2), .val (.int p3), .val (.int p4), .val (.int p5), .unset, .unset, .unset, .unset, .unset, .unset] [(.int p1)])) _
      first | exact k | (simp only [if_neg hc]; exact k)
  refine OGo.by_ D1 ?_
  show OGo p e below _ (s₁.setTop (mkF m 12 #[.val (.int p1), .val (.int p2), .val (.int p3), .val (.int p4), .val (.int p5), .unset, .unset, .unset, .unset, .unset, .unset] [(.int (if (p5 &&& (1 : Int32)) = (0 : Int32) then p3 else p1))]))
  refine OGo.by_ (fun t k => XS.istore X0.here hx rfl (hb hby at_12) rfl (l' := #[.val (.int p1), .val (.int p2), .val (.int p3), .val (.int p4), .val (.int p5), .val (.int (if (p5 &&& (1 : Int32)) = (0 : Int32) then p3 else p1)), .unset, .unset, .unset, .unset, .unset]) rfl k) ?_
  show OGo p e below _ (s₁.setTop (mkF m 14 #[.val (.int p1), .val (.int p2), .val (.int p3), .val (.int p4), .val (.int p5), .val (.int (if (p5 &&& (1 : Int32)) = (0 : Int32) then p3 else p1)), .unset, .unset, .unset, .unset, .unset] []))
  refine OGo.by_ (fun t k => XS.iload X0.here hx rfl (hb hby at_14) rfl k) ?_
  show OGo p e below _ (s₁.setTop (mkF m 16 #[.val (.int p1), .val (.int p2), .val (.int p3), .val (.int p4), .val (.int p5), .val (.int (if (p5 &&& (1 : Int32)) = (0 : Int32) then p3 else p1)), .unset, .unset, .unset, .unset, .unset] [(.int p5)]))
  refine OGo.by_ (fun t k => XS.iconst X0.here hx rfl (hb hby at_16) k) ?_
  show OGo p e below _ (s₁.setTop (mkF m 17 #[.val (.int p1), .val (.int p2), .val (.int p3), .val (.int p4), .val (.int p5), .val (.int (if (p5 &&& (1 : Int32)) = (0 : Int32) then p3 else p1)), .unset, .unset, .unset, .unset, .unset] [(.int (2 : Int32)), (.int p5)]))
  refine OGo.by_ (fun t k => XS.iand X0.here hx rfl (hb hby at_17) rfl k) ?_
  show OGo p e below _ (s₁.setTop (mkF m 18 #[.val (.int p1), .val (.int p2), .val (.int p3), .val (.int p4), .val (.int p5), .val (.int (if (p5 &&& (1 : Int32)) = (0 : Int32) then p3 else p1)), .unset, .unset, .unset, .unset, .unset] [(.int (p5 &&& (2 : Int32)))]))
  have D2 : ∀ t, Steps p.tables e below (s₁.setTop (mkF m 26 #[.val (.int p1), .val (.int p2), .val (.int p3), .val (.int p4), .val (.int p5), .val (.int (if (p5 &&& (1 : Int32)) = (0 : Int32) then p3 else p1)), .unset, .unset, .unset, .unset, .unset] [(.int (if (p5 &&& (2 : Int32)) = (0 : Int32) then p4 else p2))])) t → Steps p.tables e below (s₁.setTop (mkF m 18 #[.val (.int p1), .val (.int p2), .val (.int p3), .val (.int p4), .val (.int p5), .val (.int (if (p5 &&& (1 : Int32)) = (0 : Int32) then p3 else p1)), .unset, .unset, .unset, .unset, .unset] [(.int (p5 &&& (2 : Int32)))])) t := by
    intro t k
    by_cases hc : (p5 &&& (2 : Int32)) = (0 : Int32)
    · rw [show (if (p5 &&& (2 : Int32)) = (0 : Int32) then p4 else p2) = p4 from if_pos hc] at k
      refine XS.ifYes X0.here hx rfl (pc0 := 18) (pc' := 25) rfl (hb hby at_18) rfl ((if0 _ _).trans (teq hc).1) (by decide) (by decide) ?_
      show Steps p.tables e below (s₁.setTop (mkF m 25 #[.val (.int p1), .val (.int p2), .val (.int p3), .val (.int p4), .val (.int p5), .val (.int (if (p5 &&& (1 : Int32)) = (0 : Int32) then p3 else p1)), .unset, .unset, .unset, .unset, .unset] [])) _
      refine XS.iloadN X0.here hx rfl (hb hby at_25) rfl ?_
      show Steps p.tables e below (s₁.setTop (mkF m 26 #[.val (.int p1), .val (.int p2), .val (.int p3), .val (.int p4), .val (.int p5), .val (.int (if (p5 &&& (1 : Int32)) = (0 : Int32) then p3 else p1)), .unset, .unset, .unset, .unset, .unset] [(.int p4)])) _
      first | exact k | (simp only [if_pos hc]; exact k)
    · rw [show (if (p5 &&& (2 : Int32)) = (0 : Int32) then p4 else p2) = p2 from if_neg hc] at k
      refine XS.ifNo X0.here hx rfl (hb hby at_18) rfl ((if0 _ _).trans (feq hc).1) ?_
      show Steps p.tables e below (s₁.setTop (mkF m 21 #[.val (.int p1), .val (.int p2), .val (.int p3), .val (.int p4), .val (.int p5), .val (.int (if (p5 &&& (1 : Int32)) = (0 : Int32) then p3 else p1)), .unset, .unset, .unset, .unset, .unset] [])) _
      refine XS.iloadN X0.here hx rfl (hb hby at_21) rfl ?_
      show Steps p.tables e below (s₁.setTop (mkF m 22 #[.val (.int p1), .val (.int p2), .val (.int p3), .val (.int p4), .val (.int p5), .val (.int (if (p5 &&& (1 : Int32)) = (0 : Int32) then p3 else p1)), .unset, .unset, .unset, .unset, .unset] [(.int p2)])) _
      refine XS.goto X0.here hx rfl (pc0 := 22) (pc' := 26) rfl (hb hby at_22) (by decide) (by decide) ?_
      show Steps p.tables e below (s₁.setTop (mkF m 26 #[.val (.int p1), .val (.int p2), .val (.int p3), .val (.int p4), .val (.int p5), .val (.int (if (p5 &&& (1 : Int32)) = (0 : Int32) then p3 else p1)), .unset, .unset, .unset, .unset, .unset] [(.int p2)])) _
      first | exact k | (simp only [if_neg hc]; exact k)
  refine OGo.by_ D2 ?_
  show OGo p e below _ (s₁.setTop (mkF m 26 #[.val (.int p1), .val (.int p2), .val (.int p3), .val (.int p4), .val (.int p5), .val (.int (if (p5 &&& (1 : Int32)) = (0 : Int32) then p3 else p1)), .unset, .unset, .unset, .unset, .unset] [(.int (if (p5 &&& (2 : Int32)) = (0 : Int32) then p4 else p2))]))
  refine OGo.by_ (fun t k => XS.istore X0.here hx rfl (hb hby at_26) rfl (l' := #[.val (.int p1), .val (.int p2), .val (.int p3), .val (.int p4), .val (.int p5), .val (.int (if (p5 &&& (1 : Int32)) = (0 : Int32) then p3 else p1)), .val (.int (if (p5 &&& (2 : Int32)) = (0 : Int32) then p4 else p2)), .unset, .unset, .unset, .unset]) rfl k) ?_
  show OGo p e below _ (s₁.setTop (mkF m 28 #[.val (.int p1), .val (.int p2), .val (.int p3), .val (.int p4), .val (.int p5), .val (.int (if (p5 &&& (1 : Int32)) = (0 : Int32) then p3 else p1)), .val (.int (if (p5 &&& (2 : Int32)) = (0 : Int32) then p4 else p2)), .unset, .unset, .unset, .unset] []))
  obtain ⟨cc, hcc⟩ : ∃ q, q = (if (p5 &&& (1 : Int32)) = (0 : Int32) then p3 else p1) := ⟨_, rfl⟩
  rw [← hcc]
  obtain ⟨dd, hdd⟩ : ∃ q, q = (if (p5 &&& (2 : Int32)) = (0 : Int32) then p4 else p2) := ⟨_, rfl⟩
  rw [← hdd]
  show OGo p e below _ (s₁.setTop (mkF m 28 #[.val (.int p1), .val (.int p2), .val (.int p3), .val (.int p4), .val (.int p5), .val (.int cc), .val (.int dd), .unset, .unset, .unset, .unset] []))
  obtain ⟨T3, h3, X3, e3, E3, A3, Dv3, -, st3⟩ := newO X0 hx hZ hown (hw _ (List.mem_of_getElem? (i := 0) rfl)) (hw _ (List.mem_of_getElem? (i := 1) rfl)) (hw _ (List.mem_of_getElem? (i := 2) rfl)) e0 (g := (mkF m 28 #[.val (.int p1), .val (.int p2), .val (.int p3), .val (.int p4), .val (.int p5), .val (.int cc), .val (.int dd), .unset, .unset, .unset, .unset] [])) rfl (hb hby at_28) (by decide) (by decide)
  obtain ⟨o1, g_o1⟩ : ∃ z, z = h0.size := ⟨_, rfl⟩
  rw [← g_o1] at A3 Dv3 st3
  have A_o1 := A3
  have lt_o1 := own_lt A3.lt
  have F_dataSource_o1 : Fld Z h3 o1 "com/example/shardwright/shardwright/kernel/config/DataNode" "dataSource" "Ljava/lang/String;" .null := Dv3 (Or.inr (hw _ (List.mem_of_getElem? (i := 45) rfl))) (ty := (.object "java/lang/String")) (by decide)
  have F_table_o1 : Fld Z h3 o1 "com/example/shardwright/shardwright/kernel/config/DataNode" "table" "Ljava/lang/String;" .null := Dv3 (Or.inr (hw _ (List.mem_of_getElem? (i := 47) rfl))) (ty := (.object "java/lang/String")) (by decide)
  have hk := Nat.le_trans hk E3.1
  have HR := HR.trans (CHr.ext E3 HR.1)
  refine OGo.by_ st3 ?_
  show OGo p e below _ (T3.setTop (mkF m 31 #[.val (.int p1), .val (.int p2), .val (.int p3), .val (.int p4), .val (.int p5), .val (.int cc), .val (.int dd), .unset, .unset, .unset, .unset] [(.ref o1)]))
  have Z_1 := Nat.le_trans Z0 E3.1
  have SC_1 := Sta.ext E3 SC
  have ze_o1 := E3.1
  have gn_o1 : n0 ≤ o1 := by omega
  refine OGo.by_ (fun t k => XS.dup X3.here hx rfl (hb hby at_31) rfl rfl k) ?_
  show OGo p e below _ (T3.setTop (mkF m 32 #[.val (.int p1), .val (.int p2), .val (.int p3), .val (.int p4), .val (.int p5), .val (.int cc), .val (.int dd), .unset, .unset, .unset, .unset] [(.ref o1), (.ref o1)]))
  refine OGo.by_ (fun t k => XS.iloadN X3.here hx rfl (hb hby at_32) rfl k) ?_
  show OGo p e below _ (T3.setTop (mkF m 33 #[.val (.int p1), .val (.int p2), .val (.int p3), .val (.int p4), .val (.int p5), .val (.int cc), .val (.int dd), .unset, .unset, .unset, .unset] [(.int p1), (.ref o1), (.ref o1)]))
  obtain ⟨_, _, ⟨T4, L4, k4, n4⟩, -, X4, hS2, hg2, ⟨Lc4, hQ4, l4, y4, z4, HR2⟩, st4⟩ := callSS X3 hx (y := (⟨"com/example/shardwright/shardwright/kernel/config/DataNodeEqualsPinLaw", "mk", "(I)Ljava/lang/String;"⟩ : MethodName)) hown (mvT hZ (hw _ (List.mem_of_getElem? (i := 3) rfl))) (mvT hZ (hw _ (List.mem_of_getElem? (i := 4) rfl))) (mvT hZ (hw _ (List.mem_of_getElem? (i := 5) rfl))) (mvT hZ (hw _ (List.mem_of_getElem? (i := 6) rfl))) (by decide) (backOfSH (W := 2) (rm_mk l Z a0 hw [] p1 cs h3 n0 Z_1 SC_1 hcs) hZ (hw _ (List.mem_of_getElem? (i := 6) rfl)) (hw _ (List.mem_of_getElem? (i := 5) rfl)) (by decide) (by decide) (own_ew hw) HR.1) (g := (mkF m 33 #[.val (.int p1), .val (.int p2), .val (.int p3), .val (.int p4), .val (.int p5), .val (.int cc), .val (.int dd), .unset, .unset, .unset, .unset] [(.int p1), (.ref o1), (.ref o1)])) rfl (by rw [hml]; rfl) (argsL := [(.int p1)]) (rest := [(.ref o1), (.ref o1)]) (lenOf pd_oIcLjava_lang_String_ rfl) rfl (by show 2 * 0 + _ ≤ _; exact Nat.le_of_eq rfl) (hb hby at_33) (fun _ _ => ⟨rfl, e3, (by decide : 1 + 6 ≤ _), (by decide : 2 + 15 ≤ _)⟩)
  dsimp only [Pt.U, Pt.locs, Pt.cells, Pt.slots] at X4 l4 y4 z4 st4 hQ4 hS2 hg2 HR2
  subst l4 y4 z4
  obtain ⟨rfl, Nq4, K4, b_s1, n_s1, Sn4⟩ := hQ4
  have N4 := Fr.app N0 Nq4
  obtain ⟨X4, hS, hZ, hown⟩ := rebS hS (show _ ≤ T3.heap.size by rw [e3]; exact hk) X4 hS2 hg2 hZ hown
  have hk := Nat.le_refl T4.heap.size
  have HR := HR.trans HR2
  refine OGo.by_ (fun t k => st4.trans k) ?_
  show OGo p e below _ (T4.setTop (mkF m 36 #[.val (.int p1), .val (.int p2), .val (.int p3), .val (.int p4), .val (.int p5), .val (.int cc), .val (.int dd), .unset, .unset, .unset, .unset] [(.ref h3.size), (.ref o1), (.ref o1)]))
  obtain ⟨s1, g_s1⟩ : ∃ q, q = h3.size := ⟨_, rfl⟩
  rw [← g_s1] at Sn4
  rw [← g_s1]
  show OGo p e below _ (T4.setTop (mkF m 36 #[.val (.int p1), .val (.int p2), .val (.int p3), .val (.int p4), .val (.int p5), .val (.int cc), .val (.int dd), .unset, .unset, .unset, .unset] [(.ref s1), (.ref o1), (.ref o1)]))
  have Z_2 := Nat.le_trans Z_1 K4.1
  have SC_2 := own_sta_keep SC_1 K4 (fun a h => nomatch h)
  have zk_s1 := K4.1
  have zl_s1 := own_lt (own_S_lt Sn4).1
  have En_2 := A_o1.keep K4
  have F0n_2 := F_dataSource_o1.keep K4 nin0
  have F1n_2 := F_table_o1.keep K4 nin0
  refine OGo.by_ (fun t k => XS.iloadN X4.here hx rfl (hb hby at_36) rfl k) ?_
  show OGo p e below _ (T4.setTop (mkF m 37 #[.val (.int p1), .val (.int p2), .val (.int p3), .val (.int p4), .val (.int p5), .val (.int cc), .val (.int dd), .unset, .unset, .unset, .unset] [(.int p2), (.ref s1), (.ref o1), (.ref o1)]))
  obtain ⟨_, _, ⟨T5, L5, k5, n5⟩, -, X5, hS2, hg2, ⟨Lc5, hQ5, l5, y5, z5, HR2⟩, st5⟩ := callSS X4 hx (y := (⟨"com/example/shardwright/shardwright/kernel/config/DataNodeEqualsPinLaw", "mk", "(I)Ljava/lang/String;"⟩ : MethodName)) hown (mvT hZ (hw _ (List.mem_of_getElem? (i := 3) rfl))) (mvT hZ (hw _ (List.mem_of_getElem? (i := 4) rfl))) (mvT hZ (hw _ (List.mem_of_getElem? (i := 5) rfl))) (mvT hZ (hw _ (List.mem_of_getElem? (i := 6) rfl))) (by decide) (backOfSH (W := 3) (rm_mk l Z a0 hw [] p2 cs T4.heap n0 Z_2 SC_2 hcs) hZ (hw _ (List.mem_of_getElem? (i := 6) rfl)) (hw _ (List.mem_of_getElem? (i := 5) rfl)) (by decide) (by decide) (own_ew hw) HR.1) (g := (mkF m 37 #[.val (.int p1), .val (.int p2), .val (.int p3), .val (.int p4), .val (.int p5), .val (.int cc), .val (.int dd), .unset, .unset, .unset, .unset] [(.int p2), (.ref s1), (.ref o1), (.ref o1)])) rfl (by rw [hml]; rfl) (argsL := [(.int p2)]) (rest := [(.ref s1), (.ref o1), (.ref o1)]) (lenOf pd_oIcLjava_lang_String_ rfl) rfl (by show 2 * 0 + _ ≤ _; exact Nat.le_of_eq rfl) (hb hby at_37) (fun _ _ => ⟨rfl, rfl, (by decide : 7 + 6 ≤ _), (by decide : 17 + 15 ≤ _)⟩)
  dsimp only [Pt.U, Pt.locs, Pt.cells, Pt.slots] at X5 l5 y5 z5 st5 hQ5 hS2 hg2 HR2
  subst l5 y5 z5
  obtain ⟨rfl, Nq5, K5, b_t1, n_t1, Sn5⟩ := hQ5
  have N5 := Fr.app N4 Nq5
  obtain ⟨X5, hS, hZ, hown⟩ := rebS hS (show _ ≤ T4.heap.size by rw [show T4.heap = T4.heap from rfl]; exact hk) X5 hS2 hg2 hZ hown
  have hk := Nat.le_refl T5.heap.size
  have HR := HR.trans HR2
  refine OGo.by_ (fun t k => st5.trans k) ?_
  show OGo p e below _ (T5.setTop (mkF m 40 #[.val (.int p1), .val (.int p2), .val (.int p3), .val (.int p4), .val (.int p5), .val (.int cc), .val (.int dd), .unset, .unset, .unset, .unset] [(.ref T4.heap.size), (.ref s1), (.ref o1), (.ref o1)]))
  obtain ⟨t1, g_t1⟩ : ∃ q, q = T4.heap.size := ⟨_, rfl⟩
  rw [← g_t1] at Sn5
  rw [← g_t1]
  show OGo p e below _ (T5.setTop (mkF m 40 #[.val (.int p1), .val (.int p2), .val (.int p3), .val (.int p4), .val (.int p5), .val (.int cc), .val (.int dd), .unset, .unset, .unset, .unset] [(.ref t1), (.ref s1), (.ref o1), (.ref o1)]))
  have S_s1_3 := own_S_keep Sn4 K5 nin0 nin0
  have Z_3 := Nat.le_trans Z_2 K5.1
  have SC_3 := own_sta_keep SC_2 K5 (fun a h => nomatch h)
  have zk_t1 := K5.1
  have zl_t1 := own_lt (own_S_lt Sn5).1
  have En_3 := En_2.keep K5
  have F0n_3 := F0n_2.keep K5 nin0
  have F1n_3 := F1n_2.keep K5 nin0
  obtain ⟨_, _, ⟨T6, L6, k6, n6⟩, -, X6, ⟨Lc6, hQ6, l6, y6, z6⟩, st6⟩ := X5.specialBack hx (y := (⟨"com/example/shardwright/shardwright/kernel/config/DataNode", "<init>", "(Ljava/lang/String;Ljava/lang/String;)V"⟩ : MethodName)) rfl hown (mvT hZ (hw _ (List.mem_of_getElem? (i := 40) rfl))) (mvT hZ (hw _ (List.mem_of_getElem? (i := 41) rfl))) (mvT hZ (hw _ (List.mem_of_getElem? (i := 42) rfl))) (by decide) (backOf (W := 1) (rm_din l Z a0 hw [] o1 s1 t1 T5.heap n0 Z_3 En_3 F0n_3 F1n_3 gn_o1) hZ (hw _ (List.mem_of_getElem? (i := 42) rfl)) (hw _ (List.mem_of_getElem? (i := 2) rfl)) (by decide) (by decide)) (g := (mkF m 40 #[.val (.int p1), .val (.int p2), .val (.int p3), .val (.int p4), .val (.int p5), .val (.int cc), .val (.int dd), .unset, .unset, .unset, .unset] [(.ref t1), (.ref s1), (.ref o1), (.ref o1)])) rfl (by rw [hml]; rfl) (Steps.refl _) (a := o1) (argsL := [(.ref s1), (.ref t1)]) (rest := [(.ref o1)]) (lenOf pd_oLjava_lang_String_Ljava_lang_String_cV rfl) rfl (by show 2 * 0 + _ ≤ _; exact Nat.le_of_eq rfl) (hb hby at_40) (fun _ _ => ⟨rfl, rfl, (by decide : 13 + 0 ≤ _), (by decide : 32 + 0 ≤ _)⟩)
  dsimp only [Pt.U, Pt.locs, Pt.cells, Pt.slots] at X6 l6 y6 z6 st6 hQ6
  subst l6 y6 z6
  obtain ⟨rfl, Nq6, K6, Dn6⟩ := hQ6
  have N6 := Fr.app N5 Nq6
  refine OGo.by_ (fun t k => st6.trans k) ?_
  show OGo p e below _ (T6.setTop (mkF m 43 #[.val (.int p1), .val (.int p2), .val (.int p3), .val (.int p4), .val (.int p5), .val (.int cc), .val (.int dd), .unset, .unset, .unset, .unset] [(.ref o1)]))
  have hk := Nat.le_trans hk K6.1
  have HR := HR.trans (CHr.keep K6 (allS (Safe.exa (EL := own_EL) hZ.alike En_3 (by decide) (by decide)) all0) HR.1)
  have S_s1_4 := own_S_node (hw _ (List.mem_of_getElem? (i := 1) rfl)) S_s1_3 En_3 K6
  have S_t1_4 := own_S_node (hw _ (List.mem_of_getElem? (i := 1) rfl)) Sn5 En_3 K6
  have Z_4 := Nat.le_trans Z_3 K6.1
  have SC_4 := own_sta_keep SC_3 K6 (own_exa_plain En_3)
  have zi_o1 := K6.1
  refine OGo.by_ (fun t k => XS.astore X6.here hx rfl (hb hby at_43) rfl rfl (l' := #[.val (.int p1), .val (.int p2), .val (.int p3), .val (.int p4), .val (.int p5), .val (.int cc), .val (.int dd), .val (.ref o1), .unset, .unset, .unset]) rfl k) ?_
  show OGo p e below _ (T6.setTop (mkF m 45 #[.val (.int p1), .val (.int p2), .val (.int p3), .val (.int p4), .val (.int p5), .val (.int cc), .val (.int dd), .val (.ref o1), .unset, .unset, .unset] []))
  refine OGo.by_ (fun t k => XS.iload X6.here hx rfl (hb hby at_45) rfl k) ?_
  show OGo p e below _ (T6.setTop (mkF m 47 #[.val (.int p1), .val (.int p2), .val (.int p3), .val (.int p4), .val (.int p5), .val (.int cc), .val (.int dd), .val (.ref o1), .unset, .unset, .unset] [(.int p5)]))
  refine OGo.by_ (fun t k => XS.iconst X6.here hx rfl (hb hby at_47) k) ?_
  show OGo p e below _ (T6.setTop (mkF m 48 #[.val (.int p1), .val (.int p2), .val (.int p3), .val (.int p4), .val (.int p5), .val (.int cc), .val (.int dd), .val (.ref o1), .unset, .unset, .unset] [(.int (2 : Int32)), (.int p5)]))
  refine OGo.by_ (fun t k => XS.iushr X6.here hx rfl (hb hby at_48) rfl k) ?_
  show OGo p e below _ (T6.setTop (mkF m 49 #[.val (.int p1), .val (.int p2), .val (.int p3), .val (.int p4), .val (.int p5), .val (.int cc), .val (.int dd), .val (.ref o1), .unset, .unset, .unset] [(.int ((p5.toUInt32 >>> ((2 : Int32) &&& 31).toUInt32).toInt32))]))
  refine OGo.by_ (fun t k => XS.iconst X6.here hx rfl (hb hby at_49) k) ?_
  show OGo p e below _ (T6.setTop (mkF m 50 #[.val (.int p1), .val (.int p2), .val (.int p3), .val (.int p4), .val (.int p5), .val (.int cc), .val (.int dd), .val (.ref o1), .unset, .unset, .unset] [(.int (3 : Int32)), (.int ((p5.toUInt32 >>> ((2 : Int32) &&& 31).toUInt32).toInt32))]))
  refine OGo.by_ (fun t k => XS.iand X6.here hx rfl (hb hby at_50) rfl k) ?_
  show OGo p e below _ (T6.setTop (mkF m 51 #[.val (.int p1), .val (.int p2), .val (.int p3), .val (.int p4), .val (.int p5), .val (.int cc), .val (.int dd), .val (.ref o1), .unset, .unset, .unset] [(.int (((p5.toUInt32 >>> ((2 : Int32) &&& 31).toUInt32).toInt32) &&& (3 : Int32)))]))
  refine OGo.by_ (fun t k => XS.istore X6.here hx rfl (hb hby at_51) rfl (l' := #[.val (.int p1), .val (.int p2), .val (.int p3), .val (.int p4), .val (.int p5), .val (.int cc), .val (.int dd), .val (.ref o1), .val (.int (((p5.toUInt32 >>> ((2 : Int32) &&& 31).toUInt32).toInt32) &&& (3 : Int32))), .unset, .unset]) rfl k) ?_
  show OGo p e below _ (T6.setTop (mkF m 53 #[.val (.int p1), .val (.int p2), .val (.int p3), .val (.int p4), .val (.int p5), .val (.int cc), .val (.int dd), .val (.ref o1), .val (.int (((p5.toUInt32 >>> ((2 : Int32) &&& 31).toUInt32).toInt32) &&& (3 : Int32))), .unset, .unset] []))
  refine OGo.by_ (fun t k => XS.iload X6.here hx rfl (hb hby at_53) rfl k) ?_
  show OGo p e below _ (T6.setTop (mkF m 55 #[.val (.int p1), .val (.int p2), .val (.int p3), .val (.int p4), .val (.int p5), .val (.int cc), .val (.int dd), .val (.ref o1), .val (.int (((p5.toUInt32 >>> ((2 : Int32) &&& 31).toUInt32).toInt32) &&& (3 : Int32))), .unset, .unset] [(.int (((p5.toUInt32 >>> ((2 : Int32) &&& 31).toUInt32).toInt32) &&& (3 : Int32)))]))
  refine OGo.by_ (fun t k => XS.iconst X6.here hx rfl (hb hby at_55) k) ?_
  show OGo p e below _ (T6.setTop (mkF m 56 #[.val (.int p1), .val (.int p2), .val (.int p3), .val (.int p4), .val (.int p5), .val (.int cc), .val (.int dd), .val (.ref o1), .val (.int (((p5.toUInt32 >>> ((2 : Int32) &&& 31).toUInt32).toInt32) &&& (3 : Int32))), .unset, .unset] [(.int (1 : Int32)), (.int (((p5.toUInt32 >>> ((2 : Int32) &&& 31).toUInt32).toInt32) &&& (3 : Int32)))]))
  by_cases hk1 : (((p5.toUInt32 >>> ((2 : Int32) &&& 31).toUInt32).toInt32) &&& (3 : Int32)) = (1 : Int32)
  · refine OGo.by_ (fun t k => XS.icmpNo X6.here hx rfl (hb hby at_56) rfl (teq hk1).2 k) ?_
    show OGo p e below _ (T6.setTop (mkF m 59 #[.val (.int p1), .val (.int p2), .val (.int p3), .val (.int p4), .val (.int p5), .val (.int cc), .val (.int dd), .val (.ref o1), .val (.int (((p5.toUInt32 >>> ((2 : Int32) &&& 31).toUInt32).toInt32) &&& (3 : Int32))), .unset, .unset] []))
    refine OGo.by_ (fun t k => XS.aload X6.here hx rfl (hb hby at_59) rfl rfl k) ?_
    show OGo p e below _ (T6.setTop (mkF m 61 #[.val (.int p1), .val (.int p2), .val (.int p3), .val (.int p4), .val (.int p5), .val (.int cc), .val (.int dd), .val (.ref o1), .val (.int (((p5.toUInt32 >>> ((2 : Int32) &&& 31).toUInt32).toInt32) &&& (3 : Int32))), .unset, .unset] [(.ref o1)]))
    refine OGo.by_ (fun t k => XS.aconstNull X6.here hx rfl (hb hby at_61) k) ?_
    show OGo p e below _ (T6.setTop (mkF m 62 #[.val (.int p1), .val (.int p2), .val (.int p3), .val (.int p4), .val (.int p5), .val (.int cc), .val (.int dd), .val (.ref o1), .val (.int (((p5.toUInt32 >>> ((2 : Int32) &&& 31).toUInt32).toInt32) &&& (3 : Int32))), .unset, .unset] [.null, (.ref o1)]))
    obtain ⟨cq8, kq8, qa8, qb8, qc8⟩ := isOf hZ rfl Dn6.1
    obtain ⟨_, _, ⟨T7, L7, k7, n7⟩, -, X7, ⟨Lc7, hQ7, l7, y7, z7⟩, st7⟩ := X6.virtualBack hx (y := (⟨"com/example/shardwright/shardwright/kernel/config/DataNode", "equals", "(Ljava/lang/Object;)Z"⟩ : MethodName)) (z := (⟨"com/example/shardwright/shardwright/kernel/config/DataNode", "equals", "(Ljava/lang/Object;)Z"⟩ : MethodName)) hown (mvT hZ (hw _ (List.mem_of_getElem? (i := 51) rfl))) (mvT hZ (hw _ (List.mem_of_getElem? (i := 52) rfl))) (notFace_of_selects (args := #[]) (mvT hZ (hw _ (List.mem_of_getElem? (i := 54) rfl)))) (mvT hZ (hw _ (List.mem_of_getElem? (i := 54) rfl))) (mvT hZ (hw _ (List.mem_of_getElem? (i := 53) rfl))) (by decide) (backOf (W := 0) (rm_dqn l Z a0 hw [] o1 T6.heap n0 Z_4) hZ (hw _ (List.mem_of_getElem? (i := 55) rfl)) (hw _ (List.mem_of_getElem? (i := 2) rfl)) (by decide) (by decide)) qa8 qc8 (g := (mkF m 62 #[.val (.int p1), .val (.int p2), .val (.int p3), .val (.int p4), .val (.int p5), .val (.int cc), .val (.int dd), .val (.ref o1), .val (.int (((p5.toUInt32 >>> ((2 : Int32) &&& 31).toUInt32).toInt32) &&& (3 : Int32))), .unset, .unset] [.null, (.ref o1)])) rfl (by rw [hml]; rfl) (Steps.refl _) (argsL := [.null]) (rest := []) (lenOf pd_oLjava_lang_Object_cZ rfl) rfl (by show 2 * 0 + _ ≤ _; exact Nat.le_of_eq rfl) (hb hby at_62) (fun _ _ => ⟨rfl, rfl, (by decide : 13 + 0 ≤ _), (by decide : 32 + 0 ≤ _)⟩)
    dsimp only [Pt.U, Pt.locs, Pt.cells, Pt.slots] at X7 l7 y7 z7 st7 hQ7
    subst l7 y7 z7
    obtain ⟨rfl, Nq7, eq7⟩ := hQ7
    have N7 := Fr.app N6 Nq7
    refine OGo.by_ (fun t k => st7.trans k) ?_
    show OGo p e below _ (T7.setTop (mkF m 65 #[.val (.int p1), .val (.int p2), .val (.int p3), .val (.int p4), .val (.int p5), .val (.int cc), .val (.int dd), .val (.ref o1), .val (.int (((p5.toUInt32 >>> ((2 : Int32) &&& 31).toUInt32).toInt32) &&& (3 : Int32))), .unset, .unset] [(.int (0 : Int32))]))
    refine OGo.by_ (fun t k => XS.ifNo X7.here hx rfl (hb hby at_65) rfl ((if0 _ _).trans (teq rfl).2) k) ?_
    show OGo p e below _ (T7.setTop (mkF m 68 #[.val (.int p1), .val (.int p2), .val (.int p3), .val (.int p4), .val (.int p5), .val (.int cc), .val (.int dd), .val (.ref o1), .val (.int (((p5.toUInt32 >>> ((2 : Int32) &&& 31).toUInt32).toInt32) &&& (3 : Int32))), .unset, .unset] []))
    refine OGo.by_ (fun t k => XS.iconst X7.here hx rfl (hb hby at_68) k) ?_
    show OGo p e below _ (T7.setTop (mkF m 69 #[.val (.int p1), .val (.int p2), .val (.int p3), .val (.int p4), .val (.int p5), .val (.int cc), .val (.int dd), .val (.ref o1), .val (.int (((p5.toUInt32 >>> ((2 : Int32) &&& 31).toUInt32).toInt32) &&& (3 : Int32))), .unset, .unset] [(.int (1 : Int32))]))
    refine OGo.by_ (fun t k => XS.goto X7.here hx rfl (pc0 := 69) (pc' := 73) rfl (hb hby at_69) (by decide) (by decide) k) ?_
    show OGo p e below _ (T7.setTop (mkF m 73 #[.val (.int p1), .val (.int p2), .val (.int p3), .val (.int p4), .val (.int p5), .val (.int cc), .val (.int dd), .val (.ref o1), .val (.int (((p5.toUInt32 >>> ((2 : Int32) &&& 31).toUInt32).toInt32) &&& (3 : Int32))), .unset, .unset] [(.int (1 : Int32))]))
    exact own_wretN X7 hS (show _ ≤ T7.heap.size by rw [eq7]; exact hk) hx hlk (t := .boolean) hret (by simp) (hb hby at_73) (by decide) (by decide) (⟨rfl, N7⟩)
  · refine OGo.by_ (fun t k => XS.icmpYes X6.here hx rfl (pc0 := 56) (pc' := 74) rfl (hb hby at_56) rfl (feq hk1).2 (by decide) (by decide) k) ?_
    show OGo p e below _ (T6.setTop (mkF m 74 #[.val (.int p1), .val (.int p2), .val (.int p3), .val (.int p4), .val (.int p5), .val (.int cc), .val (.int dd), .val (.ref o1), .val (.int (((p5.toUInt32 >>> ((2 : Int32) &&& 31).toUInt32).toInt32) &&& (3 : Int32))), .unset, .unset] []))
    refine OGo.by_ (fun t k => XS.iload X6.here hx rfl (hb hby at_74) rfl k) ?_
    show OGo p e below _ (T6.setTop (mkF m 76 #[.val (.int p1), .val (.int p2), .val (.int p3), .val (.int p4), .val (.int p5), .val (.int cc), .val (.int dd), .val (.ref o1), .val (.int (((p5.toUInt32 >>> ((2 : Int32) &&& 31).toUInt32).toInt32) &&& (3 : Int32))), .unset, .unset] [(.int (((p5.toUInt32 >>> ((2 : Int32) &&& 31).toUInt32).toInt32) &&& (3 : Int32)))]))
    refine OGo.by_ (fun t k => XS.iconst X6.here hx rfl (hb hby at_76) k) ?_
    show OGo p e below _ (T6.setTop (mkF m 77 #[.val (.int p1), .val (.int p2), .val (.int p3), .val (.int p4), .val (.int p5), .val (.int cc), .val (.int dd), .val (.ref o1), .val (.int (((p5.toUInt32 >>> ((2 : Int32) &&& 31).toUInt32).toInt32) &&& (3 : Int32))), .unset, .unset] [(.int (2 : Int32)), (.int (((p5.toUInt32 >>> ((2 : Int32) &&& 31).toUInt32).toInt32) &&& (3 : Int32)))]))
    by_cases hk2 : (((p5.toUInt32 >>> ((2 : Int32) &&& 31).toUInt32).toInt32) &&& (3 : Int32)) = (2 : Int32)
    · refine OGo.by_ (fun t k => XS.icmpNo X6.here hx rfl (hb hby at_77) rfl (teq hk2).2 k) ?_
      show OGo p e below _ (T6.setTop (mkF m 80 #[.val (.int p1), .val (.int p2), .val (.int p3), .val (.int p4), .val (.int p5), .val (.int cc), .val (.int dd), .val (.ref o1), .val (.int (((p5.toUInt32 >>> ((2 : Int32) &&& 31).toUInt32).toInt32) &&& (3 : Int32))), .unset, .unset] []))
      refine OGo.by_ (fun t k => XS.aload X6.here hx rfl (hb hby at_80) rfl rfl k) ?_
      show OGo p e below _ (T6.setTop (mkF m 82 #[.val (.int p1), .val (.int p2), .val (.int p3), .val (.int p4), .val (.int p5), .val (.int cc), .val (.int dd), .val (.ref o1), .val (.int (((p5.toUInt32 >>> ((2 : Int32) &&& 31).toUInt32).toInt32) &&& (3 : Int32))), .unset, .unset] [(.ref o1)]))
      refine OGo.by_ (fun t k => XS.iloadN X6.here hx rfl (hb hby at_82) rfl k) ?_
      show OGo p e below _ (T6.setTop (mkF m 83 #[.val (.int p1), .val (.int p2), .val (.int p3), .val (.int p4), .val (.int p5), .val (.int cc), .val (.int dd), .val (.ref o1), .val (.int (((p5.toUInt32 >>> ((2 : Int32) &&& 31).toUInt32).toInt32) &&& (3 : Int32))), .unset, .unset] [(.int p1), (.ref o1)]))
      obtain ⟨_, _, ⟨T9, L9, k9, n9⟩, -, X9, hS2, hg2, ⟨Lc9, hQ9, l9, y9, z9, HR2⟩, st9⟩ := callSS X6 hx (y := (⟨"com/example/shardwright/shardwright/kernel/config/DataNodeEqualsPinLaw", "mk", "(I)Ljava/lang/String;"⟩ : MethodName)) hown (mvT hZ (hw _ (List.mem_of_getElem? (i := 3) rfl))) (mvT hZ (hw _ (List.mem_of_getElem? (i := 4) rfl))) (mvT hZ (hw _ (List.mem_of_getElem? (i := 5) rfl))) (mvT hZ (hw _ (List.mem_of_getElem? (i := 6) rfl))) (by decide) (backOfSH (W := 1) (rm_mk l Z a0 hw [] p1 cs T6.heap n0 Z_4 SC_4 hcs) hZ (hw _ (List.mem_of_getElem? (i := 6) rfl)) (hw _ (List.mem_of_getElem? (i := 5) rfl)) (by decide) (by decide) (own_ew hw) HR.1) (g := (mkF m 83 #[.val (.int p1), .val (.int p2), .val (.int p3), .val (.int p4), .val (.int p5), .val (.int cc), .val (.int dd), .val (.ref o1), .val (.int (((p5.toUInt32 >>> ((2 : Int32) &&& 31).toUInt32).toInt32) &&& (3 : Int32))), .unset, .unset] [(.int p1), (.ref o1)])) rfl (by rw [hml]; rfl) (argsL := [(.int p1)]) (rest := [(.ref o1)]) (lenOf pd_oIcLjava_lang_String_ rfl) rfl (by show 2 * 0 + _ ≤ _; exact Nat.le_of_eq rfl) (hb hby at_83) (fun _ _ => ⟨rfl, rfl, (by decide : 13 + 6 ≤ _), (by decide : 32 + 15 ≤ _)⟩)
      dsimp only [Pt.U, Pt.locs, Pt.cells, Pt.slots] at X9 l9 y9 z9 st9 hQ9 hS2 hg2 HR2
      subst l9 y9 z9
      obtain ⟨rfl, Nq9, K9, b_s3, n_s3, Sn9⟩ := hQ9
      have N9 := Fr.app N6 Nq9
      obtain ⟨X9, hS, hZ, hown⟩ := rebS hS (show _ ≤ T6.heap.size by rw [show T6.heap = T6.heap from rfl]; exact hk) X9 hS2 hg2 hZ hown
      have hk := Nat.le_refl T9.heap.size
      have HR := HR.trans HR2
      refine OGo.by_ (fun t k => st9.trans k) ?_
      show OGo p e below _ (T9.setTop (mkF m 86 #[.val (.int p1), .val (.int p2), .val (.int p3), .val (.int p4), .val (.int p5), .val (.int cc), .val (.int dd), .val (.ref o1), .val (.int (((p5.toUInt32 >>> ((2 : Int32) &&& 31).toUInt32).toInt32) &&& (3 : Int32))), .unset, .unset] [(.ref T6.heap.size), (.ref o1)]))
      obtain ⟨s3, g_s3⟩ : ∃ q, q = T6.heap.size := ⟨_, rfl⟩
      rw [← g_s3] at Sn9
      rw [← g_s3]
      show OGo p e below _ (T9.setTop (mkF m 86 #[.val (.int p1), .val (.int p2), .val (.int p3), .val (.int p4), .val (.int p5), .val (.int cc), .val (.int dd), .val (.ref o1), .val (.int (((p5.toUInt32 >>> ((2 : Int32) &&& 31).toUInt32).toInt32) &&& (3 : Int32))), .unset, .unset] [(.ref s3), (.ref o1)]))
      have S_s1_5 := own_S_keep S_s1_4 K9 nin0 nin0
      have S_t1_5 := own_S_keep S_t1_4 K9 nin0 nin0
      have D_o1_5 := own_D_keep Dn6 K9 nin0
      have Z_5 := Nat.le_trans Z_4 K9.1
      have SC_5 := own_sta_keep SC_4 K9 (fun a h => nomatch h)
      have zk_s3 := K9.1
      have zl_s3 := own_lt (own_S_lt Sn9).1
      obtain ⟨cq11, kq11, qa11, qb11, qc11⟩ := isOf hZ rfl D_o1_5.1
      obtain ⟨_, _, ⟨T10, L10, k10, n10⟩, -, X10, ⟨Lc10, hQ10, l10, y10, z10⟩, st10⟩ := X9.virtualBack hx (y := (⟨"com/example/shardwright/shardwright/kernel/config/DataNode", "equals", "(Ljava/lang/Object;)Z"⟩ : MethodName)) (z := (⟨"com/example/shardwright/shardwright/kernel/config/DataNode", "equals", "(Ljava/lang/Object;)Z"⟩ : MethodName)) hown (mvT hZ (hw _ (List.mem_of_getElem? (i := 51) rfl))) (mvT hZ (hw _ (List.mem_of_getElem? (i := 52) rfl))) (notFace_of_selects (args := #[]) (mvT hZ (hw _ (List.mem_of_getElem? (i := 54) rfl)))) (mvT hZ (hw _ (List.mem_of_getElem? (i := 54) rfl))) (mvT hZ (hw _ (List.mem_of_getElem? (i := 53) rfl))) (by decide) (backOf (W := 0) (rm_dqs l Z a0 hw [] o1 s3 T9.heap n0 Z_5 Sn9.1) hZ (hw _ (List.mem_of_getElem? (i := 55) rfl)) (hw _ (List.mem_of_getElem? (i := 2) rfl)) (by decide) (by decide)) qa11 qc11 (g := (mkF m 86 #[.val (.int p1), .val (.int p2), .val (.int p3), .val (.int p4), .val (.int p5), .val (.int cc), .val (.int dd), .val (.ref o1), .val (.int (((p5.toUInt32 >>> ((2 : Int32) &&& 31).toUInt32).toInt32) &&& (3 : Int32))), .unset, .unset] [(.ref s3), (.ref o1)])) rfl (by rw [hml]; rfl) (Steps.refl _) (argsL := [(.ref s3)]) (rest := []) (lenOf pd_oLjava_lang_Object_cZ rfl) rfl (by show 2 * 0 + _ ≤ _; exact Nat.le_of_eq rfl) (hb hby at_86) (fun _ _ => ⟨rfl, rfl, (by decide : 19 + 0 ≤ _), (by decide : 47 + 0 ≤ _)⟩)
      dsimp only [Pt.U, Pt.locs, Pt.cells, Pt.slots] at X10 l10 y10 z10 st10 hQ10
      subst l10 y10 z10
      obtain ⟨rfl, Nq10, eq10⟩ := hQ10
      have N10 := Fr.app N9 Nq10
      refine OGo.by_ (fun t k => st10.trans k) ?_
      show OGo p e below _ (T10.setTop (mkF m 89 #[.val (.int p1), .val (.int p2), .val (.int p3), .val (.int p4), .val (.int p5), .val (.int cc), .val (.int dd), .val (.ref o1), .val (.int (((p5.toUInt32 >>> ((2 : Int32) &&& 31).toUInt32).toInt32) &&& (3 : Int32))), .unset, .unset] [(.int (0 : Int32))]))
      refine OGo.by_ (fun t k => XS.ifNo X10.here hx rfl (hb hby at_89) rfl ((if0 _ _).trans (teq rfl).2) k) ?_
      show OGo p e below _ (T10.setTop (mkF m 92 #[.val (.int p1), .val (.int p2), .val (.int p3), .val (.int p4), .val (.int p5), .val (.int cc), .val (.int dd), .val (.ref o1), .val (.int (((p5.toUInt32 >>> ((2 : Int32) &&& 31).toUInt32).toInt32) &&& (3 : Int32))), .unset, .unset] []))
      refine OGo.by_ (fun t k => XS.iconst X10.here hx rfl (hb hby at_92) k) ?_
      show OGo p e below _ (T10.setTop (mkF m 93 #[.val (.int p1), .val (.int p2), .val (.int p3), .val (.int p4), .val (.int p5), .val (.int cc), .val (.int dd), .val (.ref o1), .val (.int (((p5.toUInt32 >>> ((2 : Int32) &&& 31).toUInt32).toInt32) &&& (3 : Int32))), .unset, .unset] [(.int (1 : Int32))]))
      refine OGo.by_ (fun t k => XS.goto X10.here hx rfl (pc0 := 93) (pc' := 97) rfl (hb hby at_93) (by decide) (by decide) k) ?_
      show OGo p e below _ (T10.setTop (mkF m 97 #[.val (.int p1), .val (.int p2), .val (.int p3), .val (.int p4), .val (.int p5), .val (.int cc), .val (.int dd), .val (.ref o1), .val (.int (((p5.toUInt32 >>> ((2 : Int32) &&& 31).toUInt32).toInt32) &&& (3 : Int32))), .unset, .unset] [(.int (1 : Int32))]))
      exact own_wretN X10 hS (show _ ≤ T10.heap.size by rw [eq10]; exact hk) hx hlk (t := .boolean) hret (by simp) (hb hby at_97) (by decide) (by decide) (⟨rfl, N10⟩)
    · refine OGo.by_ (fun t k => XS.icmpYes X6.here hx rfl (pc0 := 77) (pc' := 98) rfl (hb hby at_77) rfl (feq hk2).2 (by decide) (by decide) k) ?_
      show OGo p e below _ (T6.setTop (mkF m 98 #[.val (.int p1), .val (.int p2), .val (.int p3), .val (.int p4), .val (.int p5), .val (.int cc), .val (.int dd), .val (.ref o1), .val (.int (((p5.toUInt32 >>> ((2 : Int32) &&& 31).toUInt32).toInt32) &&& (3 : Int32))), .unset, .unset] []))
      refine OGo.by_ (fun t k => XS.iload X6.here hx rfl (hb hby at_98) rfl k) ?_
      show OGo p e below _ (T6.setTop (mkF m 100 #[.val (.int p1), .val (.int p2), .val (.int p3), .val (.int p4), .val (.int p5), .val (.int cc), .val (.int dd), .val (.ref o1), .val (.int (((p5.toUInt32 >>> ((2 : Int32) &&& 31).toUInt32).toInt32) &&& (3 : Int32))), .unset, .unset] [(.int (((p5.toUInt32 >>> ((2 : Int32) &&& 31).toUInt32).toInt32) &&& (3 : Int32)))]))
      refine OGo.by_ (fun t k => XS.iconst X6.here hx rfl (hb hby at_100) k) ?_
      show OGo p e below _ (T6.setTop (mkF m 101 #[.val (.int p1), .val (.int p2), .val (.int p3), .val (.int p4), .val (.int p5), .val (.int cc), .val (.int dd), .val (.ref o1), .val (.int (((p5.toUInt32 >>> ((2 : Int32) &&& 31).toUInt32).toInt32) &&& (3 : Int32))), .unset, .unset] [(.int (3 : Int32)), (.int (((p5.toUInt32 >>> ((2 : Int32) &&& 31).toUInt32).toInt32) &&& (3 : Int32)))]))
      by_cases hk3 : (((p5.toUInt32 >>> ((2 : Int32) &&& 31).toUInt32).toInt32) &&& (3 : Int32)) = (3 : Int32)
      · refine OGo.by_ (fun t k => XS.icmpNo X6.here hx rfl (hb hby at_101) rfl (teq hk3).2 k) ?_
        show OGo p e below _ (T6.setTop (mkF m 104 #[.val (.int p1), .val (.int p2), .val (.int p3), .val (.int p4), .val (.int p5), .val (.int cc), .val (.int dd), .val (.ref o1), .val (.int (((p5.toUInt32 >>> ((2 : Int32) &&& 31).toUInt32).toInt32) &&& (3 : Int32))), .unset, .unset] []))
        refine OGo.by_ (fun t k => XS.aload X6.here hx rfl (hb hby at_104) rfl rfl k) ?_
        show OGo p e below _ (T6.setTop (mkF m 106 #[.val (.int p1), .val (.int p2), .val (.int p3), .val (.int p4), .val (.int p5), .val (.int cc), .val (.int dd), .val (.ref o1), .val (.int (((p5.toUInt32 >>> ((2 : Int32) &&& 31).toUInt32).toInt32) &&& (3 : Int32))), .unset, .unset] [(.ref o1)]))
        refine OGo.by_ (fun t k => XS.aload X6.here hx rfl (hb hby at_106) rfl rfl k) ?_
        show OGo p e below _ (T6.setTop (mkF m 108 #[.val (.int p1), .val (.int p2), .val (.int p3), .val (.int p4), .val (.int p5), .val (.int cc), .val (.int dd), .val (.ref o1), .val (.int (((p5.toUInt32 >>> ((2 : Int32) &&& 31).toUInt32).toInt32) &&& (3 : Int32))), .unset, .unset] [(.ref o1), (.ref o1)]))
        obtain ⟨cq13, kq13, qa13, qb13, qc13⟩ := isOf hZ rfl Dn6.1
        obtain ⟨_, _, ⟨T12, L12, k12, n12⟩, -, X12, ⟨Lc12, hQ12, l12, y12, z12⟩, st12⟩ := X6.virtualBack hx (y := (⟨"com/example/shardwright/shardwright/kernel/config/DataNode", "equals", "(Ljava/lang/Object;)Z"⟩ : MethodName)) (z := (⟨"com/example/shardwright/shardwright/kernel/config/DataNode", "equals", "(Ljava/lang/Object;)Z"⟩ : MethodName)) hown (mvT hZ (hw _ (List.mem_of_getElem? (i := 51) rfl))) (mvT hZ (hw _ (List.mem_of_getElem? (i := 52) rfl))) (notFace_of_selects (args := #[]) (mvT hZ (hw _ (List.mem_of_getElem? (i := 54) rfl)))) (mvT hZ (hw _ (List.mem_of_getElem? (i := 54) rfl))) (mvT hZ (hw _ (List.mem_of_getElem? (i := 53) rfl))) (by decide) (backOf (W := 0) (rm_dqe l Z a0 hw [] o1 s1 t1 T6.heap n0 Z_4 Dn6 S_s1_4.1 S_t1_4.1) hZ (hw _ (List.mem_of_getElem? (i := 55) rfl)) (hw _ (List.mem_of_getElem? (i := 2) rfl)) (by decide) (by decide)) qa13 qc13 (g := (mkF m 108 #[.val (.int p1), .val (.int p2), .val (.int p3), .val (.int p4), .val (.int p5), .val (.int cc), .val (.int dd), .val (.ref o1), .val (.int (((p5.toUInt32 >>> ((2 : Int32) &&& 31).toUInt32).toInt32) &&& (3 : Int32))), .unset, .unset] [(.ref o1), (.ref o1)])) rfl (by rw [hml]; rfl) (Steps.refl _) (argsL := [(.ref o1)]) (rest := []) (lenOf pd_oLjava_lang_Object_cZ rfl) rfl (by show 2 * 0 + _ ≤ _; exact Nat.le_of_eq rfl) (hb hby at_108) (fun _ _ => ⟨rfl, rfl, (by decide : 13 + 0 ≤ _), (by decide : 32 + 0 ≤ _)⟩)
        dsimp only [Pt.U, Pt.locs, Pt.cells, Pt.slots] at X12 l12 y12 z12 st12 hQ12
        subst l12 y12 z12
        obtain ⟨rfl, Nq12, eq12⟩ := hQ12
        have N12 := Fr.app N6 Nq12
        refine OGo.by_ (fun t k => st12.trans k) ?_
        show OGo p e below _ (T12.setTop (mkF m 111 #[.val (.int p1), .val (.int p2), .val (.int p3), .val (.int p4), .val (.int p5), .val (.int cc), .val (.int dd), .val (.ref o1), .val (.int (((p5.toUInt32 >>> ((2 : Int32) &&& 31).toUInt32).toInt32) &&& (3 : Int32))), .unset, .unset] [(.int (1 : Int32))]))
        exact own_wretN X12 hS (show _ ≤ T12.heap.size by rw [eq12]; exact hk) hx hlk (t := .boolean) hret (by simp) (hb hby at_111) (by decide) (by decide) (⟨rfl, N12⟩)
      · refine OGo.by_ (fun t k => XS.icmpYes X6.here hx rfl (pc0 := 101) (pc' := 112) rfl (hb hby at_101) rfl (feq hk3).2 (by decide) (by decide) k) ?_
        show OGo p e below _ (T6.setTop (mkF m 112 #[.val (.int p1), .val (.int p2), .val (.int p3), .val (.int p4), .val (.int p5), .val (.int cc), .val (.int dd), .val (.ref o1), .val (.int (((p5.toUInt32 >>> ((2 : Int32) &&& 31).toUInt32).toInt32) &&& (3 : Int32))), .unset, .unset] []))
        obtain ⟨T14, h14, X14, e14, E14, A14, Dv14, -, st14⟩ := newO X6 hx hZ hown (hw _ (List.mem_of_getElem? (i := 0) rfl)) (hw _ (List.mem_of_getElem? (i := 1) rfl)) (hw _ (List.mem_of_getElem? (i := 2) rfl)) rfl (g := (mkF m 112 #[.val (.int p1), .val (.int p2), .val (.int p3), .val (.int p4), .val (.int p5), .val (.int cc), .val (.int dd), .val (.ref o1), .val (.int (((p5.toUInt32 >>> ((2 : Int32) &&& 31).toUInt32).toInt32) &&& (3 : Int32))), .unset, .unset] [])) rfl (hb hby at_112) (by decide) (by decide)
        obtain ⟨o2, g_o2⟩ : ∃ z, z = T6.heap.size := ⟨_, rfl⟩
        rw [← g_o2] at A14 Dv14 st14
        have A_o2 := A14
        have lt_o2 := own_lt A14.lt
        have F_dataSource_o2 : Fld Z h14 o2 "com/example/shardwright/shardwright/kernel/config/DataNode" "dataSource" "Ljava/lang/String;" .null := Dv14 (Or.inr (hw _ (List.mem_of_getElem? (i := 45) rfl))) (ty := (.object "java/lang/String")) (by decide)
        have F_table_o2 : Fld Z h14 o2 "com/example/shardwright/shardwright/kernel/config/DataNode" "table" "Ljava/lang/String;" .null := Dv14 (Or.inr (hw _ (List.mem_of_getElem? (i := 47) rfl))) (ty := (.object "java/lang/String")) (by decide)
        have hk := Nat.le_trans hk E14.1
        have HR := HR.trans (CHr.ext E14 HR.1)
        refine OGo.by_ st14 ?_
        show OGo p e below _ (T14.setTop (mkF m 115 #[.val (.int p1), .val (.int p2), .val (.int p3), .val (.int p4), .val (.int p5), .val (.int cc), .val (.int dd), .val (.ref o1), .val (.int (((p5.toUInt32 >>> ((2 : Int32) &&& 31).toUInt32).toInt32) &&& (3 : Int32))), .unset, .unset] [(.ref o2)]))
        have S_s1_5 := own_S_ext S_s1_4 E14
        have S_t1_5 := own_S_ext S_t1_4 E14
        have D_o1_5 := own_D_keep Dn6 (own_ext_keep E14) nin0
        have Z_5 := Nat.le_trans Z_4 E14.1
        have SC_5 := Sta.ext E14 SC_4
        have ze_o2 := E14.1
        have gn_o2 : n0 ≤ o2 := by omega
        have hoo : o1 ≠ o2 := own_ne (by omega)
        refine OGo.by_ (fun t k => XS.dup X14.here hx rfl (hb hby at_115) rfl rfl k) ?_
        show OGo p e below _ (T14.setTop (mkF m 116 #[.val (.int p1), .val (.int p2), .val (.int p3), .val (.int p4), .val (.int p5), .val (.int cc), .val (.int dd), .val (.ref o1), .val (.int (((p5.toUInt32 >>> ((2 : Int32) &&& 31).toUInt32).toInt32) &&& (3 : Int32))), .unset, .unset] [(.ref o2), (.ref o2)]))
        refine OGo.by_ (fun t k => XS.iload X14.here hx rfl (hb hby at_116) rfl k) ?_
        show OGo p e below _ (T14.setTop (mkF m 118 #[.val (.int p1), .val (.int p2), .val (.int p3), .val (.int p4), .val (.int p5), .val (.int cc), .val (.int dd), .val (.ref o1), .val (.int (((p5.toUInt32 >>> ((2 : Int32) &&& 31).toUInt32).toInt32) &&& (3 : Int32))), .unset, .unset] [(.int cc), (.ref o2), (.ref o2)]))
        obtain ⟨_, _, ⟨T15, L15, k15, n15⟩, -, X15, hS2, hg2, ⟨Lc15, hQ15, l15, y15, z15, HR2⟩, st15⟩ := callSS X14 hx (y := (⟨"com/example/shardwright/shardwright/kernel/config/DataNodeEqualsPinLaw", "mk", "(I)Ljava/lang/String;"⟩ : MethodName)) hown (mvT hZ (hw _ (List.mem_of_getElem? (i := 3) rfl))) (mvT hZ (hw _ (List.mem_of_getElem? (i := 4) rfl))) (mvT hZ (hw _ (List.mem_of_getElem? (i := 5) rfl))) (mvT hZ (hw _ (List.mem_of_getElem? (i := 6) rfl))) (by decide) (backOfSH (W := 2) (rm_mk l Z a0 hw [] cc cs h14 n0 Z_5 SC_5 hcs) hZ (hw _ (List.mem_of_getElem? (i := 6) rfl)) (hw _ (List.mem_of_getElem? (i := 5) rfl)) (by decide) (by decide) (own_ew hw) HR.1) (g := (mkF m 118 #[.val (.int p1), .val (.int p2), .val (.int p3), .val (.int p4), .val (.int p5), .val (.int cc), .val (.int dd), .val (.ref o1), .val (.int (((p5.toUInt32 >>> ((2 : Int32) &&& 31).toUInt32).toInt32) &&& (3 : Int32))), .unset, .unset] [(.int cc), (.ref o2), (.ref o2)])) rfl (by rw [hml]; rfl) (argsL := [(.int cc)]) (rest := [(.ref o2), (.ref o2)]) (lenOf pd_oIcLjava_lang_String_ rfl) rfl (by show 2 * 0 + _ ≤ _; exact Nat.le_of_eq rfl) (hb hby at_118) (fun _ _ => ⟨rfl, e14, (by decide : 14 + 6 ≤ _), (by decide : 34 + 15 ≤ _)⟩)
        dsimp only [Pt.U, Pt.locs, Pt.cells, Pt.slots] at X15 l15 y15 z15 st15 hQ15 hS2 hg2 HR2
        subst l15 y15 z15
        obtain ⟨rfl, Nq15, K15, b_s2, n_s2, Sn15⟩ := hQ15
        have N15 := Fr.app N6 Nq15
        obtain ⟨X15, hS, hZ, hown⟩ := rebS hS (show _ ≤ T14.heap.size by rw [e14]; exact hk) X15 hS2 hg2 hZ hown
        have hk := Nat.le_refl T15.heap.size
        have HR := HR.trans HR2
        refine OGo.by_ (fun t k => st15.trans k) ?_
        show OGo p e below _ (T15.setTop (mkF m 121 #[.val (.int p1), .val (.int p2), .val (.int p3), .val (.int p4), .val (.int p5), .val (.int cc), .val (.int dd), .val (.ref o1), .val (.int (((p5.toUInt32 >>> ((2 : Int32) &&& 31).toUInt32).toInt32) &&& (3 : Int32))), .unset, .unset] [(.ref h14.size), (.ref o2), (.ref o2)]))
        obtain ⟨s2, g_s2⟩ : ∃ q, q = h14.size := ⟨_, rfl⟩
        rw [← g_s2] at Sn15
        rw [← g_s2]
        show OGo p e below _ (T15.setTop (mkF m 121 #[.val (.int p1), .val (.int p2), .val (.int p3), .val (.int p4), .val (.int p5), .val (.int cc), .val (.int dd), .val (.ref o1), .val (.int (((p5.toUInt32 >>> ((2 : Int32) &&& 31).toUInt32).toInt32) &&& (3 : Int32))), .unset, .unset] [(.ref s2), (.ref o2), (.ref o2)]))
        have S_s1_6 := own_S_keep S_s1_5 K15 nin0 nin0
        have S_t1_6 := own_S_keep S_t1_5 K15 nin0 nin0
        have D_o1_6 := own_D_keep D_o1_5 K15 nin0
        have Z_6 := Nat.le_trans Z_5 K15.1
        have SC_6 := own_sta_keep SC_5 K15 (fun a h => nomatch h)
        have zk_s2 := K15.1
        have zl_s2 := own_lt (own_S_lt Sn15).1
        have En_6 := A_o2.keep K15
        have F0n_6 := F_dataSource_o2.keep K15 nin0
        have F1n_6 := F_table_o2.keep K15 nin0
        refine OGo.by_ (fun t k => XS.iload X15.here hx rfl (hb hby at_121) rfl k) ?_
        show OGo p e below _ (T15.setTop (mkF m 123 #[.val (.int p1), .val (.int p2), .val (.int p3), .val (.int p4), .val (.int p5), .val (.int cc), .val (.int dd), .val (.ref o1), .val (.int (((p5.toUInt32 >>> ((2 : Int32) &&& 31).toUInt32).toInt32) &&& (3 : Int32))), .unset, .unset] [(.int dd), (.ref s2), (.ref o2), (.ref o2)]))
        obtain ⟨_, _, ⟨T16, L16, k16, n16⟩, -, X16, hS2, hg2, ⟨Lc16, hQ16, l16, y16, z16, HR2⟩, st16⟩ := callSS X15 hx (y := (⟨"com/example/shardwright/shardwright/kernel/config/DataNodeEqualsPinLaw", "mk", "(I)Ljava/lang/String;"⟩ : MethodName)) hown (mvT hZ (hw _ (List.mem_of_getElem? (i := 3) rfl))) (mvT hZ (hw _ (List.mem_of_getElem? (i := 4) rfl))) (mvT hZ (hw _ (List.mem_of_getElem? (i := 5) rfl))) (mvT hZ (hw _ (List.mem_of_getElem? (i := 6) rfl))) (by decide) (backOfSH (W := 3) (rm_mk l Z a0 hw [] dd cs T15.heap n0 Z_6 SC_6 hcs) hZ (hw _ (List.mem_of_getElem? (i := 6) rfl)) (hw _ (List.mem_of_getElem? (i := 5) rfl)) (by decide) (by decide) (own_ew hw) HR.1) (g := (mkF m 123 #[.val (.int p1), .val (.int p2), .val (.int p3), .val (.int p4), .val (.int p5), .val (.int cc), .val (.int dd), .val (.ref o1), .val (.int (((p5.toUInt32 >>> ((2 : Int32) &&& 31).toUInt32).toInt32) &&& (3 : Int32))), .unset, .unset] [(.int dd), (.ref s2), (.ref o2), (.ref o2)])) rfl (by rw [hml]; rfl) (argsL := [(.int dd)]) (rest := [(.ref s2), (.ref o2), (.ref o2)]) (lenOf pd_oIcLjava_lang_String_ rfl) rfl (by show 2 * 0 + _ ≤ _; exact Nat.le_of_eq rfl) (hb hby at_123) (fun _ _ => ⟨rfl, rfl, (by decide : 20 + 6 ≤ _), (by decide : 49 + 15 ≤ _)⟩)
        dsimp only [Pt.U, Pt.locs, Pt.cells, Pt.slots] at X16 l16 y16 z16 st16 hQ16 hS2 hg2 HR2
        subst l16 y16 z16
        obtain ⟨rfl, Nq16, K16, b_t2, n_t2, Sn16⟩ := hQ16
        have N16 := Fr.app N15 Nq16
        obtain ⟨X16, hS, hZ, hown⟩ := rebS hS (show _ ≤ T15.heap.size by rw [show T15.heap = T15.heap from rfl]; exact hk) X16 hS2 hg2 hZ hown
        have hk := Nat.le_refl T16.heap.size
        have HR := HR.trans HR2
        refine OGo.by_ (fun t k => st16.trans k) ?_
        show OGo p e below _ (T16.setTop (mkF m 126 #[.val (.int p1), .val (.int p2), .val (.int p3), .val (.int p4), .val (.int p5), .val (.int cc), .val (.int dd), .val (.ref o1), .val (.int (((p5.toUInt32 >>> ((2 : Int32) &&& 31).toUInt32).toInt32) &&& (3 : Int32))), .unset, .unset] [(.ref T15.heap.size), (.ref s2), (.ref o2), (.ref o2)]))
        obtain ⟨t2, g_t2⟩ : ∃ q, q = T15.heap.size := ⟨_, rfl⟩
        rw [← g_t2] at Sn16
        rw [← g_t2]
        show OGo p e below _ (T16.setTop (mkF m 126 #[.val (.int p1), .val (.int p2), .val (.int p3), .val (.int p4), .val (.int p5), .val (.int cc), .val (.int dd), .val (.ref o1), .val (.int (((p5.toUInt32 >>> ((2 : Int32) &&& 31).toUInt32).toInt32) &&& (3 : Int32))), .unset, .unset] [(.ref t2), (.ref s2), (.ref o2), (.ref o2)]))
        have S_s1_7 := own_S_keep S_s1_6 K16 nin0 nin0
        have S_t1_7 := own_S_keep S_t1_6 K16 nin0 nin0
        have S_s2_7 := own_S_keep Sn15 K16 nin0 nin0
        have D_o1_7 := own_D_keep D_o1_6 K16 nin0
        have Z_7 := Nat.le_trans Z_6 K16.1
        have SC_7 := own_sta_keep SC_6 K16 (fun a h => nomatch h)
        have zk_t2 := K16.1
        have zl_t2 := own_lt (own_S_lt Sn16).1
        have En_7 := En_6.keep K16
        have F0n_7 := F0n_6.keep K16 nin0
        have F1n_7 := F1n_6.keep K16 nin0
        obtain ⟨_, _, ⟨T17, L17, k17, n17⟩, -, X17, ⟨Lc17, hQ17, l17, y17, z17⟩, st17⟩ := X16.specialBack hx (y := (⟨"com/example/shardwright/shardwright/kernel/config/DataNode", "<init>", "(Ljava/lang/String;Ljava/lang/String;)V"⟩ : MethodName)) rfl hown (mvT hZ (hw _ (List.mem_of_getElem? (i := 40) rfl))) (mvT hZ (hw _ (List.mem_of_getElem? (i := 41) rfl))) (mvT hZ (hw _ (List.mem_of_getElem? (i := 42) rfl))) (by decide) (backOf (W := 1) (rm_din l Z a0 hw [] o2 s2 t2 T16.heap n0 Z_7 En_7 F0n_7 F1n_7 gn_o2) hZ (hw _ (List.mem_of_getElem? (i := 42) rfl)) (hw _ (List.mem_of_getElem? (i := 2) rfl)) (by decide) (by decide)) (g := (mkF m 126 #[.val (.int p1), .val (.int p2), .val (.int p3), .val (.int p4), .val (.int p5), .val (.int cc), .val (.int dd), .val (.ref o1), .val (.int (((p5.toUInt32 >>> ((2 : Int32) &&& 31).toUInt32).toInt32) &&& (3 : Int32))), .unset, .unset] [(.ref t2), (.ref s2), (.ref o2), (.ref o2)])) rfl (by rw [hml]; rfl) (Steps.refl _) (a := o2) (argsL := [(.ref s2), (.ref t2)]) (rest := [(.ref o2)]) (lenOf pd_oLjava_lang_String_Ljava_lang_String_cV rfl) rfl (by show 2 * 0 + _ ≤ _; exact Nat.le_of_eq rfl) (hb hby at_126) (fun _ _ => ⟨rfl, rfl, (by decide : 26 + 0 ≤ _), (by decide : 64 + 0 ≤ _)⟩)
        dsimp only [Pt.U, Pt.locs, Pt.cells, Pt.slots] at X17 l17 y17 z17 st17 hQ17
        subst l17 y17 z17
        obtain ⟨rfl, Nq17, K17, Dn17⟩ := hQ17
        have N17 := Fr.app N16 Nq17
        refine OGo.by_ (fun t k => st17.trans k) ?_
        show OGo p e below _ (T17.setTop (mkF m 129 #[.val (.int p1), .val (.int p2), .val (.int p3), .val (.int p4), .val (.int p5), .val (.int cc), .val (.int dd), .val (.ref o1), .val (.int (((p5.toUInt32 >>> ((2 : Int32) &&& 31).toUInt32).toInt32) &&& (3 : Int32))), .unset, .unset] [(.ref o2)]))
        have hk := Nat.le_trans hk K17.1
        have HR := HR.trans (CHr.keep K17 (allS (Safe.exa (EL := own_EL) hZ.alike En_7 (by decide) (by decide)) all0) HR.1)
        have S_s1_8 := own_S_node (hw _ (List.mem_of_getElem? (i := 1) rfl)) S_s1_7 En_7 K17
        have S_t1_8 := own_S_node (hw _ (List.mem_of_getElem? (i := 1) rfl)) S_t1_7 En_7 K17
        have S_s2_8 := own_S_node (hw _ (List.mem_of_getElem? (i := 1) rfl)) S_s2_7 En_7 K17
        have S_t2_8 := own_S_node (hw _ (List.mem_of_getElem? (i := 1) rfl)) Sn16 En_7 K17
        have D_o1_8 := own_D_keep D_o1_7 K17 (own_nin1 hoo)
        have Z_8 := Nat.le_trans Z_7 K17.1
        have SC_8 := own_sta_keep SC_7 K17 (own_exa_plain En_7)
        have zi_o2 := K17.1
        have hs12 : ¬ s1 = s2 := own_ne (by omega)
        have ht12 : ¬ t1 = t2 := own_ne (by omega)
        refine OGo.by_ (fun t k => XS.astore X17.here hx rfl (hb hby at_129) rfl rfl (l' := #[.val (.int p1), .val (.int p2), .val (.int p3), .val (.int p4), .val (.int p5), .val (.int cc), .val (.int dd), .val (.ref o1), .val (.int (((p5.toUInt32 >>> ((2 : Int32) &&& 31).toUInt32).toInt32) &&& (3 : Int32))), .val (.ref o2), .unset]) rfl k) ?_
        show OGo p e below _ (T17.setTop (mkF m 131 #[.val (.int p1), .val (.int p2), .val (.int p3), .val (.int p4), .val (.int p5), .val (.int cc), .val (.int dd), .val (.ref o1), .val (.int (((p5.toUInt32 >>> ((2 : Int32) &&& 31).toUInt32).toInt32) &&& (3 : Int32))), .val (.ref o2), .unset] []))
        refine OGo.by_ (fun t k => XS.iloadN X17.here hx rfl (hb hby at_131) rfl k) ?_
        show OGo p e below _ (T17.setTop (mkF m 132 #[.val (.int p1), .val (.int p2), .val (.int p3), .val (.int p4), .val (.int p5), .val (.int cc), .val (.int dd), .val (.ref o1), .val (.int (((p5.toUInt32 >>> ((2 : Int32) &&& 31).toUInt32).toInt32) &&& (3 : Int32))), .val (.ref o2), .unset] [(.int p1)]))
        refine OGo.by_ (fun t k => XS.iload X17.here hx rfl (hb hby at_132) rfl k) ?_
        show OGo p e below _ (T17.setTop (mkF m 134 #[.val (.int p1), .val (.int p2), .val (.int p3), .val (.int p4), .val (.int p5), .val (.int cc), .val (.int dd), .val (.ref o1), .val (.int (((p5.toUInt32 >>> ((2 : Int32) &&& 31).toUInt32).toInt32) &&& (3 : Int32))), .val (.ref o2), .unset] [(.int cc), (.int p1)]))
        obtain ⟨_, _, ⟨T18, L18, k18, n18⟩, -, X18, ⟨Lc18, hQ18, l18, y18, z18⟩, st18⟩ := Jvm.LawKit.callS X17 hx (y := (⟨"com/example/shardwright/shardwright/kernel/config/DataNodeEqualsPinLaw", "same", "(II)Z"⟩ : MethodName)) hown (mvT hZ (hw _ (List.mem_of_getElem? (i := 48) rfl))) (mvT hZ (hw _ (List.mem_of_getElem? (i := 49) rfl))) (mvT hZ (hw _ (List.mem_of_getElem? (i := 5) rfl))) (mvT hZ (hw _ (List.mem_of_getElem? (i := 50) rfl))) (by decide) (backOf (W := 0) (rm_sam l Z a0 hw [] p1 cc T17.heap n0 Z_8) hZ (hw _ (List.mem_of_getElem? (i := 50) rfl)) (hw _ (List.mem_of_getElem? (i := 5) rfl)) (by decide) (by decide)) (g := (mkF m 134 #[.val (.int p1), .val (.int p2), .val (.int p3), .val (.int p4), .val (.int p5), .val (.int cc), .val (.int dd), .val (.ref o1), .val (.int (((p5.toUInt32 >>> ((2 : Int32) &&& 31).toUInt32).toInt32) &&& (3 : Int32))), .val (.ref o2), .unset] [(.int cc), (.int p1)])) rfl (by rw [hml]; rfl) (argsL := [(.int p1), (.int cc)]) (rest := []) (lenOf pd_oIIcZ rfl) rfl (by show 2 * 0 + _ ≤ _; exact Nat.le_of_eq rfl) (hb hby at_134) (fun _ _ => ⟨rfl, rfl, (by decide : 26 + 0 ≤ _), (by decide : 64 + 0 ≤ _)⟩)
        dsimp only [Pt.U, Pt.locs, Pt.cells, Pt.slots] at X18 l18 y18 z18 st18 hQ18
        subst l18 y18 z18
        obtain ⟨rfl, Nq18, eq18⟩ := hQ18
        have N18 := Fr.app N17 Nq18
        refine OGo.by_ st18 ?_
        show OGo p e below _ (T18.setTop (mkF m 137 #[.val (.int p1), .val (.int p2), .val (.int p3), .val (.int p4), .val (.int p5), .val (.int cc), .val (.int dd), .val (.ref o1), .val (.int (((p5.toUInt32 >>> ((2 : Int32) &&& 31).toUInt32).toInt32) &&& (3 : Int32))), .val (.ref o2), .unset] [(.int (if own_xs p1 = own_xs cc then (1 : Int32) else (0 : Int32)))]))
        by_cases he1 : (if own_xs p1 = own_xs cc then (1 : Int32) else (0 : Int32)) = (0 : Int32)
        · refine OGo.by_ (fun t k => XS.ifYes X18.here hx rfl (pc0 := 137) (pc' := 153) rfl (hb hby at_137) rfl ((if0 _ _).trans (teq he1).1) (by decide) (by decide) k) ?_
          show OGo p e below _ (T18.setTop (mkF m 153 #[.val (.int p1), .val (.int p2), .val (.int p3), .val (.int p4), .val (.int p5), .val (.int cc), .val (.int dd), .val (.ref o1), .val (.int (((p5.toUInt32 >>> ((2 : Int32) &&& 31).toUInt32).toInt32) &&& (3 : Int32))), .val (.ref o2), .unset] []))
          refine OGo.by_ (fun t k => XS.iconst X18.here hx rfl (hb hby at_153) k) ?_
          show OGo p e below _ (T18.setTop (mkF m 154 #[.val (.int p1), .val (.int p2), .val (.int p3), .val (.int p4), .val (.int p5), .val (.int cc), .val (.int dd), .val (.ref o1), .val (.int (((p5.toUInt32 >>> ((2 : Int32) &&& 31).toUInt32).toInt32) &&& (3 : Int32))), .val (.ref o2), .unset] [(.int (0 : Int32))]))
          have hpf : ¬ (own_xs p1 = own_xs cc ∧ own_xs p2 = own_xs dd) := (fun q => own_if0 he1 q.1)
          have hpf' : ¬ (own_xs cc = own_xs p1 ∧ own_xs dd = own_xs p2) := fun q => hpf ⟨q.1.symm, q.2.symm⟩
          refine OGo.by_ (fun t k => XS.istore X18.here hx rfl (hb hby at_154) rfl (l' := #[.val (.int p1), .val (.int p2), .val (.int p3), .val (.int p4), .val (.int p5), .val (.int cc), .val (.int dd), .val (.ref o1), .val (.int (((p5.toUInt32 >>> ((2 : Int32) &&& 31).toUInt32).toInt32) &&& (3 : Int32))), .val (.ref o2), .val (.int (0 : Int32))]) rfl k) ?_
          show OGo p e below _ (T18.setTop (mkF m 156 #[.val (.int p1), .val (.int p2), .val (.int p3), .val (.int p4), .val (.int p5), .val (.int cc), .val (.int dd), .val (.ref o1), .val (.int (((p5.toUInt32 >>> ((2 : Int32) &&& 31).toUInt32).toInt32) &&& (3 : Int32))), .val (.ref o2), .val (.int (0 : Int32))] []))
          refine OGo.by_ (fun t k => XS.aload X18.here hx rfl (hb hby at_156) rfl rfl k) ?_
          show OGo p e below _ (T18.setTop (mkF m 158 #[.val (.int p1), .val (.int p2), .val (.int p3), .val (.int p4), .val (.int p5), .val (.int cc), .val (.int dd), .val (.ref o1), .val (.int (((p5.toUInt32 >>> ((2 : Int32) &&& 31).toUInt32).toInt32) &&& (3 : Int32))), .val (.ref o2), .val (.int (0 : Int32))] [(.ref o1)]))
          refine OGo.by_ (fun t k => XS.aload X18.here hx rfl (hb hby at_158) rfl rfl k) ?_
          show OGo p e below _ (T18.setTop (mkF m 160 #[.val (.int p1), .val (.int p2), .val (.int p3), .val (.int p4), .val (.int p5), .val (.int cc), .val (.int dd), .val (.ref o1), .val (.int (((p5.toUInt32 >>> ((2 : Int32) &&& 31).toUInt32).toInt32) &&& (3 : Int32))), .val (.ref o2), .val (.int (0 : Int32))] [(.ref o2), (.ref o1)]))
          obtain ⟨cq20, kq20, qa20, qb20, qc20⟩ := isOf hZ eq18 D_o1_8.1
          obtain ⟨_, _, ⟨T19, L19, k19, n19⟩, -, X19, ⟨Lc19, hQ19, l19, y19, z19⟩, st19⟩ := X18.virtualBack hx (y := (⟨"com/example/shardwright/shardwright/kernel/config/DataNode", "equals", "(Ljava/lang/Object;)Z"⟩ : MethodName)) (z := (⟨"com/example/shardwright/shardwright/kernel/config/DataNode", "equals", "(Ljava/lang/Object;)Z"⟩ : MethodName)) hown (mvT hZ (hw _ (List.mem_of_getElem? (i := 51) rfl))) (mvT hZ (hw _ (List.mem_of_getElem? (i := 52) rfl))) (notFace_of_selects (args := #[]) (mvT hZ (hw _ (List.mem_of_getElem? (i := 54) rfl)))) (mvT hZ (hw _ (List.mem_of_getElem? (i := 54) rfl))) (mvT hZ (hw _ (List.mem_of_getElem? (i := 53) rfl))) (by decide) (backOf (W := 0) (rm_dqd l Z a0 hw [] o1 o2 s1 t1 s2 t2 b_s1 b_s2 b_t1 b_t2 n_s1 n_s2 n_t1 n_t2 cs (own_xs p1) (own_xs cc) (own_xs p2) (own_xs dd) T17.heap n0 Z_8 SC_8 hcs D_o1_8 Dn17 S_s1_8 S_s2_8 S_t1_8 S_t2_8 hs12 ht12) hZ (hw _ (List.mem_of_getElem? (i := 55) rfl)) (hw _ (List.mem_of_getElem? (i := 2) rfl)) (by decide) (by decide)) qa20 qc20 (g := (mkF m 160 #[.val (.int p1), .val (.int p2), .val (.int p3), .val (.int p4), .val (.int p5), .val (.int cc), .val (.int dd), .val (.ref o1), .val (.int (((p5.toUInt32 >>> ((2 : Int32) &&& 31).toUInt32).toInt32) &&& (3 : Int32))), .val (.ref o2), .val (.int (0 : Int32))] [(.ref o2), (.ref o1)])) rfl (by rw [hml]; rfl) (Steps.refl _) (argsL := [(.ref o2)]) (rest := []) (lenOf pd_oLjava_lang_Object_cZ rfl) rfl (by show 2 * 0 + _ ≤ _; exact Nat.le_of_eq rfl) (hb hby at_160) (fun _ _ => ⟨rfl, eq18, (by decide : 26 + 0 ≤ _), (by decide : 64 + 0 ≤ _)⟩)
          dsimp only [Pt.U, Pt.locs, Pt.cells, Pt.slots] at X19 l19 y19 z19 st19 hQ19
          subst l19 y19 z19
          obtain ⟨rfl, Nq19, eq19⟩ := hQ19
          have N19 := Fr.app N18 Nq19
          refine OGo.by_ (fun t k => st19.trans k) ?_
          show OGo p e below _ (T19.setTop (mkF m 163 #[.val (.int p1), .val (.int p2), .val (.int p3), .val (.int p4), .val (.int p5), .val (.int cc), .val (.int dd), .val (.ref o1), .val (.int (((p5.toUInt32 >>> ((2 : Int32) &&& 31).toUInt32).toInt32) &&& (3 : Int32))), .val (.ref o2), .val (.int (0 : Int32))] [(.int (if own_xs p1 = own_xs cc ∧ own_xs p2 = own_xs dd then (1 : Int32) else (0 : Int32)))]))
          refine OGo.by_ (fun t k => XS.iload X19.here hx rfl (hb hby at_163) rfl k) ?_
          show OGo p e below _ (T19.setTop (mkF m 165 #[.val (.int p1), .val (.int p2), .val (.int p3), .val (.int p4), .val (.int p5), .val (.int cc), .val (.int dd), .val (.ref o1), .val (.int (((p5.toUInt32 >>> ((2 : Int32) &&& 31).toUInt32).toInt32) &&& (3 : Int32))), .val (.ref o2), .val (.int (0 : Int32))] [(.int (0 : Int32)), (.int (if own_xs p1 = own_xs cc ∧ own_xs p2 = own_xs dd then (1 : Int32) else (0 : Int32)))]))
          refine OGo.by_ (fun t k => XS.icmpNo X19.here hx rfl (hb hby at_165) rfl (teq (if_neg hpf)).2 k) ?_
          show OGo p e below _ (T19.setTop (mkF m 168 #[.val (.int p1), .val (.int p2), .val (.int p3), .val (.int p4), .val (.int p5), .val (.int cc), .val (.int dd), .val (.ref o1), .val (.int (((p5.toUInt32 >>> ((2 : Int32) &&& 31).toUInt32).toInt32) &&& (3 : Int32))), .val (.ref o2), .val (.int (0 : Int32))] []))
          refine OGo.by_ (fun t k => XS.aload X19.here hx rfl (hb hby at_168) rfl rfl k) ?_
          show OGo p e below _ (T19.setTop (mkF m 170 #[.val (.int p1), .val (.int p2), .val (.int p3), .val (.int p4), .val (.int p5), .val (.int cc), .val (.int dd), .val (.ref o1), .val (.int (((p5.toUInt32 >>> ((2 : Int32) &&& 31).toUInt32).toInt32) &&& (3 : Int32))), .val (.ref o2), .val (.int (0 : Int32))] [(.ref o2)]))
          refine OGo.by_ (fun t k => XS.aload X19.here hx rfl (hb hby at_170) rfl rfl k) ?_
          show OGo p e below _ (T19.setTop (mkF m 172 #[.val (.int p1), .val (.int p2), .val (.int p3), .val (.int p4), .val (.int p5), .val (.int cc), .val (.int dd), .val (.ref o1), .val (.int (((p5.toUInt32 >>> ((2 : Int32) &&& 31).toUInt32).toInt32) &&& (3 : Int32))), .val (.ref o2), .val (.int (0 : Int32))] [(.ref o1), (.ref o2)]))
          obtain ⟨cq22, kq22, qa22, qb22, qc22⟩ := isOf hZ eq19 Dn17.1
          obtain ⟨_, _, ⟨T21, L21, k21, n21⟩, -, X21, ⟨Lc21, hQ21, l21, y21, z21⟩, st21⟩ := X19.virtualBack hx (y := (⟨"com/example/shardwright/shardwright/kernel/config/DataNode", "equals", "(Ljava/lang/Object;)Z"⟩ : MethodName)) (z := (⟨"com/example/shardwright/shardwright/kernel/config/DataNode", "equals", "(Ljava/lang/Object;)Z"⟩ : MethodName)) hown (mvT hZ (hw _ (List.mem_of_getElem? (i := 51) rfl))) (mvT hZ (hw _ (List.mem_of_getElem? (i := 52) rfl))) (notFace_of_selects (args := #[]) (mvT hZ (hw _ (List.mem_of_getElem? (i := 54) rfl)))) (mvT hZ (hw _ (List.mem_of_getElem? (i := 54) rfl))) (mvT hZ (hw _ (List.mem_of_getElem? (i := 53) rfl))) (by decide) (backOf (W := 0) (rm_dqd l Z a0 hw [] o2 o1 s2 t2 s1 t1 b_s2 b_s1 b_t2 b_t1 n_s2 n_s1 n_t2 n_t1 cs (own_xs cc) (own_xs p1) (own_xs dd) (own_xs p2) T17.heap n0 Z_8 SC_8 hcs Dn17 D_o1_8 S_s2_8 S_s1_8 S_t2_8 S_t1_8 (Ne.symm hs12) (Ne.symm ht12)) hZ (hw _ (List.mem_of_getElem? (i := 55) rfl)) (hw _ (List.mem_of_getElem? (i := 2) rfl)) (by decide) (by decide)) qa22 qc22 (g := (mkF m 172 #[.val (.int p1), .val (.int p2), .val (.int p3), .val (.int p4), .val (.int p5), .val (.int cc), .val (.int dd), .val (.ref o1), .val (.int (((p5.toUInt32 >>> ((2 : Int32) &&& 31).toUInt32).toInt32) &&& (3 : Int32))), .val (.ref o2), .val (.int (0 : Int32))] [(.ref o1), (.ref o2)])) rfl (by rw [hml]; rfl) (Steps.refl _) (argsL := [(.ref o1)]) (rest := []) (lenOf pd_oLjava_lang_Object_cZ rfl) rfl (by show 2 * 0 + _ ≤ _; exact Nat.le_of_eq rfl) (hb hby at_172) (fun _ _ => ⟨rfl, eq19, (by decide : 26 + 0 ≤ _), (by decide : 64 + 0 ≤ _)⟩)
          dsimp only [Pt.U, Pt.locs, Pt.cells, Pt.slots] at X21 l21 y21 z21 st21 hQ21
          subst l21 y21 z21
          obtain ⟨rfl, Nq21, eq21⟩ := hQ21
          have N21 := Fr.app N19 Nq21
          refine OGo.by_ (fun t k => st21.trans k) ?_
          show OGo p e below _ (T21.setTop (mkF m 175 #[.val (.int p1), .val (.int p2), .val (.int p3), .val (.int p4), .val (.int p5), .val (.int cc), .val (.int dd), .val (.ref o1), .val (.int (((p5.toUInt32 >>> ((2 : Int32) &&& 31).toUInt32).toInt32) &&& (3 : Int32))), .val (.ref o2), .val (.int (0 : Int32))] [(.int (if own_xs cc = own_xs p1 ∧ own_xs dd = own_xs p2 then (1 : Int32) else (0 : Int32)))]))
          refine OGo.by_ (fun t k => XS.iload X21.here hx rfl (hb hby at_175) rfl k) ?_
          show OGo p e below _ (T21.setTop (mkF m 177 #[.val (.int p1), .val (.int p2), .val (.int p3), .val (.int p4), .val (.int p5), .val (.int cc), .val (.int dd), .val (.ref o1), .val (.int (((p5.toUInt32 >>> ((2 : Int32) &&& 31).toUInt32).toInt32) &&& (3 : Int32))), .val (.ref o2), .val (.int (0 : Int32))] [(.int (0 : Int32)), (.int (if own_xs cc = own_xs p1 ∧ own_xs dd = own_xs p2 then (1 : Int32) else (0 : Int32)))]))
          refine OGo.by_ (fun t k => XS.icmpNo X21.here hx rfl (hb hby at_177) rfl (teq (if_neg hpf')).2 k) ?_
          show OGo p e below _ (T21.setTop (mkF m 180 #[.val (.int p1), .val (.int p2), .val (.int p3), .val (.int p4), .val (.int p5), .val (.int cc), .val (.int dd), .val (.ref o1), .val (.int (((p5.toUInt32 >>> ((2 : Int32) &&& 31).toUInt32).toInt32) &&& (3 : Int32))), .val (.ref o2), .val (.int (0 : Int32))] []))
          refine OGo.by_ (fun t k => XS.iconst X21.here hx rfl (hb hby at_180) k) ?_
          show OGo p e below _ (T21.setTop (mkF m 181 #[.val (.int p1), .val (.int p2), .val (.int p3), .val (.int p4), .val (.int p5), .val (.int cc), .val (.int dd), .val (.ref o1), .val (.int (((p5.toUInt32 >>> ((2 : Int32) &&& 31).toUInt32).toInt32) &&& (3 : Int32))), .val (.ref o2), .val (.int (0 : Int32))] [(.int (1 : Int32))]))
          refine OGo.by_ (fun t k => XS.goto X21.here hx rfl (pc0 := 181) (pc' := 185) rfl (hb hby at_181) (by decide) (by decide) k) ?_
          show OGo p e below _ (T21.setTop (mkF m 185 #[.val (.int p1), .val (.int p2), .val (.int p3), .val (.int p4), .val (.int p5), .val (.int cc), .val (.int dd), .val (.ref o1), .val (.int (((p5.toUInt32 >>> ((2 : Int32) &&& 31).toUInt32).toInt32) &&& (3 : Int32))), .val (.ref o2), .val (.int (0 : Int32))] [(.int (1 : Int32))]))
          exact own_wretN X21 hS (show _ ≤ T21.heap.size by rw [eq21]; exact hk) hx hlk (t := .boolean) hret (by simp) (hb hby at_185) (by decide) (by decide) (⟨rfl, N21⟩)
        · refine OGo.by_ (fun t k => XS.ifNo X18.here hx rfl (hb hby at_137) rfl ((if0 _ _).trans (feq he1).1) k) ?_
          show OGo p e below _ (T18.setTop (mkF m 140 #[.val (.int p1), .val (.int p2), .val (.int p3), .val (.int p4), .val (.int p5), .val (.int cc), .val (.int dd), .val (.ref o1), .val (.int (((p5.toUInt32 >>> ((2 : Int32) &&& 31).toUInt32).toInt32) &&& (3 : Int32))), .val (.ref o2), .unset] []))
          refine OGo.by_ (fun t k => XS.iloadN X18.here hx rfl (hb hby at_140) rfl k) ?_
          show OGo p e below _ (T18.setTop (mkF m 141 #[.val (.int p1), .val (.int p2), .val (.int p3), .val (.int p4), .val (.int p5), .val (.int cc), .val (.int dd), .val (.ref o1), .val (.int (((p5.toUInt32 >>> ((2 : Int32) &&& 31).toUInt32).toInt32) &&& (3 : Int32))), .val (.ref o2), .unset] [(.int p2)]))
          refine OGo.by_ (fun t k => XS.iload X18.here hx rfl (hb hby at_141) rfl k) ?_
          show OGo p e below _ (T18.setTop (mkF m 143 #[.val (.int p1), .val (.int p2), .val (.int p3), .val (.int p4), .val (.int p5), .val (.int cc), .val (.int dd), .val (.ref o1), .val (.int (((p5.toUInt32 >>> ((2 : Int32) &&& 31).toUInt32).toInt32) &&& (3 : Int32))), .val (.ref o2), .unset] [(.int dd), (.int p2)]))
          obtain ⟨_, _, ⟨T23, L23, k23, n23⟩, -, X23, ⟨Lc23, hQ23, l23, y23, z23⟩, st23⟩ := Jvm.LawKit.callS X18 hx (y := (⟨"com/example/shardwright/shardwright/kernel/config/DataNodeEqualsPinLaw", "same", "(II)Z"⟩ : MethodName)) hown (mvT hZ (hw _ (List.mem_of_getElem? (i := 48) rfl))) (mvT hZ (hw _ (List.mem_of_getElem? (i := 49) rfl))) (mvT hZ (hw _ (List.mem_of_getElem? (i := 5) rfl))) (mvT hZ (hw _ (List.mem_of_getElem? (i := 50) rfl))) (by decide) (backOf (W := 0) (rm_sam l Z a0 hw [] p2 dd T17.heap n0 Z_8) hZ (hw _ (List.mem_of_getElem? (i := 50) rfl)) (hw _ (List.mem_of_getElem? (i := 5) rfl)) (by decide) (by decide)) (g := (mkF m 143 #[.val (.int p1), .val (.int p2), .val (.int p3), .val (.int p4), .val (.int p5), .val (.int cc), .val (.int dd), .val (.ref o1), .val (.int (((p5.toUInt32 >>> ((2 : Int32) &&& 31).toUInt32).toInt32) &&& (3 : Int32))), .val (.ref o2), .unset] [(.int dd), (.int p2)])) rfl (by rw [hml]; rfl) (argsL := [(.int p2), (.int dd)]) (rest := []) (lenOf pd_oIIcZ rfl) rfl (by show 2 * 0 + _ ≤ _; exact Nat.le_of_eq rfl) (hb hby at_143) (fun _ _ => ⟨rfl, eq18, (by decide : 26 + 0 ≤ _), (by decide : 64 + 0 ≤ _)⟩)
          dsimp only [Pt.U, Pt.locs, Pt.cells, Pt.slots] at X23 l23 y23 z23 st23 hQ23
          subst l23 y23 z23
          obtain ⟨rfl, Nq23, eq23⟩ := hQ23
          have N23 := Fr.app N18 Nq23
          refine OGo.by_ st23 ?_
          show OGo p e below _ (T23.setTop (mkF m 146 #[.val (.int p1), .val (.int p2), .val (.int p3), .val (.int p4), .val (.int p5), .val (.int cc), .val (.int dd), .val (.ref o1), .val (.int (((p5.toUInt32 >>> ((2 : Int32) &&& 31).toUInt32).toInt32) &&& (3 : Int32))), .val (.ref o2), .unset] [(.int (if own_xs p2 = own_xs dd then (1 : Int32) else (0 : Int32)))]))
          by_cases he2 : (if own_xs p2 = own_xs dd then (1 : Int32) else (0 : Int32)) = (0 : Int32)
          · refine OGo.by_ (fun t k => XS.ifYes X23.here hx rfl (pc0 := 146) (pc' := 153) rfl (hb hby at_146) rfl ((if0 _ _).trans (teq he2).1) (by decide) (by decide) k) ?_
            show OGo p e below _ (T23.setTop (mkF m 153 #[.val (.int p1), .val (.int p2), .val (.int p3), .val (.int p4), .val (.int p5), .val (.int cc), .val (.int dd), .val (.ref o1), .val (.int (((p5.toUInt32 >>> ((2 : Int32) &&& 31).toUInt32).toInt32) &&& (3 : Int32))), .val (.ref o2), .unset] []))
            refine OGo.by_ (fun t k => XS.iconst X23.here hx rfl (hb hby at_153) k) ?_
            show OGo p e below _ (T23.setTop (mkF m 154 #[.val (.int p1), .val (.int p2), .val (.int p3), .val (.int p4), .val (.int p5), .val (.int cc), .val (.int dd), .val (.ref o1), .val (.int (((p5.toUInt32 >>> ((2 : Int32) &&& 31).toUInt32).toInt32) &&& (3 : Int32))), .val (.ref o2), .unset] [(.int (0 : Int32))]))
            have hpf : ¬ (own_xs p1 = own_xs cc ∧ own_xs p2 = own_xs dd) := (fun q => own_if0 he2 q.2)
            have hpf' : ¬ (own_xs cc = own_xs p1 ∧ own_xs dd = own_xs p2) := fun q => hpf ⟨q.1.symm, q.2.symm⟩
            refine OGo.by_ (fun t k => XS.istore X23.here hx rfl (hb hby at_154) rfl (l' := #[.val (.int p1), .val (.int p2), .val (.int p3), .val (.int p4), .val (.int p5), .val (.int cc), .val (.int dd), .val (.ref o1), .val (.int (((p5.toUInt32 >>> ((2 : Int32) &&& 31).toUInt32).toInt32) &&& (3 : Int32))), .val (.ref o2), .val (.int (0 : Int32))]) rfl k) ?_
            show OGo p e below _ (T23.setTop (mkF m 156 #[.val (.int p1), .val (.int p2), .val (.int p3), .val (.int p4), .val (.int p5), .val (.int cc), .val (.int dd), .val (.ref o1), .val (.int (((p5.toUInt32 >>> ((2 : Int32) &&& 31).toUInt32).toInt32) &&& (3 : Int32))), .val (.ref o2), .val (.int (0 : Int32))] []))
            refine OGo.by_ (fun t k => XS.aload X23.here hx rfl (hb hby at_156) rfl rfl k) ?_
            show OGo p e below _ (T23.setTop (mkF m 158 #[.val (.int p1), .val (.int p2), .val (.int p3), .val (.int p4), .val (.int p5), .val (.int cc), .val (.int dd), .val (.ref o1), .val (.int (((p5.toUInt32 >>> ((2 : Int32) &&& 31).toUInt32).toInt32) &&& (3 : Int32))), .val (.ref o2), .val (.int (0 : Int32))] [(.ref o1)]))
            refine OGo.by_ (fun t k => XS.aload X23.here hx rfl (hb hby at_158) rfl rfl k) ?_
            show OGo p e below _ (T23.setTop (mkF m 160 #[.val (.int p1), .val (.int p2), .val (.int p3), .val (.int p4), .val (.int p5), .val (.int cc), .val (.int dd), .val (.ref o1), .val (.int (((p5.toUInt32 >>> ((2 : Int32) &&& 31).toUInt32).toInt32) &&& (3 : Int32))), .val (.ref o2), .val (.int (0 : Int32))] [(.ref o2), (.ref o1)]))
            obtain ⟨cq25, kq25, qa25, qb25, qc25⟩ := isOf hZ eq23 D_o1_8.1
            obtain ⟨_, _, ⟨T24, L24, k24, n24⟩, -, X24, ⟨Lc24, hQ24, l24, y24, z24⟩, st24⟩ := X23.virtualBack hx (y := (⟨"com/example/shardwright/shardwright/kernel/config/DataNode", "equals", "(Ljava/lang/Object;)Z"⟩ : MethodName)) (z := (⟨"com/example/shardwright/shardwright/kernel/config/DataNode", "equals", "(Ljava/lang/Object;)Z"⟩ : MethodName)) hown (mvT hZ (hw _ (List.mem_of_getElem? (i := 51) rfl))) (mvT hZ (hw _ (List.mem_of_getElem? (i := 52) rfl))) (notFace_of_selects (args := #[]) (mvT hZ (hw _ (List.mem_of_getElem? (i := 54) rfl)))) (mvT hZ (hw _ (List.mem_of_getElem? (i := 54) rfl))) (mvT hZ (hw _ (List.mem_of_getElem? (i := 53) rfl))) (by decide) (backOf (W := 0) (rm_dqd l Z a0 hw [] o1 o2 s1 t1 s2 t2 b_s1 b_s2 b_t1 b_t2 n_s1 n_s2 n_t1 n_t2 cs (own_xs p1) (own_xs cc) (own_xs p2) (own_xs dd) T17.heap n0 Z_8 SC_8 hcs D_o1_8 Dn17 S_s1_8 S_s2_8 S_t1_8 S_t2_8 hs12 ht12) hZ (hw _ (List.mem_of_getElem? (i := 55) rfl)) (hw _ (List.mem_of_getElem? (i := 2) rfl)) (by decide) (by decide)) qa25 qc25 (g := (mkF m 160 #[.val (.int p1), .val (.int p2), .val (.int p3), .val (.int p4), .val (.int p5), .val (.int cc), .val (.int dd), .val (.ref o1), .val (.int (((p5.toUInt32 >>> ((2 : Int32) &&& 31).toUInt32).toInt32) &&& (3 : Int32))), .val (.ref o2), .val (.int (0 : Int32))] [(.ref o2), (.ref o1)])) rfl (by rw [hml]; rfl) (Steps.refl _) (argsL := [(.ref o2)]) (rest := []) (lenOf pd_oLjava_lang_Object_cZ rfl) rfl (by show 2 * 0 + _ ≤ _; exact Nat.le_of_eq rfl) (hb hby at_160) (fun _ _ => ⟨rfl, eq23, (by decide : 26 + 0 ≤ _), (by decide : 64 + 0 ≤ _)⟩)
            dsimp only [Pt.U, Pt.locs, Pt.cells, Pt.slots] at X24 l24 y24 z24 st24 hQ24
            subst l24 y24 z24
            obtain ⟨rfl, Nq24, eq24⟩ := hQ24
            have N24 := Fr.app N23 Nq24
            refine OGo.by_ (fun t k => st24.trans k) ?_
            show OGo p e below _ (T24.setTop (mkF m 163 #[.val (.int p1), .val (.int p2), .val (.int p3), .val (.int p4), .val (.int p5), .val (.int cc), .val (.int dd), .val (.ref o1), .val (.int (((p5.toUInt32 >>> ((2 : Int32) &&& 31).toUInt32).toInt32) &&& (3 : Int32))), .val (.ref o2), .val (.int (0 : Int32))] [(.int (if own_xs p1 = own_xs cc ∧ own_xs p2 = own_xs dd then (1 : Int32) else (0 : Int32)))]))
            refine OGo.by_ (fun t k => XS.iload X24.here hx rfl (hb hby at_163) rfl k) ?_
            show OGo p e below _ (T24.setTop (mkF m 165 #[.val (.int p1), .val (.int p2), .val (.int p3), .val (.int p4), .val (.int p5), .val (.int cc), .val (.int dd), .val (.ref o1), .val (.int (((p5.toUInt32 >>> ((2 : Int32) &&& 31).toUInt32).toInt32) &&& (3 : Int32))), .val (.ref o2), .val (.int (0 : Int32))] [(.int (0 : Int32)), (.int (if own_xs p1 = own_xs cc ∧ own_xs p2 = own_xs dd then (1 : Int32) else (0 : Int32)))]))
            refine OGo.by_ (fun t k => XS.icmpNo X24.here hx rfl (hb hby at_165) rfl (teq (if_neg hpf)).2 k) ?_
            show OGo p e below _ (T24.setTop (mkF m 168 #[.val (.int p1), .val (.int p2), .val (.int p3), .val (.int p4), .val (.int p5), .val (.int cc), .val (.int dd), .val (.ref o1), .val (.int (((p5.toUInt32 >>> ((2 : Int32) &&& 31).toUInt32).toInt32) &&& (3 : Int32))), .val (.ref o2), .val (.int (0 : Int32))] []))
            refine OGo.by_ (fun t k => XS.aload X24.here hx rfl (hb hby at_168) rfl rfl k) ?_
            show OGo p e below _ (T24.setTop (mkF m 170 #[.val (.int p1), .val (.int p2), .val (.int p3), .val (.int p4), .val (.int p5), .val (.int cc), .val (.int dd), .val (.ref o1), .val (.int (((p5.toUInt32 >>> ((2 : Int32) &&& 31).toUInt32).toInt32) &&& (3 : Int32))), .val (.ref o2), .val (.int (0 : Int32))] [(.ref o2)]))
            refine OGo.by_ (fun t k => XS.aload X24.here hx rfl (hb hby at_170) rfl rfl k) ?_
            show OGo p e below _ (T24.setTop (mkF m 172 #[.val (.int p1), .val (.int p2), .val (.int p3), .val (.int p4), .val (.int p5), .val (.int cc), .val (.int dd), .val (.ref o1), .val (.int (((p5.toUInt32 >>> ((2 : Int32) &&& 31).toUInt32).toInt32) &&& (3 : Int32))), .val (.ref o2), .val (.int (0 : Int32))] [(.ref o1), (.ref o2)]))
            obtain ⟨cq27, kq27, qa27, qb27, qc27⟩ := isOf hZ eq24 Dn17.1
            obtain ⟨_, _, ⟨T26, L26, k26, n26⟩, -, X26, ⟨Lc26, hQ26, l26, y26, z26⟩, st26⟩ := X24.virtualBack hx (y := (⟨"com/example/shardwright/shardwright/kernel/config/DataNode", "equals", "(Ljava/lang/Object;)Z"⟩ : MethodName)) (z := (⟨"com/example/shardwright/shardwright/kernel/config/DataNode", "equals", "(Ljava/lang/Object;)Z"⟩ : MethodName)) hown (mvT hZ (hw _ (List.mem_of_getElem? (i := 51) rfl))) (mvT hZ (hw _ (List.mem_of_getElem? (i := 52) rfl))) (notFace_of_selects (args := #[]) (mvT hZ (hw _ (List.mem_of_getElem? (i := 54) rfl)))) (mvT hZ (hw _ (List.mem_of_getElem? (i := 54) rfl))) (mvT hZ (hw _ (List.mem_of_getElem? (i := 53) rfl))) (by decide) (backOf (W := 0) (rm_dqd l Z a0 hw [] o2 o1 s2 t2 s1 t1 b_s2 b_s1 b_t2 b_t1 n_s2 n_s1 n_t2 n_t1 cs (own_xs cc) (own_xs p1) (own_xs dd) (own_xs p2) T17.heap n0 Z_8 SC_8 hcs Dn17 D_o1_8 S_s2_8 S_s1_8 S_t2_8 S_t1_8 (Ne.symm hs12) (Ne.symm ht12)) hZ (hw _ (List.mem_of_getElem? (i := 55) rfl)) (hw _ (List.mem_of_getElem? (i := 2) rfl)) (by decide) (by decide)) qa27 qc27 (g := (mkF m 172 #[.val (.int p1), .val (.int p2), .val (.int p3), .val (.int p4), .val (.int p5), .val (.int cc), .val (.int dd), .val (.ref o1), .val (.int (((p5.toUInt32 >>> ((2 : Int32) &&& 31).toUInt32).toInt32) &&& (3 : Int32))), .val (.ref o2), .val (.int (0 : Int32))] [(.ref o1), (.ref o2)])) rfl (by rw [hml]; rfl) (Steps.refl _) (argsL := [(.ref o1)]) (rest := []) (lenOf pd_oLjava_lang_Object_cZ rfl) rfl (by show 2 * 0 + _ ≤ _; exact Nat.le_of_eq rfl) (hb hby at_172) (fun _ _ => ⟨rfl, eq24, (by decide : 26 + 0 ≤ _), (by decide : 64 + 0 ≤ _)⟩)
            dsimp only [Pt.U, Pt.locs, Pt.cells, Pt.slots] at X26 l26 y26 z26 st26 hQ26
            subst l26 y26 z26
            obtain ⟨rfl, Nq26, eq26⟩ := hQ26
            have N26 := Fr.app N24 Nq26
            refine OGo.by_ (fun t k => st26.trans k) ?_
            show OGo p e below _ (T26.setTop (mkF m 175 #[.val (.int p1), .val (.int p2), .val (.int p3), .val (.int p4), .val (.int p5), .val (.int cc), .val (.int dd), .val (.ref o1), .val (.int (((p5.toUInt32 >>> ((2 : Int32) &&& 31).toUInt32).toInt32) &&& (3 : Int32))), .val (.ref o2), .val (.int (0 : Int32))] [(.int (if own_xs cc = own_xs p1 ∧ own_xs dd = own_xs p2 then (1 : Int32) else (0 : Int32)))]))
            refine OGo.by_ (fun t k => XS.iload X26.here hx rfl (hb hby at_175) rfl k) ?_
            show OGo p e below _ (T26.setTop (mkF m 177 #[.val (.int p1), .val (.int p2), .val (.int p3), .val (.int p4), .val (.int p5), .val (.int cc), .val (.int dd), .val (.ref o1), .val (.int (((p5.toUInt32 >>> ((2 : Int32) &&& 31).toUInt32).toInt32) &&& (3 : Int32))), .val (.ref o2), .val (.int (0 : Int32))] [(.int (0 : Int32)), (.int (if own_xs cc = own_xs p1 ∧ own_xs dd = own_xs p2 then (1 : Int32) else (0 : Int32)))]))
            refine OGo.by_ (fun t k => XS.icmpNo X26.here hx rfl (hb hby at_177) rfl (teq (if_neg hpf')).2 k) ?_
            show OGo p e below _ (T26.setTop (mkF m 180 #[.val (.int p1), .val (.int p2), .val (.int p3), .val (.int p4), .val (.int p5), .val (.int cc), .val (.int dd), .val (.ref o1), .val (.int (((p5.toUInt32 >>> ((2 : Int32) &&& 31).toUInt32).toInt32) &&& (3 : Int32))), .val (.ref o2), .val (.int (0 : Int32))] []))
            refine OGo.by_ (fun t k => XS.iconst X26.here hx rfl (hb hby at_180) k) ?_
            show OGo p e below _ (T26.setTop (mkF m 181 #[.val (.int p1), .val (.int p2), .val (.int p3), .val (.int p4), .val (.int p5), .val (.int cc), .val (.int dd), .val (.ref o1), .val (.int (((p5.toUInt32 >>> ((2 : Int32) &&& 31).toUInt32).toInt32) &&& (3 : Int32))), .val (.ref o2), .val (.int (0 : Int32))] [(.int (1 : Int32))]))
            refine OGo.by_ (fun t k => XS.goto X26.here hx rfl (pc0 := 181) (pc' := 185) rfl (hb hby at_181) (by decide) (by decide) k) ?_
            show OGo p e below _ (T26.setTop (mkF m 185 #[.val (.int p1), .val (.int p2), .val (.int p3), .val (.int p4), .val (.int p5), .val (.int cc), .val (.int dd), .val (.ref o1), .val (.int (((p5.toUInt32 >>> ((2 : Int32) &&& 31).toUInt32).toInt32) &&& (3 : Int32))), .val (.ref o2), .val (.int (0 : Int32))] [(.int (1 : Int32))]))
            exact own_wretN X26 hS (show _ ≤ T26.heap.size by rw [eq26]; exact hk) hx hlk (t := .boolean) hret (by simp) (hb hby at_185) (by decide) (by decide) (⟨rfl, N26⟩)
          · refine OGo.by_ (fun t k => XS.ifNo X23.here hx rfl (hb hby at_146) rfl ((if0 _ _).trans (feq he2).1) k) ?_
            show OGo p e below _ (T23.setTop (mkF m 149 #[.val (.int p1), .val (.int p2), .val (.int p3), .val (.int p4), .val (.int p5), .val (.int cc), .val (.int dd), .val (.ref o1), .val (.int (((p5.toUInt32 >>> ((2 : Int32) &&& 31).toUInt32).toInt32) &&& (3 : Int32))), .val (.ref o2), .unset] []))
            refine OGo.by_ (fun t k => XS.iconst X23.here hx rfl (hb hby at_149) k) ?_
            show OGo p e below _ (T23.setTop (mkF m 150 #[.val (.int p1), .val (.int p2), .val (.int p3), .val (.int p4), .val (.int p5), .val (.int cc), .val (.int dd), .val (.ref o1), .val (.int (((p5.toUInt32 >>> ((2 : Int32) &&& 31).toUInt32).toInt32) &&& (3 : Int32))), .val (.ref o2), .unset] [(.int (1 : Int32))]))
            refine OGo.by_ (fun t k => XS.goto X23.here hx rfl (pc0 := 150) (pc' := 154) rfl (hb hby at_150) (by decide) (by decide) k) ?_
            show OGo p e below _ (T23.setTop (mkF m 154 #[.val (.int p1), .val (.int p2), .val (.int p3), .val (.int p4), .val (.int p5), .val (.int cc), .val (.int dd), .val (.ref o1), .val (.int (((p5.toUInt32 >>> ((2 : Int32) &&& 31).toUInt32).toInt32) &&& (3 : Int32))), .val (.ref o2), .unset] [(.int (1 : Int32))]))
            have hpf : (own_xs p1 = own_xs cc ∧ own_xs p2 = own_xs dd) := ⟨own_if1 he1, own_if1 he2⟩
            have hpf' : (own_xs cc = own_xs p1 ∧ own_xs dd = own_xs p2) := ⟨hpf.1.symm, hpf.2.symm⟩
            refine OGo.by_ (fun t k => XS.istore X23.here hx rfl (hb hby at_154) rfl (l' := #[.val (.int p1), .val (.int p2), .val (.int p3), .val (.int p4), .val (.int p5), .val (.int cc), .val (.int dd), .val (.ref o1), .val (.int (((p5.toUInt32 >>> ((2 : Int32) &&& 31).toUInt32).toInt32) &&& (3 : Int32))), .val (.ref o2), .val (.int (1 : Int32))]) rfl k) ?_
            show OGo p e below _ (T23.setTop (mkF m 156 #[.val (.int p1), .val (.int p2), .val (.int p3), .val (.int p4), .val (.int p5), .val (.int cc), .val (.int dd), .val (.ref o1), .val (.int (((p5.toUInt32 >>> ((2 : Int32) &&& 31).toUInt32).toInt32) &&& (3 : Int32))), .val (.ref o2), .val (.int (1 : Int32))] []))
            refine OGo.by_ (fun t k => XS.aload X23.here hx rfl (hb hby at_156) rfl rfl k) ?_
            show OGo p e below _ (T23.setTop (mkF m 158 #[.val (.int p1), .val (.int p2), .val (.int p3), .val (.int p4), .val (.int p5), .val (.int cc), .val (.int dd), .val (.ref o1), .val (.int (((p5.toUInt32 >>> ((2 : Int32) &&& 31).toUInt32).toInt32) &&& (3 : Int32))), .val (.ref o2), .val (.int (1 : Int32))] [(.ref o1)]))
            refine OGo.by_ (fun t k => XS.aload X23.here hx rfl (hb hby at_158) rfl rfl k) ?_
            show OGo p e below _ (T23.setTop (mkF m 160 #[.val (.int p1), .val (.int p2), .val (.int p3), .val (.int p4), .val (.int p5), .val (.int cc), .val (.int dd), .val (.ref o1), .val (.int (((p5.toUInt32 >>> ((2 : Int32) &&& 31).toUInt32).toInt32) &&& (3 : Int32))), .val (.ref o2), .val (.int (1 : Int32))] [(.ref o2), (.ref o1)]))
            obtain ⟨cq29, kq29, qa29, qb29, qc29⟩ := isOf hZ eq23 D_o1_8.1
            obtain ⟨_, _, ⟨T28, L28, k28, n28⟩, -, X28, ⟨Lc28, hQ28, l28, y28, z28⟩, st28⟩ := X23.virtualBack hx (y := (⟨"com/example/shardwright/shardwright/kernel/config/DataNode", "equals", "(Ljava/lang/Object;)Z"⟩ : MethodName)) (z := (⟨"com/example/shardwright/shardwright/kernel/config/DataNode", "equals", "(Ljava/lang/Object;)Z"⟩ : MethodName)) hown (mvT hZ (hw _ (List.mem_of_getElem? (i := 51) rfl))) (mvT hZ (hw _ (List.mem_of_getElem? (i := 52) rfl))) (notFace_of_selects (args := #[]) (mvT hZ (hw _ (List.mem_of_getElem? (i := 54) rfl)))) (mvT hZ (hw _ (List.mem_of_getElem? (i := 54) rfl))) (mvT hZ (hw _ (List.mem_of_getElem? (i := 53) rfl))) (by decide) (backOf (W := 0) (rm_dqd l Z a0 hw [] o1 o2 s1 t1 s2 t2 b_s1 b_s2 b_t1 b_t2 n_s1 n_s2 n_t1 n_t2 cs (own_xs p1) (own_xs cc) (own_xs p2) (own_xs dd) T17.heap n0 Z_8 SC_8 hcs D_o1_8 Dn17 S_s1_8 S_s2_8 S_t1_8 S_t2_8 hs12 ht12) hZ (hw _ (List.mem_of_getElem? (i := 55) rfl)) (hw _ (List.mem_of_getElem? (i := 2) rfl)) (by decide) (by decide)) qa29 qc29 (g := (mkF m 160 #[.val (.int p1), .val (.int p2), .val (.int p3), .val (.int p4), .val (.int p5), .val (.int cc), .val (.int dd), .val (.ref o1), .val (.int (((p5.toUInt32 >>> ((2 : Int32) &&& 31).toUInt32).toInt32) &&& (3 : Int32))), .val (.ref o2), .val (.int (1 : Int32))] [(.ref o2), (.ref o1)])) rfl (by rw [hml]; rfl) (Steps.refl _) (argsL := [(.ref o2)]) (rest := []) (lenOf pd_oLjava_lang_Object_cZ rfl) rfl (by show 2 * 0 + _ ≤ _; exact Nat.le_of_eq rfl) (hb hby at_160) (fun _ _ => ⟨rfl, eq23, (by decide : 26 + 0 ≤ _), (by decide : 64 + 0 ≤ _)⟩)
            dsimp only [Pt.U, Pt.locs, Pt.cells, Pt.slots] at X28 l28 y28 z28 st28 hQ28
            subst l28 y28 z28
            obtain ⟨rfl, Nq28, eq28⟩ := hQ28
            have N28 := Fr.app N23 Nq28
            refine OGo.by_ (fun t k => st28.trans k) ?_
            show OGo p e below _ (T28.setTop (mkF m 163 #[.val (.int p1), .val (.int p2), .val (.int p3), .val (.int p4), .val (.int p5), .val (.int cc), .val (.int dd), .val (.ref o1), .val (.int (((p5.toUInt32 >>> ((2 : Int32) &&& 31).toUInt32).toInt32) &&& (3 : Int32))), .val (.ref o2), .val (.int (1 : Int32))] [(.int (if own_xs p1 = own_xs cc ∧ own_xs p2 = own_xs dd then (1 : Int32) else (0 : Int32)))]))
            refine OGo.by_ (fun t k => XS.iload X28.here hx rfl (hb hby at_163) rfl k) ?_
            show OGo p e below _ (T28.setTop (mkF m 165 #[.val (.int p1), .val (.int p2), .val (.int p3), .val (.int p4), .val (.int p5), .val (.int cc), .val (.int dd), .val (.ref o1), .val (.int (((p5.toUInt32 >>> ((2 : Int32) &&& 31).toUInt32).toInt32) &&& (3 : Int32))), .val (.ref o2), .val (.int (1 : Int32))] [(.int (1 : Int32)), (.int (if own_xs p1 = own_xs cc ∧ own_xs p2 = own_xs dd then (1 : Int32) else (0 : Int32)))]))
            refine OGo.by_ (fun t k => XS.icmpNo X28.here hx rfl (hb hby at_165) rfl (teq (if_pos hpf)).2 k) ?_
            show OGo p e below _ (T28.setTop (mkF m 168 #[.val (.int p1), .val (.int p2), .val (.int p3), .val (.int p4), .val (.int p5), .val (.int cc), .val (.int dd), .val (.ref o1), .val (.int (((p5.toUInt32 >>> ((2 : Int32) &&& 31).toUInt32).toInt32) &&& (3 : Int32))), .val (.ref o2), .val (.int (1 : Int32))] []))
            refine OGo.by_ (fun t k => XS.aload X28.here hx rfl (hb hby at_168) rfl rfl k) ?_
            show OGo p e below _ (T28.setTop (mkF m 170 #[.val (.int p1), .val (.int p2), .val (.int p3), .val (.int p4), .val (.int p5), .val (.int cc), .val (.int dd), .val (.ref o1), .val (.int (((p5.toUInt32 >>> ((2 : Int32) &&& 31).toUInt32).toInt32) &&& (3 : Int32))), .val (.ref o2), .val (.int (1 : Int32))] [(.ref o2)]))
            refine OGo.by_ (fun t k => XS.aload X28.here hx rfl (hb hby at_170) rfl rfl k) ?_
            show OGo p e below _ (T28.setTop (mkF m 172 #[.val (.int p1), .val (.int p2), .val (.int p3), .val (.int p4), .val (.int p5), .val (.int cc), .val (.int dd), .val (.ref o1), .val (.int (((p5.toUInt32 >>> ((2 : Int32) &&& 31).toUInt32).toInt32) &&& (3 : Int32))), .val (.ref o2), .val (.int (1 : Int32))] [(.ref o1), (.ref o2)]))
            obtain ⟨cq31, kq31, qa31, qb31, qc31⟩ := isOf hZ eq28 Dn17.1
            obtain ⟨_, _, ⟨T30, L30, k30, n30⟩, -, X30, ⟨Lc30, hQ30, l30, y30, z30⟩, st30⟩ := X28.virtualBack hx (y := (⟨"com/example/shardwright/shardwright/kernel/config/DataNode", "equals", "(Ljava/lang/Object;)Z"⟩ : MethodName)) (z := (⟨"com/example/shardwright/shardwright/kernel/config/DataNode", "equals", "(Ljava/lang/Object;)Z"⟩ : MethodName)) hown (mvT hZ (hw _ (List.mem_of_getElem? (i := 51) rfl))) (mvT hZ (hw _ (List.mem_of_getElem? (i := 52) rfl))) (notFace_of_selects (args := #[]) (mvT hZ (hw _ (List.mem_of_getElem? (i := 54) rfl)))) (mvT hZ (hw _ (List.mem_of_getElem? (i := 54) rfl))) (mvT hZ (hw _ (List.mem_of_getElem? (i := 53) rfl))) (by decide) (backOf (W := 0) (rm_dqd l Z a0 hw [] o2 o1 s2 t2 s1 t1 b_s2 b_s1 b_t2 b_t1 n_s2 n_s1 n_t2 n_t1 cs (own_xs cc) (own_xs p1) (own_xs dd) (own_xs p2) T17.heap n0 Z_8 SC_8 hcs Dn17 D_o1_8 S_s2_8 S_s1_8 S_t2_8 S_t1_8 (Ne.symm hs12) (Ne.symm ht12)) hZ (hw _ (List.mem_of_getElem? (i := 55) rfl)) (hw _ (List.mem_of_getElem? (i := 2) rfl)) (by decide) (by decide)) qa31 qc31 (g := (mkF m 172 #[.val (.int p1), .val (.int p2), .val (.int p3), .val (.int p4), .val (.int p5), .val (.int cc), .val (.int dd), .val (.ref o1), .val (.int (((p5.toUInt32 >>> ((2 : Int32) &&& 31).toUInt32).toInt32) &&& (3 : Int32))), .val (.ref o2), .val (.int (1 : Int32))] [(.ref o1), (.ref o2)])) rfl (by rw [hml]; rfl) (Steps.refl _) (argsL := [(.ref o1)]) (rest := []) (lenOf pd_oLjava_lang_Object_cZ rfl) rfl (by show 2 * 0 + _ ≤ _; exact Nat.le_of_eq rfl) (hb hby at_172) (fun _ _ => ⟨rfl, eq28, (by decide : 26 + 0 ≤ _), (by decide : 64 + 0 ≤ _)⟩)
            dsimp only [Pt.U, Pt.locs, Pt.cells, Pt.slots] at X30 l30 y30 z30 st30 hQ30
            subst l30 y30 z30
            obtain ⟨rfl, Nq30, eq30⟩ := hQ30
            have N30 := Fr.app N28 Nq30
            refine OGo.by_ (fun t k => st30.trans k) ?_
            show OGo p e below _ (T30.setTop (mkF m 175 #[.val (.int p1), .val (.int p2), .val (.int p3), .val (.int p4), .val (.int p5), .val (.int cc), .val (.int dd), .val (.ref o1), .val (.int (((p5.toUInt32 >>> ((2 : Int32) &&& 31).toUInt32).toInt32) &&& (3 : Int32))), .val (.ref o2), .val (.int (1 : Int32))] [(.int (if own_xs cc = own_xs p1 ∧ own_xs dd = own_xs p2 then (1 : Int32) else (0 : Int32)))]))
            refine OGo.by_ (fun t k => XS.iload X30.here hx rfl (hb hby at_175) rfl k) ?_
            show OGo p e below _ (T30.setTop (mkF m 177 #[.val (.int p1), .val (.int p2), .val (.int p3), .val (.int p4), .val (.int p5), .val (.int cc), .val (.int dd), .val (.ref o1), .val (.int (((p5.toUInt32 >>> ((2 : Int32) &&& 31).toUInt32).toInt32) &&& (3 : Int32))), .val (.ref o2), .val (.int (1 : Int32))] [(.int (1 : Int32)), (.int (if own_xs cc = own_xs p1 ∧ own_xs dd = own_xs p2 then (1 : Int32) else (0 : Int32)))]))
            refine OGo.by_ (fun t k => XS.icmpNo X30.here hx rfl (hb hby at_177) rfl (teq (if_pos hpf')).2 k) ?_
            show OGo p e below _ (T30.setTop (mkF m 180 #[.val (.int p1), .val (.int p2), .val (.int p3), .val (.int p4), .val (.int p5), .val (.int cc), .val (.int dd), .val (.ref o1), .val (.int (((p5.toUInt32 >>> ((2 : Int32) &&& 31).toUInt32).toInt32) &&& (3 : Int32))), .val (.ref o2), .val (.int (1 : Int32))] []))
            refine OGo.by_ (fun t k => XS.iconst X30.here hx rfl (hb hby at_180) k) ?_
            show OGo p e below _ (T30.setTop (mkF m 181 #[.val (.int p1), .val (.int p2), .val (.int p3), .val (.int p4), .val (.int p5), .val (.int cc), .val (.int dd), .val (.ref o1), .val (.int (((p5.toUInt32 >>> ((2 : Int32) &&& 31).toUInt32).toInt32) &&& (3 : Int32))), .val (.ref o2), .val (.int (1 : Int32))] [(.int (1 : Int32))]))
            refine OGo.by_ (fun t k => XS.goto X30.here hx rfl (pc0 := 181) (pc' := 185) rfl (hb hby at_181) (by decide) (by decide) k) ?_
            show OGo p e below _ (T30.setTop (mkF m 185 #[.val (.int p1), .val (.int p2), .val (.int p3), .val (.int p4), .val (.int p5), .val (.int cc), .val (.int dd), .val (.ref o1), .val (.int (((p5.toUInt32 >>> ((2 : Int32) &&& 31).toUInt32).toInt32) &&& (3 : Int32))), .val (.ref o2), .val (.int (1 : Int32))] [(.int (1 : Int32))]))
            exact own_wretN X30 hS (show _ ≤ T30.heap.size by rw [eq30]; exact hk) hx hlk (t := .boolean) hret (by simp) (hb hby at_185) (by decide) (by decide) (⟨rfl, N30⟩)
set_option maxRecDepth 65536 in
set_option maxHeartbeats 40000000 in
theorem comes_1 {Post : Tables → Env → Array Value → State → Outcome → State → Prop} (hpost : ∀ tb e args s v u, (limb_1_1.after args s (.returned v) u = true ∧ limb_1_2.after args s (.returned v) u = true ∧ True) → ReturnedEndW s (.returned v) u (Jvm.fieldLocs frame_1_writes args s ++ Jvm.arrayLocs frame_1_arrays args s ++ Jvm.staticLocs frame_1_statics s) 40 1216 → Post tb e args s (.returned v) u) :
    ArmFor flags0 classFile x code maxLocals ret World_1 tables_1 room_1 Calls_1 rest_1 Pre_1 Post := by
  intro l hfl _ _ p e ha hc hk s m args below hf hA hF happ hP
  obtain ⟨hcalls, hrest, hpre⟩ := hP
  obtain ⟨-, -, -, hnamed, -, -, -, hat⟩ := (Spec.applies_iff hf).mp happ
  obtain ⟨hg, hn⟩ := and_e (Cond.before_iff.mp (show (Jvm.Cond.and given_1 narrow_1).before args s = true from hpre))
  obtain ⟨hcount, hg0⟩ := and_e hg
  obtain ⟨ga0, hg1⟩ := and_e hg0
  obtain ⟨ga1, hg2⟩ := and_e hg1
  obtain ⟨ga2, hg3⟩ := and_e hg2
  obtain ⟨ga3, hg4⟩ := and_e hg3
  have ga4 := hg4
  obtain ⟨w0, w1, w2, w3, w4, rfl⟩ : ∃ w0 w1 w2 w3 w4 : Value, args = #[w0, w1, w2, w3, w4] := by
    have hs : args.size = 5 := by simpa [Cond.value, given_1] using hcount
    obtain ⟨L⟩ := args
    match L, hs with
    | [w0, w1, w2, w3, w4], _ => exact ⟨w0, w1, w2, w3, w4, rfl⟩
  have hw := fun d (hd : d ∈ tables_1) => atoms_spec (ws := Jvm.Cond.code x code maxLocals ret :: tables_1) hat d (List.mem_cons_of_mem _ hd)
  have hfit : Fit s := fun {y c} hc i hi => by
    obtain ⟨ha, rfl⟩ := Array.getElem?_eq_some_iff.mp hc
    have q := List.all_eq_true.mp ((Array.all_eq_true_iff_forall_mem.mp hF) _ (Array.getElem_mem ha)) i (List.mem_range.mpr hi)
    simpa [Array.getElem?_eq_getElem hi] using q
  obtain ⟨hsets, hown0⟩ := atoms_of _ (rest_1_c_eq ▸ (show rest_1_c.before _ s = true from hrest))
  have hr0 := Cond.before_iff.mp hown0
  obtain ⟨i0, ei0⟩ := is_v ga0
  obtain rfl : w0 = (.int i0) := Option.some.inj ei0
  obtain ⟨i1, ei1⟩ := is_v ga1
  obtain rfl : w1 = (.int i1) := Option.some.inj ei1
  obtain ⟨i2, ei2⟩ := is_v ga2
  obtain rfl : w2 = (.int i2) := Option.some.inj ei2
  obtain ⟨i3, ei3⟩ := is_v ga3
  obtain rfl : w3 = (.int i3) := Option.some.inj ei3
  obtain ⟨i4, ei4⟩ := is_v ga4
  obtain rfl : w4 = (.int i4) := Option.some.inj ei4
  have hcw : Jvm.Lit.compactW.before #[.int i0, .int i1, .int i2, .int i3, .int i4] s = true := hsets _ (List.mem_of_getElem? (i := 2) rfl)
  have HC0 : CHv s own_EL s.vm s.heap := CHv.start (own_ew hw) (fun q hq => hcalls.1 q hq) hcw (hw _ (List.mem_of_getElem? (i := 22) rfl)) (hw _ (List.mem_of_getElem? (i := 8) rfl))
  obtain ⟨cs, ecs⟩ := is_v (Cond.before_iff.mp (hsets _ (List.mem_of_getElem? (i := 1) rfl)))
  have hcs : ¬ cs = (0 : Int32) := gotF (Cond.eq_ints ecs (Term.int_eval 0)) (not_v (Cond.before_iff.mp (hsets _ (List.mem_of_getElem? (i := 2) rfl))))
  have SC := Sta.start ecs (Or.inl (hsets _ (List.mem_of_getElem? (i := 0) rfl)))
  obtain ⟨n, o, h1, h2, h3, _, L, rfl, ⟨rfl, N⟩, hq⟩ := rm_law l s _ hw tables_1 i0 i1 i2 i3 i4 cs s.heap s.heap.size (Nat.le_refl _) SC hcs p e ha hc hk s m _ below hf ((Spec.applies_iff_loose hf).mp happ).1 ⟨rfl, State.Warmed39.refl s, rfl, HC0⟩ trivial
  refine ⟨n, _, h1, h2, h3, hpost _ _ _ _ _ _ ⟨Cond.after_iff.mpr rfl, Cond.after_iff.mpr (eq_i res_at (Term.int_eval (1)) rfl), trivial⟩ ⟨hq.1, hq.2.1, hq.2.2.1, (hq.2.2.2.sift fun y hy => Or.inr (N y hy)).mono (by decide) (by decide)⟩⟩
theorem main_1_1 : Claimed_1_1 := comes_1 fun _ _ _ _ _ _ h hF => ⟨h.1, hF⟩
theorem main_1_2 : Claimed_1_2 := comes_1 fun _ _ _ _ _ _ h hF => ⟨h.2.1, hF⟩
end Jvm.Pilot.@@N@@
namespace Jvm.Pilot.@@N@@
open Jvm Jvm.ClassFile Sem Op Lib Jvm.Free Jvm.Stand Jvm.Pilot.@@N@@.Jvm.D
/-! MADE BY PROGRAM (witnessworld.py) out of the Statement's table words and the real class files: 20 classes; the members and pool entries that the words name. The judged class is class 1, her method 3. -/
namespace start1
open Jvm.ClassFile
def u (s : String) : CpInfo := .utf8 (stringToUtf16 s)
/-- a pool by its gaps: so many unusable entries, then the entry; so many at the end -/
def gap : Nat → List CpInfo → List CpInfo
  | 0, r => r
  | n + 1, r => .unusable :: gap n r
def poolList (es : List (Nat × CpInfo)) (last : Nat) : List CpInfo := es.foldr (fun e r => gap e.1 (e.2 :: r)) (gap last [])
def pool (es : List (Nat × CpInfo)) (last : Nat) : Array CpInfo := ⟨poolList es last⟩
def fileOf (pool : Array CpInfo) (this : Nat) (attrs : Array Attribute := #[]) (ms : Array MethodInfo := #[]) (fl : Nat := 33) (sup : Nat := 0) (ifs : Array Nat := #[]) (fds : Array FieldInfo := #[]) : ClassFile where
  minorVersion := 0
  majorVersion := 65
  constantPool := pool
  accessFlags := fl
  thisClass := this
  superClass := sup
  interfaces := ifs
  fields := fds
  methods := ms
  attributes := attrs
def plain (name : String) (sup : Option ClassId) : Class where
  name := name
  kind := .ordinary
  loader := none
  accessFlags := 33
  super := sup
  interfaces := #[]
  cf := none
  fields := #[]
  methods := #[]
  instanceTypes := #[]
  staticTypes := #[]
  resolved := #[]
  callSites := []
  init := .initialized
  statics := none
  mirror := none

def pool0 : Array CpInfo := pool [(5, u "<init>"), (0, u "()V"), (1, .class_ 10), (1, u "java/lang/Object")] 113

def k0c0 : Code := { maxStack := 0, maxLocals := 1, code := object_method_1_code, exceptionTable := #[], attributes := #[] }
def k0m0 : Method := { name := "<init>", desc := "()V", sig := { parameters := [], returnType := none }, accessFlags := 1, code := some k0c0 }
/-- java/lang/Object -/
def k0 : Class := { plain "java/lang/Object" none with
  accessFlags := 33
  interfaces := #[]
  cf := some (fileOf pool0 8 #[] #[{ accessFlags := 1, nameIndex := 5, descriptorIndex := 6, attributes := #[] }] 33 0 #[] #[])
  fields := #[]
  methods := #[k0m0]
  instanceTypes := #[]
  staticTypes := #[]
  resolved := Array.replicate 124 none
  statics := none }

def pool1 : Array CpInfo := pool [(2, .class_ 4), (1, u "java/lang/Object"), (0, u "<init>"), (0, u "()V"), (0, .class_ 8), (0, u "java/lang/String"), (0, .methodref 7 10), (0, .nameAndType 5 11), (0, u "([C)V"), (0, .class_ 13), (0, u "com/example/shardwright/shardwright/kernel/config/DataNode"), (0, .methodref 15 16), (0, .class_ 17), (0, .nameAndType 18 19), (0, u "com/example/shardwright/shardwright/kernel/config/DataNodeEqualsPinLaw"), (0, u "mk"), (0, u "(I)Ljava/lang/String;"), (0, .methodref 12 21), (0, .nameAndType 5 22), (0, u "(Ljava/lang/String;Ljava/lang/String;)V"), (0, .methodref 12 24), (0, .nameAndType 25 26), (0, u "equals"), (0, u "(Ljava/lang/Object;)Z"), (0, .methodref 15 28), (0, .nameAndType 29 30), (0, u "same"), (0, u "(II)Z"), (3, u "law"), (0, u "(IIIII)Z")] 2

def k1m0 : Method := { name := "<init>", desc := "()V", sig := { parameters := [], returnType := none }, accessFlags := 1, code := none }
def k1c1 : Code := { maxStack := 6, maxLocals := 5, code := method_2_code, exceptionTable := #[], attributes := #[] }
def k1m1 : Method := { name := "mk", desc := "(I)Ljava/lang/String;", sig := { parameters := [.int], returnType := some (.object "java/lang/String") }, accessFlags := 10, code := some k1c1 }
def k1c2 : Code := { maxStack := 3, maxLocals := 6, code := method_3_code, exceptionTable := #[], attributes := #[] }
def k1m2 : Method := { name := "same", desc := "(II)Z", sig := { parameters := [.int, .int], returnType := some .boolean }, accessFlags := 10, code := some k1c2 }
def k1c3 : Code := { maxStack := 4, maxLocals := 11, code := code, exceptionTable := #[], attributes := #[] }
def k1m3 : Method := { name := "law", desc := "(IIIII)Z", sig := { parameters := [.int, .int, .int, .int, .int], returnType := some .boolean }, accessFlags := 9, code := some k1c3 }
/-- com/example/shardwright/shardwright/kernel/config/DataNodeEqualsPinLaw -/
def k1 : Class := { plain "com/example/shardwright/shardwright/kernel/config/DataNodeEqualsPinLaw" (some 0) with
  accessFlags := 49
  interfaces := #[]
  cf := some (fileOf pool1 15 #[] #[{ accessFlags := 1, nameIndex := 5, descriptorIndex := 6, attributes := #[] }, { accessFlags := 10, nameIndex := 18, descriptorIndex := 19, attributes := #[] }, { accessFlags := 10, nameIndex := 29, descriptorIndex := 30, attributes := #[] }, { accessFlags := 9, nameIndex := 34, descriptorIndex := 35, attributes := #[] }] 49 2 #[] #[])
  fields := #[]
  methods := #[k1m0, k1m1, k1m2, k1m3]
  instanceTypes := #[]
  staticTypes := #[]
  resolved := Array.replicate 38 none
  statics := none }

def pool2 : Array CpInfo := pool [(1, .methodref 2 3), (0, .class_ 4), (0, .nameAndType 5 6), (0, u "java/lang/Object"), (0, u "<init>"), (0, u "()V"), (0, .fieldref 8 9), (0, .class_ 10), (0, .nameAndType 11 12), (0, u "com/example/shardwright/shardwright/kernel/config/DataNode"), (0, u "dataSource"), (0, u "Ljava/lang/String;"), (0, .fieldref 8 14), (0, .nameAndType 15 12), (0, u "table"), (0, .methodref 17 18), (0, .class_ 19), (0, .nameAndType 20 21), (0, u "java/lang/String"), (0, u "equals"), (0, u "(Ljava/lang/Object;)Z"), (10, u "(Ljava/lang/String;Ljava/lang/String;)V")] 26

def k2c0 : Code := { maxStack := 2, maxLocals := 3, code := prog_11_method_1_code, exceptionTable := #[], attributes := #[] }
def k2m0 : Method := { name := "<init>", desc := "(Ljava/lang/String;Ljava/lang/String;)V", sig := { parameters := [(.object "java/lang/String"), (.object "java/lang/String")], returnType := none }, accessFlags := 1, code := some k2c0 }
def k2c1 : Code := { maxStack := 2, maxLocals := 3, code := prog_11_method_4_code, exceptionTable := #[], attributes := #[] }
def k2m1 : Method := { name := "equals", desc := "(Ljava/lang/Object;)Z", sig := { parameters := [(.object "java/lang/Object")], returnType := some .boolean }, accessFlags := 1, code := some k2c1 }
/-- com/example/shardwright/shardwright/kernel/config/DataNode -/
def k2 : Class := { plain "com/example/shardwright/shardwright/kernel/config/DataNode" (some 0) with
  accessFlags := 49
  interfaces := #[]
  cf := some (fileOf pool2 8 #[] #[{ accessFlags := 1, nameIndex := 5, descriptorIndex := 32, attributes := #[] }, { accessFlags := 1, nameIndex := 20, descriptorIndex := 21, attributes := #[] }] 49 2 #[] #[{ accessFlags := 18, nameIndex := 11, descriptorIndex := 12, attributes := #[] }, { accessFlags := 18, nameIndex := 15, descriptorIndex := 12, attributes := #[] }])
  fields := #[{ name := "dataSource", type := (.object "java/lang/String"), accessFlags := 18, slot := 0, constantValue := 0 }, { name := "table", type := (.object "java/lang/String"), accessFlags := 18, slot := 1, constantValue := 0 }]
  methods := #[k2m0, k2m1]
  instanceTypes := #[(.object "java/lang/String"), (.object "java/lang/String")]
  staticTypes := #[]
  resolved := Array.replicate 59 none
  statics := none }

def pool3 : Array CpInfo := pool [(1, .class_ 2), (0, u "java/io/Serializable"), (0, .class_ 4), (0, u "java/lang/Object")] 2

/-- java/io/Serializable -/
def k3 : Class := { plain "java/io/Serializable" (some 0) with
  accessFlags := 1537
  interfaces := #[]
  cf := some (fileOf pool3 1 #[] #[] 1537 3 #[] #[])
  fields := #[]
  methods := #[]
  instanceTypes := #[]
  staticTypes := #[]
  resolved := Array.replicate 7 none
  statics := none }

def pool4 : Array CpInfo := pool [(1, .class_ 2), (0, u "java/lang/Comparable"), (0, .class_ 4), (0, u "java/lang/Object")] 7

/-- java/lang/Comparable -/
def k4 : Class := { plain "java/lang/Comparable" (some 0) with
  accessFlags := 1537
  interfaces := #[]
  cf := some (fileOf pool4 1 #[] #[] 1537 3 #[] #[])
  fields := #[]
  methods := #[]
  instanceTypes := #[]
  staticTypes := #[]
  resolved := Array.replicate 12 none
  statics := none }

def pool5 : Array CpInfo := pool [(2, .class_ 4), (1, u "java/lang/CharSequence"), (42, .class_ 48), (0, u "java/lang/CharSequence$1CodePointIterator"), (10, .class_ 60), (0, u "java/lang/CharSequence$1CharIterator"), (5, .class_ 67), (0, u "java/lang/Object")] 63

/-- java/lang/CharSequence -/
def k5 : Class := { plain "java/lang/CharSequence" (some 0) with
  accessFlags := 1537
  interfaces := #[]
  cf := some (fileOf pool5 2 #[.nestMembers #[47, 59]] #[] 1537 66 #[] #[])
  fields := #[]
  methods := #[]
  instanceTypes := #[]
  staticTypes := #[]
  resolved := Array.replicate 131 none
  statics := none }

def pool6 : Array CpInfo := pool [(1, .class_ 2), (0, u "java/lang/constant/Constable"), (0, .class_ 4), (0, u "java/lang/Object")] 6

/-- java/lang/constant/Constable -/
def k6 : Class := { plain "java/lang/constant/Constable" (some 0) with
  accessFlags := 1537
  interfaces := #[]
  cf := some (fileOf pool6 1 #[] #[] 1537 3 #[] #[])
  fields := #[]
  methods := #[]
  instanceTypes := #[]
  staticTypes := #[]
  resolved := Array.replicate 11 none
  statics := none }

def pool7 : Array CpInfo := pool [(1, .class_ 2), (0, u "java/lang/constant/ConstantDesc"), (0, .class_ 4), (0, u "java/lang/Object")] 32

/-- java/lang/constant/ConstantDesc -/
def k7 : Class := { plain "java/lang/constant/ConstantDesc" (some 0) with
  accessFlags := 1537
  interfaces := #[]
  cf := some (fileOf pool7 1 #[] #[] 1537 3 #[] #[])
  fields := #[]
  methods := #[]
  instanceTypes := #[]
  staticTypes := #[]
  resolved := Array.replicate 37 none
  statics := none }

def pool8 : Array CpInfo := pool [(1, .methodref 2 3), (0, .class_ 4), (0, .nameAndType 5 6), (0, u "java/lang/Object"), (0, u "<init>"), (0, u "()V"), (0, .string 8), (0, u ""), (0, .fieldref 10 11), (0, .class_ 12), (0, .nameAndType 13 14), (0, u "java/lang/String"), (0, u "value"), (0, u "[B"), (0, .fieldref 10 16), (0, .nameAndType 17 18), (0, u "coder"), (0, u "B"), (2, u "hash"), (0, u "I"), (2, u "hashIsZero"), (0, u "Z"), (0, .methodref 10 28), (0, .nameAndType 5 29), (0, u "([CIILjava/lang/Void;)V"), (8, .fieldref 10 39), (0, .nameAndType 40 26), (0, u "COMPACT_STRINGS"), (1, .class_ 44), (1, u "java/lang/StringUTF16"), (0, u "compress"), (1, .methodref 42 48), (0, .nameAndType 49 50), (0, u "coderFromArrayLen"), (0, u "([BI)B"), (56, .class_ 109), (1, u "java/lang/StringLatin1"), (67, .methodref 42 178), (0, .nameAndType 45 179), (0, u "([CII)[B"), (361, .methodref 107 542), (0, .nameAndType 543 544), (0, u "equals"), (0, u "([B[B)Z"), (28, u "(Ljava/lang/Object;)Z"), (1, .class_ 576), (0, u "java/lang/CharSequence"), (22, u "CASE_INSENSITIVE_ORDER"), (0, u "Ljava/util/Comparator;"), (409, u "([C)V"), (90, u "serialPersistentFields"), (0, u "[Ljava/io/ObjectStreamField;"), (0, .class_ 1104), (0, u "java/lang/String$CaseInsensitiveComparator"), (1, .class_ 1107), (0, u "java/io/Serializable"), (0, .class_ 1109), (0, u "java/lang/Comparable"), (0, .class_ 1111), (0, u "java/lang/constant/Constable"), (0, .class_ 1113), (0, u "java/lang/constant/ConstantDesc"), (2, u "serialVersionUID"), (0, u "J"), (3, u "REPL"), (0, u "C"), (2, u "LATIN1"), (1, u "UTF16")] 323

def k8m0 : Method := { name := "<init>", desc := "()V", sig := { parameters := [], returnType := none }, accessFlags := 1, code := none }
def k8c1 : Code := { maxStack := 5, maxLocals := 2, code := jdk_42_method_3_code, exceptionTable := #[], attributes := #[] }
def k8m1 : Method := { name := "<init>", desc := "([C)V", sig := { parameters := [(.array .char)], returnType := none }, accessFlags := 1, code := some k8c1 }
def k8c2 : Code := { maxStack := 2, maxLocals := 3, code := jdk_42_method_66_code, exceptionTable := #[], attributes := #[] }
def k8m2 : Method := { name := "equals", desc := "(Ljava/lang/Object;)Z", sig := { parameters := [(.object "java/lang/Object")], returnType := some .boolean }, accessFlags := 1, code := some k8c2 }
def k8c3 : Code := { maxStack := 4, maxLocals := 6, code := jdk_42_method_149_code, exceptionTable := #[], attributes := #[] }
def k8m3 : Method := { name := "<init>", desc := "([CIILjava/lang/Void;)V", sig := { parameters := [(.array .char), .int, .int, (.object "java/lang/Void")], returnType := none }, accessFlags := 2, code := some k8c3 }
/-- java/lang/String -/
def k8 : Class := { plain "java/lang/String" (some 0) with
  accessFlags := 49
  interfaces := #[3, 4, 5, 6, 7]
  cf := some (fileOf pool8 10 #[.nestMembers #[1103]] #[{ accessFlags := 1, nameIndex := 5, descriptorIndex := 6, attributes := #[] }, { accessFlags := 1, nameIndex := 5, descriptorIndex := 1010, attributes := #[] }, { accessFlags := 1, nameIndex := 543, descriptorIndex := 573, attributes := #[] }, { accessFlags := 2, nameIndex := 5, descriptorIndex := 29, attributes := #[] }] 49 2 #[1106, 1108, 575, 1110, 1112] #[{ accessFlags := 18, nameIndex := 13, descriptorIndex := 14, attributes := #[] }, { accessFlags := 18, nameIndex := 17, descriptorIndex := 18, attributes := #[] }, { accessFlags := 2, nameIndex := 21, descriptorIndex := 22, attributes := #[] }, { accessFlags := 2, nameIndex := 25, descriptorIndex := 26, attributes := #[] }, { accessFlags := 26, nameIndex := 1116, descriptorIndex := 1117, attributes := #[] }, { accessFlags := 24, nameIndex := 40, descriptorIndex := 26, attributes := #[] }, { accessFlags := 26, nameIndex := 1101, descriptorIndex := 1102, attributes := #[] }, { accessFlags := 26, nameIndex := 1121, descriptorIndex := 1122, attributes := #[] }, { accessFlags := 25, nameIndex := 599, descriptorIndex := 600, attributes := #[] }, { accessFlags := 24, nameIndex := 1125, descriptorIndex := 18, attributes := #[] }, { accessFlags := 24, nameIndex := 1127, descriptorIndex := 18, attributes := #[] }])
  fields := #[{ name := "value", type := (.array .byte), accessFlags := 18, slot := 0, constantValue := 0 }, { name := "coder", type := .byte, accessFlags := 18, slot := 1, constantValue := 0 }, { name := "hash", type := .int, accessFlags := 2, slot := 2, constantValue := 0 }, { name := "hashIsZero", type := .boolean, accessFlags := 2, slot := 3, constantValue := 0 }, { name := "serialVersionUID", type := .long, accessFlags := 26, slot := 0, constantValue := 0 }, { name := "COMPACT_STRINGS", type := .boolean, accessFlags := 24, slot := 1, constantValue := 0 }, { name := "serialPersistentFields", type := (.array (.object "java/io/ObjectStreamField")), accessFlags := 26, slot := 2, constantValue := 0 }, { name := "REPL", type := .char, accessFlags := 26, slot := 3, constantValue := 0 }, { name := "CASE_INSENSITIVE_ORDER", type := (.object "java/util/Comparator"), accessFlags := 25, slot := 4, constantValue := 0 }, { name := "LATIN1", type := .byte, accessFlags := 24, slot := 5, constantValue := 0 }, { name := "UTF16", type := .byte, accessFlags := 24, slot := 6, constantValue := 0 }]
  methods := #[k8m0, k8m1, k8m2, k8m3]
  instanceTypes := #[(.array .byte), .byte, .int, .boolean]
  staticTypes := #[.long, .boolean, (.array (.object "java/io/ObjectStreamField")), .char, (.object "java/util/Comparator"), .byte, .byte]
  resolved := Array.replicate 1451 none
  statics := some 0 }

def pool9 : Array CpInfo := pool [(6, .class_ 8), (1, u "java/lang/Object"), (0, u "<init>"), (0, u "()V"), (1, .class_ 14), (1, u "java/lang/StringUTF16"), (31, u "$assertionsDisabled"), (0, u "Z"), (13, u "HI_BYTE_SHIFT"), (0, u "I"), (2, u "LO_BYTE_SHIFT"), (49, .methodref 12 116), (0, .nameAndType 117 118), (0, u "compress"), (0, u "([CI[BII)I"), (3, u "([CII)[B"), (138, u "coderFromArrayLen"), (0, u "([BI)B"), (106, .class_ 371), (1, u "java/lang/StringUTF16$LinesSpliterator"), (58, u "MAX_LENGTH"), (196, .class_ 628), (0, u "java/lang/StringUTF16$CodePointsSpliterator"), (0, .class_ 630), (0, u "java/lang/StringUTF16$CharsSpliterator")] 4

def k9m0 : Method := { name := "<init>", desc := "()V", sig := { parameters := [], returnType := none }, accessFlags := 0, code := none }
def k9c1 : Code := { maxStack := 2, maxLocals := 2, code := jdk_52_method_15_code, exceptionTable := #[], attributes := #[] }
def k9m1 : Method := { name := "coderFromArrayLen", desc := "([BI)B", sig := { parameters := [(.array .byte), .int], returnType := some .byte }, accessFlags := 8, code := some k9c1 }
def k9c2 : Code := { maxStack := 5, maxLocals := 6, code := jdk_52_method_16_code, exceptionTable := #[], attributes := #[] }
def k9m2 : Method := { name := "compress", desc := "([CII)[B", sig := { parameters := [(.array .char), .int, .int], returnType := some (.array .byte) }, accessFlags := 9, code := some k9c2 }
def k9c3 : Code := { maxStack := 3, maxLocals := 7, code := jdk_52_method_21_code, exceptionTable := #[], attributes := #[] }
def k9m3 : Method := { name := "compress", desc := "([CI[BII)I", sig := { parameters := [(.array .char), .int, (.array .byte), .int, .int], returnType := some .int }, accessFlags := 9, code := some k9c3 }
/-- java/lang/StringUTF16 -/
def k9 : Class := { plain "java/lang/StringUTF16" (some 0) with
  accessFlags := 48
  interfaces := #[]
  cf := some (fileOf pool9 12 #[.nestMembers #[627, 629, 369]] #[{ accessFlags := 0, nameIndex := 9, descriptorIndex := 10, attributes := #[] }, { accessFlags := 8, nameIndex := 261, descriptorIndex := 262, attributes := #[] }, { accessFlags := 9, nameIndex := 117, descriptorIndex := 122, attributes := #[] }, { accessFlags := 9, nameIndex := 117, descriptorIndex := 118, attributes := #[] }] 48 6 #[] #[{ accessFlags := 26, nameIndex := 61, descriptorIndex := 62, attributes := #[] }, { accessFlags := 26, nameIndex := 65, descriptorIndex := 62, attributes := #[] }, { accessFlags := 24, nameIndex := 430, descriptorIndex := 62, attributes := #[] }, { accessFlags := 4120, nameIndex := 46, descriptorIndex := 47, attributes := #[] }])
  fields := #[{ name := "HI_BYTE_SHIFT", type := .int, accessFlags := 26, slot := 0, constantValue := 0 }, { name := "LO_BYTE_SHIFT", type := .int, accessFlags := 26, slot := 1, constantValue := 0 }, { name := "MAX_LENGTH", type := .int, accessFlags := 24, slot := 2, constantValue := 0 }, { name := "$assertionsDisabled", type := .boolean, accessFlags := 4120, slot := 3, constantValue := 0 }]
  methods := #[k9m0, k9m1, k9m2, k9m3]
  instanceTypes := #[]
  staticTypes := #[.int, .int, .int, .boolean]
  resolved := Array.replicate 635 none
  statics := none }

def pool10 : Array CpInfo := pool [(4, .class_ 6), (1, u "java/lang/Object"), (0, u "<init>"), (0, u "()V"), (5, .class_ 16), (1, u "java/lang/StringLatin1"), (104, u "$assertionsDisabled"), (0, u "Z"), (98, .class_ 223), (1, u "java/lang/StringLatin1$LinesSpliterator"), (57, u "equals"), (0, u "([B[B)Z"), (107, .class_ 391), (0, u "java/lang/StringLatin1$CharsSpliterator")] 3

def k10m0 : Method := { name := "<init>", desc := "()V", sig := { parameters := [], returnType := none }, accessFlags := 0, code := none }
def k10c1 : Code := { maxStack := 3, maxLocals := 3, code := jdk_43_method_13_code, exceptionTable := #[], attributes := #[] }
def k10m1 : Method := { name := "equals", desc := "([B[B)Z", sig := { parameters := [(.array .byte), (.array .byte)], returnType := some .boolean }, accessFlags := 9, code := some k10c1 }
/-- java/lang/StringLatin1 -/
def k10 : Class := { plain "java/lang/StringLatin1" (some 0) with
  accessFlags := 48
  interfaces := #[]
  cf := some (fileOf pool10 14 #[.nestMembers #[390, 221]] #[{ accessFlags := 0, nameIndex := 7, descriptorIndex := 8, attributes := #[] }, { accessFlags := 9, nameIndex := 281, descriptorIndex := 282, attributes := #[] }] 48 4 #[] #[{ accessFlags := 4120, nameIndex := 121, descriptorIndex := 122, attributes := #[] }])
  fields := #[{ name := "$assertionsDisabled", type := .boolean, accessFlags := 4120, slot := 0, constantValue := 0 }]
  methods := #[k10m0, k10m1]
  instanceTypes := #[]
  staticTypes := #[.boolean]
  resolved := Array.replicate 395 none
  statics := none }

def pool11 : Array CpInfo := pool [(2, .class_ 4), (1, u "java/lang/Object"), (0, u "<init>"), (0, u "()V"), (17, .class_ 26), (1, u "jdk/internal/util/Preconditions"), (28, .class_ 56), (0, u "jdk/internal/util/Preconditions$4"), (57, .class_ 115), (0, u "jdk/internal/util/Preconditions$1"), (7, u "SIOOBE_FORMATTER"), (0, u "Ljava/util/function/BiFunction;"), (0, .class_ 126), (0, u "jdk/internal/util/Preconditions$2"), (3, u "AIOOBE_FORMATTER"), (0, .class_ 132), (0, u "jdk/internal/util/Preconditions$3"), (3, u "IOOBE_FORMATTER")] 57

def k11m0 : Method := { name := "<init>", desc := "()V", sig := { parameters := [], returnType := none }, accessFlags := 1, code := none }
/-- jdk/internal/util/Preconditions -/
def k11 : Class := { plain "jdk/internal/util/Preconditions" (some 0) with
  accessFlags := 33
  interfaces := #[]
  cf := some (fileOf pool11 24 #[.nestMembers #[55, 131, 125, 114]] #[{ accessFlags := 1, nameIndex := 5, descriptorIndex := 6, attributes := #[] }] 33 2 #[] #[{ accessFlags := 25, nameIndex := 123, descriptorIndex := 124, attributes := #[] }, { accessFlags := 25, nameIndex := 130, descriptorIndex := 124, attributes := #[] }, { accessFlags := 25, nameIndex := 136, descriptorIndex := 124, attributes := #[] }])
  fields := #[{ name := "SIOOBE_FORMATTER", type := (.object "java/util/function/BiFunction"), accessFlags := 25, slot := 0, constantValue := 0 }, { name := "AIOOBE_FORMATTER", type := (.object "java/util/function/BiFunction"), accessFlags := 25, slot := 1, constantValue := 0 }, { name := "IOOBE_FORMATTER", type := (.object "java/util/function/BiFunction"), accessFlags := 25, slot := 2, constantValue := 0 }]
  methods := #[k11m0]
  instanceTypes := #[]
  staticTypes := #[(.object "java/util/function/BiFunction"), (.object "java/util/function/BiFunction"), (.object "java/util/function/BiFunction")]
  resolved := Array.replicate 194 none
  statics := some 1 }

def pool12 : Array CpInfo := pool [(9, u "<init>"), (6, .class_ 18), (1, u "java/lang/Object"), (0, u "()V"), (1, .class_ 23), (1, u "jdk/internal/util/ArraysSupport"), (0, u "LOG2_ARRAY_LONG_INDEX_SCALE"), (0, u "I"), (2, u "U"), (0, u "Ljdk/internal/misc/Unsafe;"), (8, u "BIG_ENDIAN"), (0, u "Z"), (8, u "LOG2_BYTE_BIT_SIZE"), (4, u "LOG2_ARRAY_INT_INDEX_SCALE"), (54, u "JLA"), (0, u "Ljdk/internal/access/JavaLangAccess;"), (11, u "LOG2_ARRAY_BOOLEAN_INDEX_SCALE"), (9, u "LOG2_ARRAY_BYTE_INDEX_SCALE"), (5, u "LOG2_ARRAY_CHAR_INDEX_SCALE"), (5, u "LOG2_ARRAY_SHORT_INDEX_SCALE"), (18, u "LOG2_ARRAY_FLOAT_INDEX_SCALE"), (24, u "LOG2_ARRAY_DOUBLE_INDEX_SCALE"), (89, u "T_BOOLEAN"), (2, u "T_CHAR"), (1, u "T_FLOAT"), (1, u "T_DOUBLE"), (1, u "T_BYTE"), (1, u "T_SHORT"), (1, u "T_INT"), (1, u "T_LONG"), (1, u "SOFT_MAX_ARRAY_LENGTH")] 83

def k12m0 : Method := { name := "<init>", desc := "()V", sig := { parameters := [], returnType := none }, accessFlags := 2, code := none }
/-- jdk/internal/util/ArraysSupport -/
def k12 : Class := { plain "jdk/internal/util/ArraysSupport" (some 0) with
  accessFlags := 33
  interfaces := #[]
  cf := some (fileOf pool12 21 #[] #[{ accessFlags := 2, nameIndex := 9, descriptorIndex := 19, attributes := #[] }] 33 16 #[] #[{ accessFlags := 24, nameIndex := 28, descriptorIndex := 29, attributes := #[] }, { accessFlags := 26, nameIndex := 38, descriptorIndex := 39, attributes := #[] }, { accessFlags := 25, nameIndex := 121, descriptorIndex := 25, attributes := #[] }, { accessFlags := 25, nameIndex := 131, descriptorIndex := 25, attributes := #[] }, { accessFlags := 25, nameIndex := 137, descriptorIndex := 25, attributes := #[] }, { accessFlags := 25, nameIndex := 143, descriptorIndex := 25, attributes := #[] }, { accessFlags := 25, nameIndex := 53, descriptorIndex := 25, attributes := #[] }, { accessFlags := 25, nameIndex := 24, descriptorIndex := 25, attributes := #[] }, { accessFlags := 25, nameIndex := 162, descriptorIndex := 25, attributes := #[] }, { accessFlags := 25, nameIndex := 187, descriptorIndex := 25, attributes := #[] }, { accessFlags := 26, nameIndex := 48, descriptorIndex := 25, attributes := #[] }, { accessFlags := 25, nameIndex := 277, descriptorIndex := 25, attributes := #[] }, { accessFlags := 25, nameIndex := 280, descriptorIndex := 25, attributes := #[] }, { accessFlags := 25, nameIndex := 282, descriptorIndex := 25, attributes := #[] }, { accessFlags := 25, nameIndex := 284, descriptorIndex := 25, attributes := #[] }, { accessFlags := 25, nameIndex := 286, descriptorIndex := 25, attributes := #[] }, { accessFlags := 25, nameIndex := 288, descriptorIndex := 25, attributes := #[] }, { accessFlags := 25, nameIndex := 290, descriptorIndex := 25, attributes := #[] }, { accessFlags := 25, nameIndex := 292, descriptorIndex := 25, attributes := #[] }, { accessFlags := 26, nameIndex := 108, descriptorIndex := 109, attributes := #[] }, { accessFlags := 25, nameIndex := 294, descriptorIndex := 25, attributes := #[] }])
  fields := #[{ name := "U", type := (.object "jdk/internal/misc/Unsafe"), accessFlags := 24, slot := 0, constantValue := 0 }, { name := "BIG_ENDIAN", type := .boolean, accessFlags := 26, slot := 1, constantValue := 0 }, { name := "LOG2_ARRAY_BOOLEAN_INDEX_SCALE", type := .int, accessFlags := 25, slot := 2, constantValue := 0 }, { name := "LOG2_ARRAY_BYTE_INDEX_SCALE", type := .int, accessFlags := 25, slot := 3, constantValue := 0 }, { name := "LOG2_ARRAY_CHAR_INDEX_SCALE", type := .int, accessFlags := 25, slot := 4, constantValue := 0 }, { name := "LOG2_ARRAY_SHORT_INDEX_SCALE", type := .int, accessFlags := 25, slot := 5, constantValue := 0 }, { name := "LOG2_ARRAY_INT_INDEX_SCALE", type := .int, accessFlags := 25, slot := 6, constantValue := 0 }, { name := "LOG2_ARRAY_LONG_INDEX_SCALE", type := .int, accessFlags := 25, slot := 7, constantValue := 0 }, { name := "LOG2_ARRAY_FLOAT_INDEX_SCALE", type := .int, accessFlags := 25, slot := 8, constantValue := 0 }, { name := "LOG2_ARRAY_DOUBLE_INDEX_SCALE", type := .int, accessFlags := 25, slot := 9, constantValue := 0 }, { name := "LOG2_BYTE_BIT_SIZE", type := .int, accessFlags := 26, slot := 10, constantValue := 0 }, { name := "T_BOOLEAN", type := .int, accessFlags := 25, slot := 11, constantValue := 0 }, { name := "T_CHAR", type := .int, accessFlags := 25, slot := 12, constantValue := 0 }, { name := "T_FLOAT", type := .int, accessFlags := 25, slot := 13, constantValue := 0 }, { name := "T_DOUBLE", type := .int, accessFlags := 25, slot := 14, constantValue := 0 }, { name := "T_BYTE", type := .int, accessFlags := 25, slot := 15, constantValue := 0 }, { name := "T_SHORT", type := .int, accessFlags := 25, slot := 16, constantValue := 0 }, { name := "T_INT", type := .int, accessFlags := 25, slot := 17, constantValue := 0 }, { name := "T_LONG", type := .int, accessFlags := 25, slot := 18, constantValue := 0 }, { name := "JLA", type := (.object "jdk/internal/access/JavaLangAccess"), accessFlags := 26, slot := 19, constantValue := 0 }, { name := "SOFT_MAX_ARRAY_LENGTH", type := .int, accessFlags := 25, slot := 20, constantValue := 0 }]
  methods := #[k12m0]
  instanceTypes := #[]
  staticTypes := #[(.object "jdk/internal/misc/Unsafe"), .boolean, .int, .int, .int, .int, .int, .int, .int, .int, .int, .int, .int, .int, .int, .int, .int, .int, .int, (.object "jdk/internal/access/JavaLangAccess"), .int]
  resolved := Array.replicate 378 none
  statics := none }

def pool13 : Array CpInfo := pool [(1, u "java/lang/Cloneable"), (0, .class_ 1), (0, u "java/lang/Object"), (0, .class_ 3)] 3

/-- java/lang/Cloneable -/
def k13 : Class := { plain "java/lang/Cloneable" (some 0) with
  accessFlags := 1537
  interfaces := #[]
  cf := some (fileOf pool13 2 #[] #[] 1537 4 #[] #[])
  fields := #[]
  methods := #[]
  instanceTypes := #[]
  staticTypes := #[]
  resolved := Array.replicate 8 none
  statics := none }

/-- the primitive byte -/
def k14 : Class := { plain "byte" none with kind := .primitive 'B', accessFlags := 0x411 }
/-- [B -/
def k15 : Class := { plain "[B" (some 0) with kind := .array 14 .byte, interfaces := #[13, 3], accessFlags := 1041 }

/-- the primitive char -/
def k16 : Class := { plain "char" none with kind := .primitive 'C', accessFlags := 0x411 }
/-- [C -/
def k17 : Class := { plain "[C" (some 0) with kind := .array 16 .char, interfaces := #[13, 3], accessFlags := 1041 }

/-- the primitive int -/
def k18 : Class := { plain "int" none with kind := .primitive 'I', accessFlags := 0x411 }
/-- [I -/
def k19 : Class := { plain "[I" (some 0) with kind := .array 18 .int, interfaces := #[13, 3], accessFlags := 1041 }

def heap : Heap := #[{ cls := 8, slots := #[.long 0, .int 1, .null, .int 0, .null, .int 0, .int 0], vm := .statics 8 },
  { cls := 11, slots := #[.null, .null, .null], vm := .statics 11 }]
def classes : Array Class := #[k0, k1, k2, k3, k4, k5, k6, k7, k8, k9, k10, k11, k12, k13, k14, k15, k16, k17, k18, k19]
def interned : List (Array UInt16 × Addr) := []
def slotsUsed : Nat := 10
def theMethod : MethodId := ⟨1, 3⟩
def args0 : Array Value := #[.int 5, .int 6, .int 7, .int 8, .int 0]
def aboutOver (below : List Frame) : State where
  vm := { classes := classes, interned := interned.toArray }
  heap := heap
  slotsUsed := slotsUsed
  threads := #[{ frames := .invoking theMethod args0 :: below }]
def below0 : List Frame := [.native { method := ⟨0, 0⟩, args := #[] }]
def about1 : State := aboutOver below0
def p0 : Program := .bare "" "" ""
def e0 : Env := launch0.env 0 0 0
theorem w_frames : about1.frames = Frame.invoking theMethod args0 :: below0 := rfl
set_option maxRecDepth 65536 in
theorem w_args : argsFit about1.vm theMethod args0 = true := by decide +kernel
set_option maxRecDepth 65536 in
theorem w_heap : heapFits about1 = true := by decide +kernel
set_option maxRecDepth 65536 in
theorem w_runnable : about1.curStatus? = some .runnable := by decide +kernel
set_option maxRecDepth 65536 in
theorem w_alone : about1.alone = true := by decide +kernel
set_option maxRecDepth 65536 in
theorem w_named : about1.methodNamed? x = some theMethod := by decide +kernel
set_option maxRecDepth 65536 in
theorem w_hears : about1.hears theMethod below0 = true := by decide +kernel
set_option maxRecDepth 65536 in
theorem w_ripe : about1.ripe theMethod args0 below0 = true := by decide +kernel
theorem w_running : about1.status = .running := rfl
set_option maxRecDepth 65536 in
theorem w_room : about1.hasRoom e0.platform room_1 = true :=
  launch0.hasRoom_least _ room_1 (by decide +kernel) (by decide +kernel) (by decide +kernel) (by decide +kernel) (by decide +kernel) (by decide +kernel)
theorem allAtoms_all (ts : List Jvm.Cond) (a : Array Jvm.Value) (st : Jvm.State) : (allAtoms ts).before a st = ts.all (fun c => c.before a st) := by
  induction ts with
  | nil => rfl
  | cons c t ih =>
    show (Jvm.Cond.and c (allAtoms t)).before a st = _
    rw [Jvm.Cond.before_and, ih, List.all_cons]
def words1 : List Jvm.Cond := Jvm.Cond.code x code maxLocals ret :: tables_1
/-- a 'code' word, met by the world's own term for the bytes: nothing is compared byte by byte -/
theorem code_word {y : MethodName} {bytes : ByteArray} {mx : Nat} {rt : Option FieldType} {a : Array Value} {s : State} {m : MethodId} {meth : Method} {c : Code} (h1 : s.methodNamed? y = some m) (h2 : s.vm.method? m = some meth) (h3 : meth.code = some c) (h4 : c.code = bytes)
    (h5 : (c.maxLocals == mx && c.exceptionTable.isEmpty && decide (c.maxStack ≤ mostOperands) && decide (meth.sig.returnType = rt) && !meth.locks && decide (parseMethodDescriptor y.desc = some meth.sig)) = true) : (Jvm.Cond.code y bytes mx rt).before a s = true := by
  simp only [Bool.and_eq_true, beq_iff_eq, Bool.not_eq_true', decide_eq_true_eq] at h5
  obtain ⟨⟨⟨⟨⟨g1, g2⟩, g3⟩, g4⟩, g5⟩, g6⟩ := h5
  simp [Cond.before, Cond.holds, Cond.value, h1, h2, h3, h4, g1, g2, g3, g4, g5, g6]
def isCode : Jvm.Cond → Bool
  | .code _ _ _ _ => true
  | _ => false
theorem all_split {L : List Jvm.Cond} {P : Jvm.Cond → Bool} (h1 : L.all (fun c => isCode c || P c) = true) (h2 : ∀ c ∈ L.filter isCode, P c = true) : L.all P = true := by
  refine List.all_eq_true.mpr fun c hc => ?_
  have h := List.all_eq_true.mp h1 c hc
  rcases Bool.eq_false_or_eq_true (isCode c) with hi | hi
  · exact h2 c (List.mem_filter.mpr ⟨hc, hi⟩)
  · simpa [hi] using h
set_option maxRecDepth 65536 in
theorem w_c0 : (Jvm.Cond.code x code maxLocals ret).before args0 about1 = true := code_word (m := ⟨1, 3⟩) (meth := k1m3) (c := k1c3) (by decide +kernel) rfl rfl rfl (by decide +kernel)
set_option maxRecDepth 65536 in
theorem w_c1 : (Jvm.Cond.code ({ cls := "com/example/shardwright/shardwright/kernel/config/DataNodeEqualsPinLaw", name := "mk", desc := "(I)Ljava/lang/String;" } : Jvm.MethodName) method_2_code (5 : Nat) (Option.some (Jvm.ClassFile.FieldType.object "java/lang/String"))).before args0 about1 = true := code_word (m := ⟨1, 1⟩) (meth := k1m1) (c := k1c1) (by decide +kernel) rfl rfl rfl (by decide +kernel)
set_option maxRecDepth 65536 in
theorem w_c2 : (Jvm.Cond.code ({ cls := "java/lang/String", name := "<init>", desc := "([C)V" } : Jvm.MethodName) jdk_42_method_3_code (2 : Nat) (Option.none : Option Jvm.ClassFile.FieldType)).before args0 about1 = true := code_word (m := ⟨8, 1⟩) (meth := k8m1) (c := k8c1) (by decide +kernel) rfl rfl rfl (by decide +kernel)
set_option maxRecDepth 65536 in
theorem w_c3 : (Jvm.Cond.code ({ cls := "java/lang/String", name := "<init>", desc := "([CIILjava/lang/Void;)V" } : Jvm.MethodName) jdk_42_method_149_code (6 : Nat) (Option.none : Option Jvm.ClassFile.FieldType)).before args0 about1 = true := code_word (m := ⟨8, 3⟩) (meth := k8m3) (c := k8c3) (by decide +kernel) rfl rfl rfl (by decide +kernel)
set_option maxRecDepth 65536 in
theorem w_c4 : (Jvm.Cond.code ({ cls := "java/lang/Object", name := "<init>", desc := "()V" } : Jvm.MethodName) object_method_1_code (1 : Nat) (Option.none : Option Jvm.ClassFile.FieldType)).before args0 about1 = true := code_word (m := ⟨0, 0⟩) (meth := k0m0) (c := k0c0) (by decide +kernel) rfl rfl rfl (by decide +kernel)
set_option maxRecDepth 65536 in
theorem w_c5 : (Jvm.Cond.code ({ cls := "java/lang/StringUTF16", name := "compress", desc := "([CII)[B" } : Jvm.MethodName) jdk_52_method_16_code (6 : Nat) (Option.some (Jvm.ClassFile.FieldType.array Jvm.ClassFile.FieldType.byte))).before args0 about1 = true := code_word (m := ⟨9, 2⟩) (meth := k9m2) (c := k9c2) (by decide +kernel) rfl rfl rfl (by decide +kernel)
set_option maxRecDepth 65536 in
theorem w_c6 : (Jvm.Cond.code ({ cls := "java/lang/StringUTF16", name := "compress", desc := "([CI[BII)I" } : Jvm.MethodName) jdk_52_method_21_code (7 : Nat) (Option.some Jvm.ClassFile.FieldType.int)).before args0 about1 = true := code_word (m := ⟨9, 3⟩) (meth := k9m3) (c := k9c3) (by decide +kernel) rfl rfl rfl (by decide +kernel)
set_option maxRecDepth 65536 in
theorem w_c7 : (Jvm.Cond.code ({ cls := "java/lang/StringUTF16", name := "coderFromArrayLen", desc := "([BI)B" } : Jvm.MethodName) jdk_52_method_15_code (2 : Nat) (Option.some Jvm.ClassFile.FieldType.byte)).before args0 about1 = true := code_word (m := ⟨9, 1⟩) (meth := k9m1) (c := k9c1) (by decide +kernel) rfl rfl rfl (by decide +kernel)
set_option maxRecDepth 65536 in
theorem w_c8 : (Jvm.Cond.code ({ cls := "com/example/shardwright/shardwright/kernel/config/DataNode", name := "<init>", desc := "(Ljava/lang/String;Ljava/lang/String;)V" } : Jvm.MethodName) prog_11_method_1_code (3 : Nat) (Option.none : Option Jvm.ClassFile.FieldType)).before args0 about1 = true := code_word (m := ⟨2, 0⟩) (meth := k2m0) (c := k2c0) (by decide +kernel) rfl rfl rfl (by decide +kernel)
set_option maxRecDepth 65536 in
theorem w_c9 : (Jvm.Cond.code ({ cls := "com/example/shardwright/shardwright/kernel/config/DataNodeEqualsPinLaw", name := "same", desc := "(II)Z" } : Jvm.MethodName) method_3_code (6 : Nat) (Option.some Jvm.ClassFile.FieldType.boolean)).before args0 about1 = true := code_word (m := ⟨1, 2⟩) (meth := k1m2) (c := k1c2) (by decide +kernel) rfl rfl rfl (by decide +kernel)
set_option maxRecDepth 65536 in
theorem w_c10 : (Jvm.Cond.code ({ cls := "com/example/shardwright/shardwright/kernel/config/DataNode", name := "equals", desc := "(Ljava/lang/Object;)Z" } : Jvm.MethodName) prog_11_method_4_code (3 : Nat) (Option.some Jvm.ClassFile.FieldType.boolean)).before args0 about1 = true := code_word (m := ⟨2, 1⟩) (meth := k2m1) (c := k2c1) (by decide +kernel) rfl rfl rfl (by decide +kernel)
set_option maxRecDepth 65536 in
theorem w_c11 : (Jvm.Cond.code ({ cls := "java/lang/String", name := "equals", desc := "(Ljava/lang/Object;)Z" } : Jvm.MethodName) jdk_42_method_66_code (3 : Nat) (Option.some Jvm.ClassFile.FieldType.boolean)).before args0 about1 = true := code_word (m := ⟨8, 2⟩) (meth := k8m2) (c := k8c2) (by decide +kernel) rfl rfl rfl (by decide +kernel)
set_option maxRecDepth 65536 in
theorem w_c12 : (Jvm.Cond.code ({ cls := "java/lang/StringLatin1", name := "equals", desc := "([B[B)Z" } : Jvm.MethodName) jdk_43_method_13_code (3 : Nat) (Option.some Jvm.ClassFile.FieldType.boolean)).before args0 about1 = true := code_word (m := ⟨10, 1⟩) (meth := k10m1) (c := k10c1) (by decide +kernel) rfl rfl rfl (by decide +kernel)
def codes1 : List Jvm.Cond := [Jvm.Cond.code x code maxLocals ret, Jvm.Cond.code ({ cls := "com/example/shardwright/shardwright/kernel/config/DataNodeEqualsPinLaw", name := "mk", desc := "(I)Ljava/lang/String;" } : Jvm.MethodName) method_2_code (5 : Nat) (Option.some (Jvm.ClassFile.FieldType.object "java/lang/String")), Jvm.Cond.code ({ cls := "java/lang/String", name := "<init>", desc := "([C)V" } : Jvm.MethodName) jdk_42_method_3_code (2 : Nat) (Option.none : Option Jvm.ClassFile.FieldType), Jvm.Cond.code ({ cls := "java/lang/String", name := "<init>", desc := "([CIILjava/lang/Void;)V" } : Jvm.MethodName) jdk_42_method_149_code (6 : Nat) (Option.none : Option Jvm.ClassFile.FieldType), Jvm.Cond.code ({ cls := "java/lang/Object", name := "<init>", desc := "()V" } : Jvm.MethodName) object_method_1_code (1 : Nat) (Option.none : Option Jvm.ClassFile.FieldType), Jvm.Cond.code ({ cls := "java/lang/StringUTF16", name := "compress", desc := "([CII)[B" } : Jvm.MethodName) jdk_52_method_16_code (6 : Nat) (Option.some (Jvm.ClassFile.FieldType.array Jvm.ClassFile.FieldType.byte)), Jvm.Cond.code ({ cls := "java/lang/StringUTF16", name := "compress", desc := "([CI[BII)I" } : Jvm.MethodName) jdk_52_method_21_code (7 : Nat) (Option.some Jvm.ClassFile.FieldType.int), Jvm.Cond.code ({ cls := "java/lang/StringUTF16", name := "coderFromArrayLen", desc := "([BI)B" } : Jvm.MethodName) jdk_52_method_15_code (2 : Nat) (Option.some Jvm.ClassFile.FieldType.byte), Jvm.Cond.code ({ cls := "com/example/shardwright/shardwright/kernel/config/DataNode", name := "<init>", desc := "(Ljava/lang/String;Ljava/lang/String;)V" } : Jvm.MethodName) prog_11_method_1_code (3 : Nat) (Option.none : Option Jvm.ClassFile.FieldType), Jvm.Cond.code ({ cls := "com/example/shardwright/shardwright/kernel/config/DataNodeEqualsPinLaw", name := "same", desc := "(II)Z" } : Jvm.MethodName) method_3_code (6 : Nat) (Option.some Jvm.ClassFile.FieldType.boolean), Jvm.Cond.code ({ cls := "com/example/shardwright/shardwright/kernel/config/DataNode", name := "equals", desc := "(Ljava/lang/Object;)Z" } : Jvm.MethodName) prog_11_method_4_code (3 : Nat) (Option.some Jvm.ClassFile.FieldType.boolean), Jvm.Cond.code ({ cls := "java/lang/String", name := "equals", desc := "(Ljava/lang/Object;)Z" } : Jvm.MethodName) jdk_42_method_66_code (3 : Nat) (Option.some Jvm.ClassFile.FieldType.boolean), Jvm.Cond.code ({ cls := "java/lang/StringLatin1", name := "equals", desc := "([B[B)Z" } : Jvm.MethodName) jdk_43_method_13_code (3 : Nat) (Option.some Jvm.ClassFile.FieldType.boolean)]
set_option maxRecDepth 65536 in
theorem codes_eq : words1.filter isCode = codes1 := rfl
theorem w_codes : ∀ c ∈ words1.filter isCode, c.before args0 about1 = true := by
  rw [codes_eq]
  intro c hc
  simp only [codes1, List.mem_cons, List.not_mem_nil, or_false] at hc
  rcases hc with rfl | rfl | rfl | rfl | rfl | rfl | rfl | rfl | rfl | rfl | rfl | rfl | rfl
  · exact w_c0
  · exact w_c1
  · exact w_c2
  · exact w_c3
  · exact w_c4
  · exact w_c5
  · exact w_c6
  · exact w_c7
  · exact w_c8
  · exact w_c9
  · exact w_c10
  · exact w_c11
  · exact w_c12
set_option maxRecDepth 65536 in
theorem w_t1 : (words1.take 24).all (fun c => isCode c || c.before args0 about1) = true := by decide +kernel
set_option maxRecDepth 65536 in
theorem w_t2 : ((words1.drop 24).take 24).all (fun c => isCode c || c.before args0 about1) = true := by decide +kernel
set_option maxRecDepth 65536 in
theorem w_t3 : ((words1.drop 24).drop 24).all (fun c => isCode c || c.before args0 about1) = true := by decide +kernel
theorem w_tables : (allAtoms (Jvm.Cond.code x code maxLocals ret :: tables_1)).before args0 about1 = true := by
  rw [allAtoms_all]
  show words1.all (fun c => c.before args0 about1) = true
  refine all_split ?_ w_codes
  rw [← List.take_append_drop 24 words1, List.all_append, w_t1, ← List.take_append_drop 24 (words1.drop 24), List.all_append, w_t2, w_t3]
  rfl
set_option maxRecDepth 65536 in
theorem w_rest : rest_1_c.before args0 about1 = true := by decide +kernel
set_option maxRecDepth 65536 in
theorem w_case : (Jvm.Cond.and given_1 narrow_1).before args0 about1 = true := by decide +kernel
set_option maxRecDepth 65536 in
theorem w_consts : constsHeld consts_1 about1 := Jvm.Lit.constsHeldB_iff.mp (by decide +kernel)
theorem w_applies : (headSpec (Jvm.Cond.code x code maxLocals ret :: tables_1) room_1).applies x e0.platform about1 = true :=
  (Spec.applies_iff w_frames).mpr ⟨w_running, w_runnable, w_alone, w_named, w_hears, w_ripe, w_room, w_tables⟩
theorem atStart : AtStart classFile x code maxLocals ret World_1 tables_1 room_1 Calls_1 rest_1 Pre_1 launch0 p0 e0 about1 theMethod args0 below0 :=
  ⟨lists_1, trivial, launch0.admits_env _ _ _, launch0.least_env, fairChoices_fair.cas, fairChoices_fair.clock, w_frames, w_args, w_heap, w_applies, ⟨w_consts, trivial⟩, w_rest, w_case⟩
end start1
theorem witness_1 : WitnessClaimed_1 := ⟨start1.p0, start1.e0, start1.about1, start1.theMethod, start1.args0, start1.below0, start1.atStart⟩
end Jvm.Pilot.@@N@@
