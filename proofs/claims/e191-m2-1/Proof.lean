import JvmDerived
import JvmDerived.Pilot.@@N@@Statement
import JvmDerived.Pilot.@@N@@Code
set_option linter.unusedVariables false
set_option linter.unusedSimpArgs false
namespace Jvm.RoadKit
open Sem ClassFile Op Lib Jvm.Stand Jvm.Free Jvm.LawKit
section OwnKit
variable {p : Program} {l : Launch} {e : Env} {R : Room} {s : State} {m : MethodId} {args : Array Value} {below : List Frame} {meth : Method} {c : Code} {T : State} {locs : List Loc} {cells slots : Nat}
/-- the run from U ends the invocation, and P holds there -/
def OGo (p : Program) (e : Env) (below : List Frame) (P : Outcome → State → Prop) (U : State) : Prop :=
  ∃ s₂ o, Steps p.tables e below U s₂ ∧ s₂.status = .running ∧ Ended s₂ below o ∧ P o s₂
theorem OGo.by_ {P : Outcome → State → Prop} {U U' : State} (h : ∀ t, Steps p.tables e below U' t → Steps p.tables e below U t) (g : OGo p e below P U') : OGo p e below P U := by
  obtain ⟨t, o, a, b⟩ := g
  exact ⟨t, o, h t a, b⟩
abbrev OEnd (s : State) (Q : Option Value → Heap → List Loc → Prop) (k n : Nat) (o : Outcome) (U' : State) : Prop :=
  ∃ v L, o = .returned v ∧ Q v U'.heap L ∧ FrameEnd s o U' L k n
theorem own_lt {a : Addr} {n : Nat} (h : a < n) : @LT.lt Nat instLTNat a n := h
theorem own_ne {a b : Addr} (h : @LT.lt Nat instLTNat a b) : a ≠ b := Nat.ne_of_lt h
theorem own_ne' {a b : Addr} (h : @LT.lt Nat instLTNat b a) : a ≠ b := Nat.ne_of_gt h
variable {Q : Option Value → Heap → List Loc → Prop} {k n : Nat} {pc : Nat} {Ls : Array Slot} {rest : List Value}
theorem own_retW (X : Stand p l e R s m args below meth c T locs cells slots) (hx : p.tables.exec = Jvm.exec) (hlk : meth.locks = false) {w : Value} {t : FieldType} {i : Instr} (hret : meth.sig.returnType = some t) (hn : narrow t w = w)
    (hi : (i = .ireturn ∧ (t = .int ∨ t = .boolean ∨ t = .byte ∨ t = .char ∨ t = .short) ∧ ∃ z, w = .int z) ∨ (i = .lreturn ∧ t = .long ∧ ∃ z, w = .long z) ∨ (i = .dreturn ∧ t = .double ∧ ∃ z, w = .double z) ∨ (i = .freturn ∧ t = .float ∧ ∃ z, w = .float z) ∨ (i = .areturn ∧ t.isReference = true ∧ w.isRef = true))
    (hd : decode c.code pc = .ok (i, 1)) (hk : cells ≤ k) (hs : slots ≤ n) (hQ : Q (some w) T.heap locs) : OGo p e below (OEnd s Q k n) (T.setTop (mkF m pc Ls (w :: rest))) := by
  obtain ⟨fs, hr, hrun, hended, hW, hsame⟩ := X.leave (v := some w) (fun h => by rw [hret] at h; cases h) hlk
  exact ⟨_, _, retOut X hx hret hn hi hd hr, hrun, hended, _, _, rfl, hQ, ⟨_, rfl⟩, hW, hsame.mono hk hs⟩
theorem own_retI (X : Stand p l e R s m args below meth c T locs cells slots) (hx : p.tables.exec = Jvm.exec) (hlk : meth.locks = false) {z : Int32} (hret : meth.sig.returnType = some .int)
    (hd : decode c.code pc = .ok (.ireturn, 1)) (hk : cells ≤ k) (hs : slots ≤ n) (hQ : Q (some (.int z)) T.heap locs) : OGo p e below (OEnd s Q k n) (T.setTop (mkF m pc Ls (.int z :: rest))) :=
  own_retW X hx hlk hret rfl (Or.inl ⟨rfl, Or.inl rfl, z, rfl⟩) hd hk hs hQ
theorem own_retJ (X : Stand p l e R s m args below meth c T locs cells slots) (hx : p.tables.exec = Jvm.exec) (hlk : meth.locks = false) {z : Int64} (hret : meth.sig.returnType = some .long)
    (hd : decode c.code pc = .ok (.lreturn, 1)) (hk : cells ≤ k) (hs : slots ≤ n) (hQ : Q (some (.long z)) T.heap locs) : OGo p e below (OEnd s Q k n) (T.setTop (mkF m pc Ls (.long z :: rest))) :=
  own_retW X hx hlk hret rfl (Or.inr (Or.inl ⟨rfl, rfl, z, rfl⟩)) hd hk hs hQ
theorem own_retA (X : Stand p l e R s m args below meth c T locs cells slots) (hx : p.tables.exec = Jvm.exec) (hlk : meth.locks = false) {w : Value} {t : FieldType} (hret : meth.sig.returnType = some t) (ht : t.isReference = true) (hw : w.isRef = true)
    (hd : decode c.code pc = .ok (.areturn, 1)) (hk : cells ≤ k) (hs : slots ≤ n) (hQ : Q (some w) T.heap locs) : OGo p e below (OEnd s Q k n) (T.setTop (mkF m pc Ls (w :: rest))) :=
  own_retW X hx hlk hret (by cases t <;> cases w <;> simp [FieldType.isReference, Value.isRef] at ht hw <;> rfl) (Or.inr (Or.inr (Or.inr (Or.inr ⟨rfl, ht, hw⟩)))) hd hk hs hQ
theorem own_retN (X : Stand p l e R s m args below meth c T locs cells slots) (hx : p.tables.exec = Jvm.exec) (hlk : meth.locks = false) {z : Int32} {t : FieldType} (hret : meth.sig.returnType = some t) (ht : t = .boolean ∨ t = .byte ∨ t = .char ∨ t = .short)
    (hd : decode c.code pc = .ok (.ireturn, 1)) (hk : cells ≤ k) (hs : slots ≤ n) (hQ : Q (some (.int (nar t z))) T.heap locs) : OGo p e below (OEnd s Q k n) (T.setTop (mkF m pc Ls (.int z :: rest))) := by
  obtain ⟨fs, hr, hrun, hended, hW, hsame⟩ := X.leave (v := some (.int (nar t z))) (fun h => by rw [hret] at h; cases h) hlk
  exact ⟨_, _, retN X hx hret ht hd hr, hrun, hended, _, _, rfl, hQ, ⟨_, rfl⟩, hW, hsame.mono hk hs⟩
theorem own_ret (X : Stand p l e R s m args below meth c T locs cells slots) (hx : p.tables.exec = Jvm.exec) (hlk : meth.locks = false) (hret : meth.sig.returnType = none)
    (hd : decode c.code pc = .ok (.return_, 1)) (hk : cells ≤ k) (hs : slots ≤ n) (hQ : Q none T.heap locs) : OGo p e below (OEnd s Q k n) (T.setTop (mkF m pc Ls [])) := by
  obtain ⟨fs, hr, hrun, hended, hW, hsame⟩ := X.leave (v := none) (fun _ => rfl) hlk
  exact ⟨_, _, X.returnOut hx hret hd hr, hrun, hended, _, _, rfl, hQ, ⟨_, rfl⟩, hW, hsame.mono hk hs⟩
abbrev OEndW (s : State) (Q : Option Value → Heap → List Loc → Prop) (k n : Nat) (o : Outcome) (U' : State) : Prop :=
  ∃ v L, o = .returned v ∧ Q v U'.heap L ∧ ReturnedEndW s o U' L k n
variable {vm₁ : Vm} {j : Nat}
theorem own_wretW (X : Stand p l e R (s.setVm vm₁) m args below meth c T locs cells slots) (hS : s.Since vm₁ j) (hj : j ≤ T.heap.size) (hx : p.tables.exec = Jvm.exec) (hlk : meth.locks = false) {w : Value} {t : FieldType} {i : Instr} (hret : meth.sig.returnType = some t) (hn : narrow t w = w)
    (hi : (i = .ireturn ∧ (t = .int ∨ t = .boolean ∨ t = .byte ∨ t = .char ∨ t = .short) ∧ ∃ z, w = .int z) ∨ (i = .lreturn ∧ t = .long ∧ ∃ z, w = .long z) ∨ (i = .dreturn ∧ t = .double ∧ ∃ z, w = .double z) ∨ (i = .freturn ∧ t = .float ∧ ∃ z, w = .float z) ∨ (i = .areturn ∧ t.isReference = true ∧ w.isRef = true))
    (hd : decode c.code pc = .ok (i, 1)) (hk : cells ≤ k) (hs : slots ≤ n) (hQ : Q (some w) T.heap locs) : OGo p e below (OEndW s Q k n) (T.setTop (mkF m pc Ls (w :: rest))) := by
  obtain ⟨fs, hr, hrun, hended, h1, h2, h3, h4⟩ := X.leaveW hS hj (v := some w) (fun h => by rw [hret] at h; cases h) hlk
  exact ⟨_, _, retOut X hx hret hn hi hd hr, hrun, hended, _, _, rfl, hQ, h1, h2, h3, h4.mono hk hs⟩
theorem own_wretI (X : Stand p l e R (s.setVm vm₁) m args below meth c T locs cells slots) (hS : s.Since vm₁ j) (hj : j ≤ T.heap.size) (hx : p.tables.exec = Jvm.exec) (hlk : meth.locks = false) {z : Int32} (hret : meth.sig.returnType = some .int)
    (hd : decode c.code pc = .ok (.ireturn, 1)) (hk : cells ≤ k) (hs : slots ≤ n) (hQ : Q (some (.int z)) T.heap locs) : OGo p e below (OEndW s Q k n) (T.setTop (mkF m pc Ls (.int z :: rest))) :=
  own_wretW X hS hj hx hlk hret rfl (Or.inl ⟨rfl, Or.inl rfl, z, rfl⟩) hd hk hs hQ
theorem own_wretA (X : Stand p l e R (s.setVm vm₁) m args below meth c T locs cells slots) (hS : s.Since vm₁ j) (hj : j ≤ T.heap.size) (hx : p.tables.exec = Jvm.exec) (hlk : meth.locks = false) {w : Value} {t : FieldType} (hret : meth.sig.returnType = some t) (ht : t.isReference = true) (hw : w.isRef = true)
    (hd : decode c.code pc = .ok (.areturn, 1)) (hk : cells ≤ k) (hs : slots ≤ n) (hQ : Q (some w) T.heap locs) : OGo p e below (OEndW s Q k n) (T.setTop (mkF m pc Ls (w :: rest))) :=
  own_wretW X hS hj hx hlk hret (by cases t <;> cases w <;> simp [FieldType.isReference, Value.isRef] at ht hw <;> rfl) (Or.inr (Or.inr (Or.inr (Or.inr ⟨rfl, ht, hw⟩)))) hd hk hs hQ
theorem own_wretN (X : Stand p l e R (s.setVm vm₁) m args below meth c T locs cells slots) (hS : s.Since vm₁ j) (hj : j ≤ T.heap.size) (hx : p.tables.exec = Jvm.exec) (hlk : meth.locks = false) {z : Int32} {t : FieldType} (hret : meth.sig.returnType = some t) (ht : t = .boolean ∨ t = .byte ∨ t = .char ∨ t = .short)
    (hd : decode c.code pc = .ok (.ireturn, 1)) (hk : cells ≤ k) (hs : slots ≤ n) (hQ : Q (some (.int (nar t z))) T.heap locs) : OGo p e below (OEndW s Q k n) (T.setTop (mkF m pc Ls (.int z :: rest))) := by
  obtain ⟨fs, hr, hrun, hended, h1, h2, h3, h4⟩ := X.leaveW hS hj (v := some (.int (nar t z))) (fun h => by rw [hret] at h; cases h) hlk
  exact ⟨_, _, retN X hx hret ht hd hr, hrun, hended, _, _, rfl, hQ, h1, h2, h3, h4.mono hk hs⟩
theorem own_wret (X : Stand p l e R (s.setVm vm₁) m args below meth c T locs cells slots) (hS : s.Since vm₁ j) (hj : j ≤ T.heap.size) (hx : p.tables.exec = Jvm.exec) (hlk : meth.locks = false) (hret : meth.sig.returnType = none)
    (hd : decode c.code pc = .ok (.return_, 1)) (hk : cells ≤ k) (hs : slots ≤ n) (hQ : Q none T.heap locs) : OGo p e below (OEndW s Q k n) (T.setTop (mkF m pc Ls [])) := by
  obtain ⟨fs, hr, hrun, hended, h1, h2, h3, h4⟩ := X.leaveW hS hj (v := none) (fun _ => rfl) hlk
  exact ⟨_, _, X.returnOut hx hret hd hr, hrun, hended, _, _, rfl, hQ, h1, h2, h3, h4.mono hk hs⟩
end OwnKit
end Jvm.RoadKit
namespace Jvm.Pilot.@@N@@
open Jvm Jvm.ClassFile Sem Op Lib Jvm.Free Jvm.Stand Jvm.LawKit Jvm.RoadKit Bundle Jvm.Pilot.@@N@@.Jvm.D
def own_ST (Z : State) (h : Heap) (a b : Addr) (n : Int32) (xs : List Int32) : Prop := Exa Z h a "com/example/fair_witness/fairwitness/model/State" ∧ ((Fld Z h a "com/example/fair_witness/fairwitness/model/State" "smallIndices" "[B" (.ref b) ∧ Fld Z h a "com/example/fair_witness/fairwitness/model/State" "valueIndices" "[I" .null ∧ (∃ k, Arv Z h b k .byte n (xs.map fun x => .int x.toInt8.toInt32) (.int (0 : Int32))) ∧ ∀ x ∈ xs, (x.toInt8.toInt32 &&& (255 : Int32)) = x) ∨ (Fld Z h a "com/example/fair_witness/fairwitness/model/State" "smallIndices" "[B" .null ∧ Fld Z h a "com/example/fair_witness/fairwitness/model/State" "valueIndices" "[I" (.ref b) ∧ Exa Z h b "[I" ∧ ∃ k, Arv Z h b k .int n (xs.map .int) (.int (0 : Int32))))
theorem own_ST_keep {Z : State} {h h' : Heap} {a b : Addr} {n : Int32} {xs : List Int32} {ws : List Addr} (F : own_ST Z h a b n xs) (K : Keep h h' ws) (ha : a ∉ ws) (hb : b ∉ ws) : own_ST Z h' a b n xs := by
  obtain ⟨E, ⟨f1, f2, ⟨k, f3⟩, f4⟩ | ⟨f1, f2, f3, k, f4⟩⟩ := F
  · exact ⟨E.keep K, Or.inl ⟨f1.keep K ha, f2.keep K ha, ⟨k, f3.keep K hb⟩, f4⟩⟩
  · exact ⟨E.keep K, Or.inr ⟨f1.keep K ha, f2.keep K ha, f3.keep K, k, f4.keep K hb⟩⟩
theorem own_ST_lt {Z : State} {h : Heap} {a b : Addr} {n : Int32} {xs : List Int32} (F : own_ST Z h a b n xs) : h.size > a ∧ h.size > b := by
  obtain ⟨E, ⟨f1, f2, ⟨k, f3⟩, f4⟩ | ⟨f1, f2, f3, k, f4⟩⟩ := F
  · exact ⟨E.lt, f3.lt⟩
  · exact ⟨E.lt, f4.lt⟩
theorem own_ext_keep {h h' : Heap} (E : Ext h h') : Keep h h' [] := (Keep.refl h []).ext E
theorem own_nin1 {x y : Addr} (h : x ≠ y) : x ∉ [y] := ninS h nin0
theorem own_mask (a mk : Int32) (k : Nat) (hk : k < 32) (hm : mk.toBitVec.toNat = 2 ^ k - 1) : (a &&& mk).toInt = a.toInt % 2 ^ k := by
  have e1 : (a &&& mk).toInt = (a.toBitVec &&& mk.toBitVec).toInt := rfl
  have e2 : (a.toBitVec &&& mk.toBitVec).toNat = a.toBitVec.toNat % 2 ^ k := by
    rw [BitVec.toNat_and, hm]; exact Nat.and_two_pow_sub_one_eq_mod _ k
  have e3 : a.toInt = a.toBitVec.toInt := rfl
  have hp : 2 ^ k ∣ 2 ^ 32 := Nat.pow_dvd_pow 2 (Nat.le_of_lt hk)
  have hp2 : 2 ^ k ≤ 2 ^ 31 := Nat.pow_le_pow_right (by decide) (Nat.le_of_lt_succ hk)
  have hlt : a.toBitVec.toNat % 2 ^ k < 2 ^ k := Nat.mod_lt _ (Nat.two_pow_pos k)
  rw [e1, e3, BitVec.toInt_eq_toNat_cond, BitVec.toInt_eq_toNat_cond, e2]
  have c : ((2 ^ k : Nat) : Int) = (2 : Int) ^ k := by norm_cast
  obtain ⟨q, hq⟩ := hp
  rw [if_pos (by omega)]
  split
  · rw [← c, ← Int.natCast_emod]
  · rw [← c, hq]
    rw [Int.natCast_mul, Int.sub_mul_emod_self_left, Int.natCast_emod]
theorem own_and3 (p : Int32) : (p &&& (3 : Int32)) = 0 ∨ (p &&& (3 : Int32)) = 1 ∨ (p &&& (3 : Int32)) = 2 ∨ (p &&& (3 : Int32)) = 3 := by
  have h : (p &&& (3 : Int32)).toInt = p.toInt % 2 ^ 2 := own_mask p 3 2 (by decide) (by decide)
  simp only [← Int32.toInt_inj]
  have e0 : (0 : Int32).toInt = 0 := by decide
  have e1 : (1 : Int32).toInt = 1 := by decide
  have e2 : (2 : Int32).toInt = 2 := by decide
  have e3 : (3 : Int32).toInt = 3 := by decide
  omega
theorem own_nb8 (x : Int32) : nar .byte (x.toInt8.toInt32) = x.toInt8.toInt32 := by simp [nar]
theorem own_u {v : Int32} (h0 : ¬ v < 0) (h : v < 256) : v.toBitVec.toNat < 256 := by
  rw [Int32.lt_iff_toInt_lt] at h0 h
  have e : v.toInt = v.toBitVec.toInt := rfl
  have e0 : (0 : Int32).toInt = 0 := by decide
  have e1 : (256 : Int32).toInt = 256 := by decide
  rw [e, BitVec.toInt_eq_toNat_cond] at h0 h
  have hl := v.toBitVec.isLt
  split at h <;> omega
theorem own_orL {a b : Int32} (h : (a ||| b).toBitVec.toNat < 256) : a.toBitVec.toNat < 256 := by
  have e : (a ||| b).toBitVec.toNat = a.toBitVec.toNat ||| b.toBitVec.toNat := by
    show (a.toBitVec ||| b.toBitVec).toNat = _
    exact BitVec.toNat_or ..
  rw [e] at h
  exact Nat.lt_of_le_of_lt Nat.left_le_or h
theorem own_orR {a b : Int32} (h : (a ||| b).toBitVec.toNat < 256) : b.toBitVec.toNat < 256 := by
  have e : (a ||| b).toBitVec.toNat = a.toBitVec.toNat ||| b.toBitVec.toNat := by
    show (a.toBitVec ||| b.toBitVec).toNat = _
    exact BitVec.toNat_or ..
  rw [e] at h
  exact Nat.lt_of_le_of_lt Nat.right_le_or h
theorem own_b255 {v : Int32} (h : v.toBitVec.toNat < 256) : (v.toInt8.toInt32 &&& (255 : Int32)) = v := by
  rw [← Int32.toInt_inj, own_mask _ 255 8 (by decide) (by decide)]
  have e : v.toInt = v.toBitVec.toInt := rfl
  have hb := c_i2b v
  rw [BitVec.toInt_eq_toNat_cond, if_pos (by omega)] at e
  omega
theorem own_sm0 {P Q : Prop} (h0 : P) (h : Q) : ∀ x ∈ ([] : List Int32), (x.toInt8.toInt32 &&& (255 : Int32)) = x := fun x hx => nomatch hx
theorem own_sm1 {x : Int32} (h0 : ¬ ((0 : Int32) ||| x) < (0 : Int32)) (h : ((0 : Int32) ||| x) < (256 : Int32)) : ∀ v ∈ [x], (v.toInt8.toInt32 &&& (255 : Int32)) = v := by
  have q := own_u h0 h
  intro v hv
  cases List.mem_singleton.mp hv
  exact own_b255 (own_orR q)
theorem own_sm2 {x y : Int32} (h0 : ¬ (((0 : Int32) ||| x) ||| y) < (0 : Int32)) (h : (((0 : Int32) ||| x) ||| y) < (256 : Int32)) : ∀ v ∈ [x, y], (v.toInt8.toInt32 &&& (255 : Int32)) = v := by
  have q := own_u h0 h
  intro v hv
  rcases List.mem_cons.mp hv with rfl | hv
  · exact own_b255 (own_orR (own_orL q))
  cases List.mem_singleton.mp hv
  exact own_b255 (own_orR q)
theorem own_sm3 {x y z : Int32} (h0 : ¬ ((((0 : Int32) ||| x) ||| y) ||| z) < (0 : Int32)) (h : ((((0 : Int32) ||| x) ||| y) ||| z) < (256 : Int32)) : ∀ v ∈ [x, y, z], (v.toInt8.toInt32 &&& (255 : Int32)) = v := by
  have q := own_u h0 h
  intro v hv
  rcases List.mem_cons.mp hv with rfl | hv
  · exact own_b255 (own_orR (own_orL (own_orL q)))
  rcases List.mem_cons.mp hv with rfl | hv
  · exact own_b255 (own_orR (own_orL q))
  cases List.mem_singleton.mp hv
  exact own_b255 (own_orR q)
theorem d_mk0_0 : decode method_2_code 0 = .ok (.iload_n 0, 1) := by decide +kernel
theorem d_mk0_1 : decode method_2_code 1 = .ok (.ifCond .ne 7, 3) := by decide +kernel
theorem d_mk0_4 : decode method_2_code 4 = .ok (.iconst 0, 1) := by decide +kernel
theorem d_mk0_5 : decode method_2_code 5 = .ok (.newarray .int, 2) := by decide +kernel
theorem d_mk0_7 : decode method_2_code 7 = .ok (.areturn, 1) := by decide +kernel
theorem pn_com_example_fair_witness_fairwitness_model_StateValueIndicesPinLaw : plainName "com/example/fair_witness/fairwitness/model/StateValueIndicesPinLaw" = true := by first | (simp [plainName, overriddenIn]; done) | decide +kernel
theorem ef_mk0 (m : MethodId) (x0 : Int32) (x1 : Int32) (x2 : Int32) (x3 : Int32) : entryFrame m #[(.int x0), (.int x1), (.int x2), (.int x3)] 4 = mkF m 0 #[.val (.int x0), .val (.int x1), .val (.int x2), .val (.int x3)] [] := by first | (simp [entryFrame, mkF, argsToLocals, Value.category]; done) | rfl
def Q_mk0 (Z : State) (x y z : Int32) (h0 : Heap) (n0 : Nat) (v : Option Value) (h : Heap) (L : List Loc) : Prop := v = some (.ref h0.size) ∧ Fr n0 L ∧ Keep h0 h [] ∧ Exa Z h h0.size "[I" ∧ ∃ k, Arv Z h h0.size k .int (0 : Int32) [] (.int (0 : Int32))
set_option maxRecDepth 65536 in
set_option maxHeartbeats 40000000 in
theorem rm_mk0 (l : Launch) (Z : State) (a0 : Array Value) (hw : ∀ d ∈ tables_1, d.before a0 Z = true) (ws : List Jvm.Cond) (x y z : Int32) (h0 : Heap) (n0 : Nat) (Z0 : n0 ≤ h0.size)  :
    MetFree l (⟨"com/example/fair_witness/fairwitness/model/StateValueIndicesPinLaw", "make", "(IIII)[I"⟩ : MethodName) (head1 (Jvm.Cond.code (⟨"com/example/fair_witness/fairwitness/model/StateValueIndicesPinLaw", "make", "(IIII)[I"⟩ : MethodName) method_2_code 4 (some (.array .int)) :: ws) ({ frames := 0, cells := 1, slots := 3, locals := 0 } : Room)) (fun a_ U => a_ = #[(.int (0 : Int32)), (.int x), (.int y), (.int z)] ∧ Z.Warmed39 U.vm ∧ U.heap = h0) (fun _ _ _ _ _ => True) (fun _ U o U' => ∃ v L, o = .returned v ∧ Q_mk0 Z x y z h0 n0 v U'.heap L ∧ FrameEnd U o U' L ({ frames := 0, cells := 1, slots := 3, locals := 0 } : Room).cells ({ frames := 0, cells := 1, slots := 3, locals := 0 } : Room).slots) := by
  refine MetFree.of_bodySF (plainFor_of_name pn_com_example_fair_witness_fairwitness_model_StateValueIndicesPinLaw) hisR ?_
  intro p e s m args below meth c s₁ Bd hml0 hP hK
  obtain ⟨rfl, hZ, hh⟩ := hP
  have hx := Bd.exec
  have hby := Bd.bytes
  have hml : c.maxLocals = 4 := hml0
  have hown : s.vm.findClass "com/example/fair_witness/fairwitness/model/StateValueIndicesPinLaw" = some m.cls := findClass_of_methodNamed Bd.named
  have hnm := (name_of_methodNamed Bd.named Bd.method).1
  have X0 : Stand p l e ({ frames := 0, cells := 1, slots := 3, locals := 0 } : Room) s m #[(.int (0 : Int32)), (.int x), (.int y), (.int z)] below meth c s₁ [] 0 0 := Stand.of_body Bd
  have e0 : s₁.heap = h0 := by rw [← hh, Bd.state]; rfl
  have N0 := Fr.nil n0
  have hlk := Bd.notSynchronized
  have hret := Bd.returns
  show OGo p e below (OEnd s (Q_mk0 Z x y z h0 n0) ({ frames := 0, cells := 1, slots := 3, locals := 0 } : Room).cells ({ frames := 0, cells := 1, slots := 3, locals := 0 } : Room).slots) (s₁.setTop (entryFrame m #[(.int (0 : Int32)), (.int x), (.int y), (.int z)] 4))
  rw [ef_mk0]
  show OGo p e below _ (s₁.setTop (mkF m 0 #[.val (.int (0 : Int32)), .val (.int x), .val (.int y), .val (.int z)] []))
  refine OGo.by_ (fun t k => XS.iloadN X0.here hx rfl (hb hby d_mk0_0) rfl k) ?_
  show OGo p e below _ (s₁.setTop (mkF m 1 #[.val (.int (0 : Int32)), .val (.int x), .val (.int y), .val (.int z)] [(.int (0 : Int32))]))
  refine OGo.by_ (fun t k => XS.ifNo X0.here hx rfl (hb hby d_mk0_1) rfl ((if0 _ _).trans (teq rfl).2) k) ?_
  show OGo p e below _ (s₁.setTop (mkF m 4 #[.val (.int (0 : Int32)), .val (.int x), .val (.int y), .val (.int z)] []))
  refine OGo.by_ (fun t k => XS.iconst X0.here hx rfl (hb hby d_mk0_4) k) ?_
  show OGo p e below _ (s₁.setTop (mkF m 5 #[.val (.int (0 : Int32)), .val (.int x), .val (.int y), .val (.int z)] [(.int (0 : Int32))]))
  obtain ⟨T1, h1, k1, X1, e1, E1, A1, Ex1, st1⟩ := newPE X0 hx hZ (hw _ (List.mem_of_getElem? (i := 4) rfl)) e0 (g := (mkF m 5 #[.val (.int (0 : Int32)), .val (.int x), .val (.int y), .val (.int z)] [(.int (0 : Int32))])) rfl (hb hby d_mk0_5) rfl (by decide) (cap := 0) (by decide) (by decide) (by decide) (by decide) rfl
  obtain ⟨b, g_b⟩ : ∃ z, z = h0.size := ⟨_, rfl⟩
  rw [← g_b] at A1 Ex1 st1
  have V_b := Arv.new A1 (by decide)
  have lt_b := own_lt V_b.lt
  refine OGo.by_ st1 ?_
  show OGo p e below _ (T1.setTop (mkF m 7 #[.val (.int (0 : Int32)), .val (.int x), .val (.int y), .val (.int z)] [(.ref b)]))
  have gb : n0 ≤ b := by omega
  have K_0 : Keep h0 h1 [] := own_ext_keep E1
  exact own_retA X1 hx hlk hret rfl rfl (hb hby d_mk0_7) (by decide) (by decide) (by rw [e1]; exact ⟨congrArg (fun z => some (Value.ref z)) g_b, N0, K_0, g_b ▸ Ex1, k1, g_b ▸ V_b⟩)
theorem d_mk1_0 : decode method_2_code 0 = .ok (.iload_n 0, 1) := by decide +kernel
theorem d_mk1_1 : decode method_2_code 1 = .ok (.ifCond .ne 7, 3) := by decide +kernel
theorem d_mk1_8 : decode method_2_code 8 = .ok (.iload_n 0, 1) := by decide +kernel
theorem d_mk1_9 : decode method_2_code 9 = .ok (.iconst 1, 1) := by decide +kernel
theorem d_mk1_10 : decode method_2_code 10 = .ok (.if_icmp .ne 11, 3) := by decide +kernel
theorem d_mk1_13 : decode method_2_code 13 = .ok (.iconst 1, 1) := by decide +kernel
theorem d_mk1_14 : decode method_2_code 14 = .ok (.newarray .int, 2) := by decide +kernel
theorem d_mk1_16 : decode method_2_code 16 = .ok (.dup, 1) := by decide +kernel
theorem d_mk1_17 : decode method_2_code 17 = .ok (.iconst 0, 1) := by decide +kernel
theorem d_mk1_18 : decode method_2_code 18 = .ok (.iload_n 1, 1) := by decide +kernel
theorem d_mk1_19 : decode method_2_code 19 = .ok (.iastore, 1) := by decide +kernel
theorem d_mk1_20 : decode method_2_code 20 = .ok (.areturn, 1) := by decide +kernel
theorem ef_mk1 (m : MethodId) (x0 : Int32) (x1 : Int32) (x2 : Int32) (x3 : Int32) : entryFrame m #[(.int x0), (.int x1), (.int x2), (.int x3)] 4 = mkF m 0 #[.val (.int x0), .val (.int x1), .val (.int x2), .val (.int x3)] [] := by first | (simp [entryFrame, mkF, argsToLocals, Value.category]; done) | rfl
def Q_mk1 (Z : State) (x y z : Int32) (h0 : Heap) (n0 : Nat) (v : Option Value) (h : Heap) (L : List Loc) : Prop := v = some (.ref h0.size) ∧ Fr n0 L ∧ Keep h0 h [] ∧ Exa Z h h0.size "[I" ∧ ∃ k, Arv Z h h0.size k .int (1 : Int32) [(.int x)] (.int (0 : Int32))
set_option maxRecDepth 65536 in
set_option maxHeartbeats 40000000 in
theorem rm_mk1 (l : Launch) (Z : State) (a0 : Array Value) (hw : ∀ d ∈ tables_1, d.before a0 Z = true) (ws : List Jvm.Cond) (x y z : Int32) (h0 : Heap) (n0 : Nat) (Z0 : n0 ≤ h0.size)  :
    MetFree l (⟨"com/example/fair_witness/fairwitness/model/StateValueIndicesPinLaw", "make", "(IIII)[I"⟩ : MethodName) (head1 (Jvm.Cond.code (⟨"com/example/fair_witness/fairwitness/model/StateValueIndicesPinLaw", "make", "(IIII)[I"⟩ : MethodName) method_2_code 4 (some (.array .int)) :: ws) ({ frames := 0, cells := 1, slots := 3, locals := 0 } : Room)) (fun a_ U => a_ = #[(.int (1 : Int32)), (.int x), (.int y), (.int z)] ∧ Z.Warmed39 U.vm ∧ U.heap = h0) (fun _ _ _ _ _ => True) (fun _ U o U' => ∃ v L, o = .returned v ∧ Q_mk1 Z x y z h0 n0 v U'.heap L ∧ FrameEnd U o U' L ({ frames := 0, cells := 1, slots := 3, locals := 0 } : Room).cells ({ frames := 0, cells := 1, slots := 3, locals := 0 } : Room).slots) := by
  refine MetFree.of_bodySF (plainFor_of_name pn_com_example_fair_witness_fairwitness_model_StateValueIndicesPinLaw) hisR ?_
  intro p e s m args below meth c s₁ Bd hml0 hP hK
  obtain ⟨rfl, hZ, hh⟩ := hP
  have hx := Bd.exec
  have hby := Bd.bytes
  have hml : c.maxLocals = 4 := hml0
  have hown : s.vm.findClass "com/example/fair_witness/fairwitness/model/StateValueIndicesPinLaw" = some m.cls := findClass_of_methodNamed Bd.named
  have hnm := (name_of_methodNamed Bd.named Bd.method).1
  have X0 : Stand p l e ({ frames := 0, cells := 1, slots := 3, locals := 0 } : Room) s m #[(.int (1 : Int32)), (.int x), (.int y), (.int z)] below meth c s₁ [] 0 0 := Stand.of_body Bd
  have e0 : s₁.heap = h0 := by rw [← hh, Bd.state]; rfl
  have N0 := Fr.nil n0
  have hlk := Bd.notSynchronized
  have hret := Bd.returns
  show OGo p e below (OEnd s (Q_mk1 Z x y z h0 n0) ({ frames := 0, cells := 1, slots := 3, locals := 0 } : Room).cells ({ frames := 0, cells := 1, slots := 3, locals := 0 } : Room).slots) (s₁.setTop (entryFrame m #[(.int (1 : Int32)), (.int x), (.int y), (.int z)] 4))
  rw [ef_mk1]
  show OGo p e below _ (s₁.setTop (mkF m 0 #[.val (.int (1 : Int32)), .val (.int x), .val (.int y), .val (.int z)] []))
  refine OGo.by_ (fun t k => XS.iloadN X0.here hx rfl (hb hby d_mk1_0) rfl k) ?_
  show OGo p e below _ (s₁.setTop (mkF m 1 #[.val (.int (1 : Int32)), .val (.int x), .val (.int y), .val (.int z)] [(.int (1 : Int32))]))
  refine OGo.by_ (fun t k => XS.ifYes X0.here hx rfl (pc0 := 1) (pc' := 8) rfl (hb hby d_mk1_1) rfl ((if0 _ _).trans (feq (by decide)).2) (by decide) (by decide) k) ?_
  show OGo p e below _ (s₁.setTop (mkF m 8 #[.val (.int (1 : Int32)), .val (.int x), .val (.int y), .val (.int z)] []))
  refine OGo.by_ (fun t k => XS.iloadN X0.here hx rfl (hb hby d_mk1_8) rfl k) ?_
  show OGo p e below _ (s₁.setTop (mkF m 9 #[.val (.int (1 : Int32)), .val (.int x), .val (.int y), .val (.int z)] [(.int (1 : Int32))]))
  refine OGo.by_ (fun t k => XS.iconst X0.here hx rfl (hb hby d_mk1_9) k) ?_
  show OGo p e below _ (s₁.setTop (mkF m 10 #[.val (.int (1 : Int32)), .val (.int x), .val (.int y), .val (.int z)] [(.int (1 : Int32)), (.int (1 : Int32))]))
  refine OGo.by_ (fun t k => XS.icmpNo X0.here hx rfl (hb hby d_mk1_10) rfl (teq rfl).2 k) ?_
  show OGo p e below _ (s₁.setTop (mkF m 13 #[.val (.int (1 : Int32)), .val (.int x), .val (.int y), .val (.int z)] []))
  refine OGo.by_ (fun t k => XS.iconst X0.here hx rfl (hb hby d_mk1_13) k) ?_
  show OGo p e below _ (s₁.setTop (mkF m 14 #[.val (.int (1 : Int32)), .val (.int x), .val (.int y), .val (.int z)] [(.int (1 : Int32))]))
  obtain ⟨T1, h1, k1, X1, e1, E1, A1, Ex1, st1⟩ := newPE X0 hx hZ (hw _ (List.mem_of_getElem? (i := 4) rfl)) e0 (g := (mkF m 14 #[.val (.int (1 : Int32)), .val (.int x), .val (.int y), .val (.int z)] [(.int (1 : Int32))])) rfl (hb hby d_mk1_14) rfl (by decide) (cap := 1) (by decide) (by decide) (by decide) (by decide) rfl
  obtain ⟨b, g_b⟩ : ∃ z, z = h0.size := ⟨_, rfl⟩
  rw [← g_b] at A1 Ex1 st1
  have V_b := Arv.new A1 (by decide)
  have lt_b := own_lt V_b.lt
  refine OGo.by_ st1 ?_
  show OGo p e below _ (T1.setTop (mkF m 16 #[.val (.int (1 : Int32)), .val (.int x), .val (.int y), .val (.int z)] [(.ref b)]))
  have V0_ : Arv Z h1 b k1 .int (1 : Int32) [(.int (0 : Int32))] (.int (0 : Int32)) := V_b.pad (pad_rep [] _ 1)
  have gb : n0 ≤ b := by omega
  have K_0 : Keep h0 h1 [] := own_ext_keep E1
  refine OGo.by_ (fun t k => XS.dup X1.here hx rfl (hb hby d_mk1_16) rfl rfl k) ?_
  show OGo p e below _ (T1.setTop (mkF m 17 #[.val (.int (1 : Int32)), .val (.int x), .val (.int y), .val (.int z)] [(.ref b), (.ref b)]))
  refine OGo.by_ (fun t k => XS.iconst X1.here hx rfl (hb hby d_mk1_17) k) ?_
  show OGo p e below _ (T1.setTop (mkF m 18 #[.val (.int (1 : Int32)), .val (.int x), .val (.int y), .val (.int z)] [(.int (0 : Int32)), (.ref b), (.ref b)]))
  refine OGo.by_ (fun t k => XS.iloadN X1.here hx rfl (hb hby d_mk1_18) rfl k) ?_
  show OGo p e below _ (T1.setTop (mkF m 19 #[.val (.int (1 : Int32)), .val (.int x), .val (.int y), .val (.int z)] [(.int x), (.int (0 : Int32)), (.ref b), (.ref b)]))
  obtain ⟨cl2, Ar2, q2, S2, Nn2, H2, G2⟩ := id V0_
  obtain ⟨T3, h3, X3, e3, W3, st3⟩ := stI X1 hx hZ e1 Ar2 (j := (0 : Int32)) (inb_of S2 ⟨(by decide : ¬ (0 : Int32) < 0), (by decide : (0 : Int32) < (1 : Int32))⟩) (g := (mkF m 19 #[.val (.int (1 : Int32)), .val (.int x), .val (.int y), .val (.int z)] [(.int x), (.int (0 : Int32)), (.ref b), (.ref b)])) rfl rfl (hb hby d_mk1_19)
  refine OGo.by_ st3 ?_
  show OGo p e below _ (T3.setTop (mkF m 20 #[.val (.int (1 : Int32)), .val (.int x), .val (.int y), .val (.int z)] [(.ref b)]))
  have N3 := Fr.snoc X3 N0 gb
  have V1_ := Arv.set Ar2 q2 S2 Nn2 H2 G2 (v := .int x) rfl W3 0 (by decide) (Nat.le_of_ble_eq_true rfl)
  have E_3 := Ex1.wr W3
  have K_3 := Keep.wr K_0 W3 (Or.inr (Nat.le_of_eq g_b.symm))
  exact own_retA X3 hx hlk hret rfl rfl (hb hby d_mk1_20) (by decide) (by decide) (by rw [e3]; exact ⟨congrArg (fun z => some (Value.ref z)) g_b, N3, K_3, g_b ▸ E_3, k1, g_b ▸ V1_⟩)
theorem d_mk2_0 : decode method_2_code 0 = .ok (.iload_n 0, 1) := by decide +kernel
theorem d_mk2_1 : decode method_2_code 1 = .ok (.ifCond .ne 7, 3) := by decide +kernel
theorem d_mk2_8 : decode method_2_code 8 = .ok (.iload_n 0, 1) := by decide +kernel
theorem d_mk2_9 : decode method_2_code 9 = .ok (.iconst 1, 1) := by decide +kernel
theorem d_mk2_10 : decode method_2_code 10 = .ok (.if_icmp .ne 11, 3) := by decide +kernel
theorem d_mk2_21 : decode method_2_code 21 = .ok (.iload_n 0, 1) := by decide +kernel
theorem d_mk2_22 : decode method_2_code 22 = .ok (.iconst 2, 1) := by decide +kernel
theorem d_mk2_23 : decode method_2_code 23 = .ok (.if_icmp .ne 15, 3) := by decide +kernel
theorem d_mk2_26 : decode method_2_code 26 = .ok (.iconst 2, 1) := by decide +kernel
theorem d_mk2_27 : decode method_2_code 27 = .ok (.newarray .int, 2) := by decide +kernel
theorem d_mk2_29 : decode method_2_code 29 = .ok (.dup, 1) := by decide +kernel
theorem d_mk2_30 : decode method_2_code 30 = .ok (.iconst 0, 1) := by decide +kernel
theorem d_mk2_31 : decode method_2_code 31 = .ok (.iload_n 1, 1) := by decide +kernel
theorem d_mk2_32 : decode method_2_code 32 = .ok (.iastore, 1) := by decide +kernel
theorem d_mk2_33 : decode method_2_code 33 = .ok (.dup, 1) := by decide +kernel
theorem d_mk2_34 : decode method_2_code 34 = .ok (.iconst 1, 1) := by decide +kernel
theorem d_mk2_35 : decode method_2_code 35 = .ok (.iload_n 2, 1) := by decide +kernel
theorem d_mk2_36 : decode method_2_code 36 = .ok (.iastore, 1) := by decide +kernel
theorem d_mk2_37 : decode method_2_code 37 = .ok (.areturn, 1) := by decide +kernel
theorem ef_mk2 (m : MethodId) (x0 : Int32) (x1 : Int32) (x2 : Int32) (x3 : Int32) : entryFrame m #[(.int x0), (.int x1), (.int x2), (.int x3)] 4 = mkF m 0 #[.val (.int x0), .val (.int x1), .val (.int x2), .val (.int x3)] [] := by first | (simp [entryFrame, mkF, argsToLocals, Value.category]; done) | rfl
def Q_mk2 (Z : State) (x y z : Int32) (h0 : Heap) (n0 : Nat) (v : Option Value) (h : Heap) (L : List Loc) : Prop := v = some (.ref h0.size) ∧ Fr n0 L ∧ Keep h0 h [] ∧ Exa Z h h0.size "[I" ∧ ∃ k, Arv Z h h0.size k .int (2 : Int32) [(.int x), (.int y)] (.int (0 : Int32))
set_option maxRecDepth 65536 in
set_option maxHeartbeats 40000000 in
theorem rm_mk2 (l : Launch) (Z : State) (a0 : Array Value) (hw : ∀ d ∈ tables_1, d.before a0 Z = true) (ws : List Jvm.Cond) (x y z : Int32) (h0 : Heap) (n0 : Nat) (Z0 : n0 ≤ h0.size)  :
    MetFree l (⟨"com/example/fair_witness/fairwitness/model/StateValueIndicesPinLaw", "make", "(IIII)[I"⟩ : MethodName) (head1 (Jvm.Cond.code (⟨"com/example/fair_witness/fairwitness/model/StateValueIndicesPinLaw", "make", "(IIII)[I"⟩ : MethodName) method_2_code 4 (some (.array .int)) :: ws) ({ frames := 0, cells := 1, slots := 3, locals := 0 } : Room)) (fun a_ U => a_ = #[(.int (2 : Int32)), (.int x), (.int y), (.int z)] ∧ Z.Warmed39 U.vm ∧ U.heap = h0) (fun _ _ _ _ _ => True) (fun _ U o U' => ∃ v L, o = .returned v ∧ Q_mk2 Z x y z h0 n0 v U'.heap L ∧ FrameEnd U o U' L ({ frames := 0, cells := 1, slots := 3, locals := 0 } : Room).cells ({ frames := 0, cells := 1, slots := 3, locals := 0 } : Room).slots) := by
  refine MetFree.of_bodySF (plainFor_of_name pn_com_example_fair_witness_fairwitness_model_StateValueIndicesPinLaw) hisR ?_
  intro p e s m args below meth c s₁ Bd hml0 hP hK
  obtain ⟨rfl, hZ, hh⟩ := hP
  have hx := Bd.exec
  have hby := Bd.bytes
  have hml : c.maxLocals = 4 := hml0
  have hown : s.vm.findClass "com/example/fair_witness/fairwitness/model/StateValueIndicesPinLaw" = some m.cls := findClass_of_methodNamed Bd.named
  have hnm := (name_of_methodNamed Bd.named Bd.method).1
  have X0 : Stand p l e ({ frames := 0, cells := 1, slots := 3, locals := 0 } : Room) s m #[(.int (2 : Int32)), (.int x), (.int y), (.int z)] below meth c s₁ [] 0 0 := Stand.of_body Bd
  have e0 : s₁.heap = h0 := by rw [← hh, Bd.state]; rfl
  have N0 := Fr.nil n0
  have hlk := Bd.notSynchronized
  have hret := Bd.returns
  show OGo p e below (OEnd s (Q_mk2 Z x y z h0 n0) ({ frames := 0, cells := 1, slots := 3, locals := 0 } : Room).cells ({ frames := 0, cells := 1, slots := 3, locals := 0 } : Room).slots) (s₁.setTop (entryFrame m #[(.int (2 : Int32)), (.int x), (.int y), (.int z)] 4))
  rw [ef_mk2]
  show OGo p e below _ (s₁.setTop (mkF m 0 #[.val (.int (2 : Int32)), .val (.int x), .val (.int y), .val (.int z)] []))
  refine OGo.by_ (fun t k => XS.iloadN X0.here hx rfl (hb hby d_mk2_0) rfl k) ?_
  show OGo p e below _ (s₁.setTop (mkF m 1 #[.val (.int (2 : Int32)), .val (.int x), .val (.int y), .val (.int z)] [(.int (2 : Int32))]))
  refine OGo.by_ (fun t k => XS.ifYes X0.here hx rfl (pc0 := 1) (pc' := 8) rfl (hb hby d_mk2_1) rfl ((if0 _ _).trans (feq (by decide)).2) (by decide) (by decide) k) ?_
  show OGo p e below _ (s₁.setTop (mkF m 8 #[.val (.int (2 : Int32)), .val (.int x), .val (.int y), .val (.int z)] []))
  refine OGo.by_ (fun t k => XS.iloadN X0.here hx rfl (hb hby d_mk2_8) rfl k) ?_
  show OGo p e below _ (s₁.setTop (mkF m 9 #[.val (.int (2 : Int32)), .val (.int x), .val (.int y), .val (.int z)] [(.int (2 : Int32))]))
  refine OGo.by_ (fun t k => XS.iconst X0.here hx rfl (hb hby d_mk2_9) k) ?_
  show OGo p e below _ (s₁.setTop (mkF m 10 #[.val (.int (2 : Int32)), .val (.int x), .val (.int y), .val (.int z)] [(.int (1 : Int32)), (.int (2 : Int32))]))
  refine OGo.by_ (fun t k => XS.icmpYes X0.here hx rfl (pc0 := 10) (pc' := 21) rfl (hb hby d_mk2_10) rfl (feq (by decide)).2 (by decide) (by decide) k) ?_
  show OGo p e below _ (s₁.setTop (mkF m 21 #[.val (.int (2 : Int32)), .val (.int x), .val (.int y), .val (.int z)] []))
  refine OGo.by_ (fun t k => XS.iloadN X0.here hx rfl (hb hby d_mk2_21) rfl k) ?_
  show OGo p e below _ (s₁.setTop (mkF m 22 #[.val (.int (2 : Int32)), .val (.int x), .val (.int y), .val (.int z)] [(.int (2 : Int32))]))
  refine OGo.by_ (fun t k => XS.iconst X0.here hx rfl (hb hby d_mk2_22) k) ?_
  show OGo p e below _ (s₁.setTop (mkF m 23 #[.val (.int (2 : Int32)), .val (.int x), .val (.int y), .val (.int z)] [(.int (2 : Int32)), (.int (2 : Int32))]))
  refine OGo.by_ (fun t k => XS.icmpNo X0.here hx rfl (hb hby d_mk2_23) rfl (teq rfl).2 k) ?_
  show OGo p e below _ (s₁.setTop (mkF m 26 #[.val (.int (2 : Int32)), .val (.int x), .val (.int y), .val (.int z)] []))
  refine OGo.by_ (fun t k => XS.iconst X0.here hx rfl (hb hby d_mk2_26) k) ?_
  show OGo p e below _ (s₁.setTop (mkF m 27 #[.val (.int (2 : Int32)), .val (.int x), .val (.int y), .val (.int z)] [(.int (2 : Int32))]))
  obtain ⟨T1, h1, k1, X1, e1, E1, A1, Ex1, st1⟩ := newPE X0 hx hZ (hw _ (List.mem_of_getElem? (i := 4) rfl)) e0 (g := (mkF m 27 #[.val (.int (2 : Int32)), .val (.int x), .val (.int y), .val (.int z)] [(.int (2 : Int32))])) rfl (hb hby d_mk2_27) rfl (by decide) (cap := 2) (by decide) (by decide) (by decide) (by decide) rfl
  obtain ⟨b, g_b⟩ : ∃ z, z = h0.size := ⟨_, rfl⟩
  rw [← g_b] at A1 Ex1 st1
  have V_b := Arv.new A1 (by decide)
  have lt_b := own_lt V_b.lt
  refine OGo.by_ st1 ?_
  show OGo p e below _ (T1.setTop (mkF m 29 #[.val (.int (2 : Int32)), .val (.int x), .val (.int y), .val (.int z)] [(.ref b)]))
  have V0_ : Arv Z h1 b k1 .int (2 : Int32) [(.int (0 : Int32)), (.int (0 : Int32))] (.int (0 : Int32)) := V_b.pad (pad_rep [] _ 2)
  have gb : n0 ≤ b := by omega
  have K_0 : Keep h0 h1 [] := own_ext_keep E1
  refine OGo.by_ (fun t k => XS.dup X1.here hx rfl (hb hby d_mk2_29) rfl rfl k) ?_
  show OGo p e below _ (T1.setTop (mkF m 30 #[.val (.int (2 : Int32)), .val (.int x), .val (.int y), .val (.int z)] [(.ref b), (.ref b)]))
  refine OGo.by_ (fun t k => XS.iconst X1.here hx rfl (hb hby d_mk2_30) k) ?_
  show OGo p e below _ (T1.setTop (mkF m 31 #[.val (.int (2 : Int32)), .val (.int x), .val (.int y), .val (.int z)] [(.int (0 : Int32)), (.ref b), (.ref b)]))
  refine OGo.by_ (fun t k => XS.iloadN X1.here hx rfl (hb hby d_mk2_31) rfl k) ?_
  show OGo p e below _ (T1.setTop (mkF m 32 #[.val (.int (2 : Int32)), .val (.int x), .val (.int y), .val (.int z)] [(.int x), (.int (0 : Int32)), (.ref b), (.ref b)]))
  obtain ⟨cl2, Ar2, q2, S2, Nn2, H2, G2⟩ := id V0_
  obtain ⟨T3, h3, X3, e3, W3, st3⟩ := stI X1 hx hZ e1 Ar2 (j := (0 : Int32)) (inb_of S2 ⟨(by decide : ¬ (0 : Int32) < 0), (by decide : (0 : Int32) < (2 : Int32))⟩) (g := (mkF m 32 #[.val (.int (2 : Int32)), .val (.int x), .val (.int y), .val (.int z)] [(.int x), (.int (0 : Int32)), (.ref b), (.ref b)])) rfl rfl (hb hby d_mk2_32)
  refine OGo.by_ st3 ?_
  show OGo p e below _ (T3.setTop (mkF m 33 #[.val (.int (2 : Int32)), .val (.int x), .val (.int y), .val (.int z)] [(.ref b)]))
  have N3 := Fr.snoc X3 N0 gb
  have V1_ := Arv.set Ar2 q2 S2 Nn2 H2 G2 (v := .int x) rfl W3 0 (by decide) (Nat.le_of_ble_eq_true rfl)
  have E_3 := Ex1.wr W3
  have K_3 := Keep.wr K_0 W3 (Or.inr (Nat.le_of_eq g_b.symm))
  refine OGo.by_ (fun t k => XS.dup X3.here hx rfl (hb hby d_mk2_33) rfl rfl k) ?_
  show OGo p e below _ (T3.setTop (mkF m 34 #[.val (.int (2 : Int32)), .val (.int x), .val (.int y), .val (.int z)] [(.ref b), (.ref b)]))
  refine OGo.by_ (fun t k => XS.iconst X3.here hx rfl (hb hby d_mk2_34) k) ?_
  show OGo p e below _ (T3.setTop (mkF m 35 #[.val (.int (2 : Int32)), .val (.int x), .val (.int y), .val (.int z)] [(.int (1 : Int32)), (.ref b), (.ref b)]))
  refine OGo.by_ (fun t k => XS.iloadN X3.here hx rfl (hb hby d_mk2_35) rfl k) ?_
  show OGo p e below _ (T3.setTop (mkF m 36 #[.val (.int (2 : Int32)), .val (.int x), .val (.int y), .val (.int z)] [(.int y), (.int (1 : Int32)), (.ref b), (.ref b)]))
  obtain ⟨cl4, Ar4, q4, S4, Nn4, H4, G4⟩ := id V1_
  obtain ⟨T5, h5, X5, e5, W5, st5⟩ := stI X3 hx hZ e3 Ar4 (j := (1 : Int32)) (inb_of S4 ⟨(by decide : ¬ (1 : Int32) < 0), (by decide : (1 : Int32) < (2 : Int32))⟩) (g := (mkF m 36 #[.val (.int (2 : Int32)), .val (.int x), .val (.int y), .val (.int z)] [(.int y), (.int (1 : Int32)), (.ref b), (.ref b)])) rfl rfl (hb hby d_mk2_36)
  refine OGo.by_ st5 ?_
  show OGo p e below _ (T5.setTop (mkF m 37 #[.val (.int (2 : Int32)), .val (.int x), .val (.int y), .val (.int z)] [(.ref b)]))
  have N5 := Fr.snoc X5 N3 gb
  have V2_ := Arv.set Ar4 q4 S4 Nn4 H4 G4 (v := .int y) rfl W5 1 (by decide) (Nat.le_of_ble_eq_true rfl)
  have E_5 := E_3.wr W5
  have K_5 := Keep.wr K_3 W5 (Or.inr (Nat.le_of_eq g_b.symm))
  exact own_retA X5 hx hlk hret rfl rfl (hb hby d_mk2_37) (by decide) (by decide) (by rw [e5]; exact ⟨congrArg (fun z => some (Value.ref z)) g_b, N5, K_5, g_b ▸ E_5, k1, g_b ▸ V2_⟩)
theorem d_mk3_0 : decode method_2_code 0 = .ok (.iload_n 0, 1) := by decide +kernel
theorem d_mk3_1 : decode method_2_code 1 = .ok (.ifCond .ne 7, 3) := by decide +kernel
theorem d_mk3_8 : decode method_2_code 8 = .ok (.iload_n 0, 1) := by decide +kernel
theorem d_mk3_9 : decode method_2_code 9 = .ok (.iconst 1, 1) := by decide +kernel
theorem d_mk3_10 : decode method_2_code 10 = .ok (.if_icmp .ne 11, 3) := by decide +kernel
theorem d_mk3_21 : decode method_2_code 21 = .ok (.iload_n 0, 1) := by decide +kernel
theorem d_mk3_22 : decode method_2_code 22 = .ok (.iconst 2, 1) := by decide +kernel
theorem d_mk3_23 : decode method_2_code 23 = .ok (.if_icmp .ne 15, 3) := by decide +kernel
theorem d_mk3_38 : decode method_2_code 38 = .ok (.iconst 3, 1) := by decide +kernel
theorem d_mk3_39 : decode method_2_code 39 = .ok (.newarray .int, 2) := by decide +kernel
theorem d_mk3_41 : decode method_2_code 41 = .ok (.dup, 1) := by decide +kernel
theorem d_mk3_42 : decode method_2_code 42 = .ok (.iconst 0, 1) := by decide +kernel
theorem d_mk3_43 : decode method_2_code 43 = .ok (.iload_n 1, 1) := by decide +kernel
theorem d_mk3_44 : decode method_2_code 44 = .ok (.iastore, 1) := by decide +kernel
theorem d_mk3_45 : decode method_2_code 45 = .ok (.dup, 1) := by decide +kernel
theorem d_mk3_46 : decode method_2_code 46 = .ok (.iconst 1, 1) := by decide +kernel
theorem d_mk3_47 : decode method_2_code 47 = .ok (.iload_n 2, 1) := by decide +kernel
theorem d_mk3_48 : decode method_2_code 48 = .ok (.iastore, 1) := by decide +kernel
theorem d_mk3_49 : decode method_2_code 49 = .ok (.dup, 1) := by decide +kernel
theorem d_mk3_50 : decode method_2_code 50 = .ok (.iconst 2, 1) := by decide +kernel
theorem d_mk3_51 : decode method_2_code 51 = .ok (.iload_n 3, 1) := by decide +kernel
theorem d_mk3_52 : decode method_2_code 52 = .ok (.iastore, 1) := by decide +kernel
theorem d_mk3_53 : decode method_2_code 53 = .ok (.areturn, 1) := by decide +kernel
theorem ef_mk3 (m : MethodId) (x0 : Int32) (x1 : Int32) (x2 : Int32) (x3 : Int32) : entryFrame m #[(.int x0), (.int x1), (.int x2), (.int x3)] 4 = mkF m 0 #[.val (.int x0), .val (.int x1), .val (.int x2), .val (.int x3)] [] := by first | (simp [entryFrame, mkF, argsToLocals, Value.category]; done) | rfl
def Q_mk3 (Z : State) (x y z : Int32) (h0 : Heap) (n0 : Nat) (v : Option Value) (h : Heap) (L : List Loc) : Prop := v = some (.ref h0.size) ∧ Fr n0 L ∧ Keep h0 h [] ∧ Exa Z h h0.size "[I" ∧ ∃ k, Arv Z h h0.size k .int (3 : Int32) [(.int x), (.int y), (.int z)] (.int (0 : Int32))
set_option maxRecDepth 65536 in
set_option maxHeartbeats 40000000 in
theorem rm_mk3 (l : Launch) (Z : State) (a0 : Array Value) (hw : ∀ d ∈ tables_1, d.before a0 Z = true) (ws : List Jvm.Cond) (x y z : Int32) (h0 : Heap) (n0 : Nat) (Z0 : n0 ≤ h0.size)  :
    MetFree l (⟨"com/example/fair_witness/fairwitness/model/StateValueIndicesPinLaw", "make", "(IIII)[I"⟩ : MethodName) (head1 (Jvm.Cond.code (⟨"com/example/fair_witness/fairwitness/model/StateValueIndicesPinLaw", "make", "(IIII)[I"⟩ : MethodName) method_2_code 4 (some (.array .int)) :: ws) ({ frames := 0, cells := 1, slots := 3, locals := 0 } : Room)) (fun a_ U => a_ = #[(.int (3 : Int32)), (.int x), (.int y), (.int z)] ∧ Z.Warmed39 U.vm ∧ U.heap = h0) (fun _ _ _ _ _ => True) (fun _ U o U' => ∃ v L, o = .returned v ∧ Q_mk3 Z x y z h0 n0 v U'.heap L ∧ FrameEnd U o U' L ({ frames := 0, cells := 1, slots := 3, locals := 0 } : Room).cells ({ frames := 0, cells := 1, slots := 3, locals := 0 } : Room).slots) := by
  refine MetFree.of_bodySF (plainFor_of_name pn_com_example_fair_witness_fairwitness_model_StateValueIndicesPinLaw) hisR ?_
  intro p e s m args below meth c s₁ Bd hml0 hP hK
  obtain ⟨rfl, hZ, hh⟩ := hP
  have hx := Bd.exec
  have hby := Bd.bytes
  have hml : c.maxLocals = 4 := hml0
  have hown : s.vm.findClass "com/example/fair_witness/fairwitness/model/StateValueIndicesPinLaw" = some m.cls := findClass_of_methodNamed Bd.named
  have hnm := (name_of_methodNamed Bd.named Bd.method).1
  have X0 : Stand p l e ({ frames := 0, cells := 1, slots := 3, locals := 0 } : Room) s m #[(.int (3 : Int32)), (.int x), (.int y), (.int z)] below meth c s₁ [] 0 0 := Stand.of_body Bd
  have e0 : s₁.heap = h0 := by rw [← hh, Bd.state]; rfl
  have N0 := Fr.nil n0
  have hlk := Bd.notSynchronized
  have hret := Bd.returns
  show OGo p e below (OEnd s (Q_mk3 Z x y z h0 n0) ({ frames := 0, cells := 1, slots := 3, locals := 0 } : Room).cells ({ frames := 0, cells := 1, slots := 3, locals := 0 } : Room).slots) (s₁.setTop (entryFrame m #[(.int (3 : Int32)), (.int x), (.int y), (.int z)] 4))
  rw [ef_mk3]
  show OGo p e below _ (s₁.setTop (mkF m 0 #[.val (.int (3 : Int32)), .val (.int x), .val (.int y), .val (.int z)] []))
  refine OGo.by_ (fun t k => XS.iloadN X0.here hx rfl (hb hby d_mk3_0) rfl k) ?_
  show OGo p e below _ (s₁.setTop (mkF m 1 #[.val (.int (3 : Int32)), .val (.int x), .val (.int y), .val (.int z)] [(.int (3 : Int32))]))
  refine OGo.by_ (fun t k => XS.ifYes X0.here hx rfl (pc0 := 1) (pc' := 8) rfl (hb hby d_mk3_1) rfl ((if0 _ _).trans (feq (by decide)).2) (by decide) (by decide) k) ?_
  show OGo p e below _ (s₁.setTop (mkF m 8 #[.val (.int (3 : Int32)), .val (.int x), .val (.int y), .val (.int z)] []))
  refine OGo.by_ (fun t k => XS.iloadN X0.here hx rfl (hb hby d_mk3_8) rfl k) ?_
  show OGo p e below _ (s₁.setTop (mkF m 9 #[.val (.int (3 : Int32)), .val (.int x), .val (.int y), .val (.int z)] [(.int (3 : Int32))]))
  refine OGo.by_ (fun t k => XS.iconst X0.here hx rfl (hb hby d_mk3_9) k) ?_
  show OGo p e below _ (s₁.setTop (mkF m 10 #[.val (.int (3 : Int32)), .val (.int x), .val (.int y), .val (.int z)] [(.int (1 : Int32)), (.int (3 : Int32))]))
  refine OGo.by_ (fun t k => XS.icmpYes X0.here hx rfl (pc0 := 10) (pc' := 21) rfl (hb hby d_mk3_10) rfl (feq (by decide)).2 (by decide) (by decide) k) ?_
  show OGo p e below _ (s₁.setTop (mkF m 21 #[.val (.int (3 : Int32)), .val (.int x), .val (.int y), .val (.int z)] []))
  refine OGo.by_ (fun t k => XS.iloadN X0.here hx rfl (hb hby d_mk3_21) rfl k) ?_
  show OGo p e below _ (s₁.setTop (mkF m 22 #[.val (.int (3 : Int32)), .val (.int x), .val (.int y), .val (.int z)] [(.int (3 : Int32))]))
  refine OGo.by_ (fun t k => XS.iconst X0.here hx rfl (hb hby d_mk3_22) k) ?_
  show OGo p e below _ (s₁.setTop (mkF m 23 #[.val (.int (3 : Int32)), .val (.int x), .val (.int y), .val (.int z)] [(.int (2 : Int32)), (.int (3 : Int32))]))
  refine OGo.by_ (fun t k => XS.icmpYes X0.here hx rfl (pc0 := 23) (pc' := 38) rfl (hb hby d_mk3_23) rfl (feq (by decide)).2 (by decide) (by decide) k) ?_
  show OGo p e below _ (s₁.setTop (mkF m 38 #[.val (.int (3 : Int32)), .val (.int x), .val (.int y), .val (.int z)] []))
  refine OGo.by_ (fun t k => XS.iconst X0.here hx rfl (hb hby d_mk3_38) k) ?_
  show OGo p e below _ (s₁.setTop (mkF m 39 #[.val (.int (3 : Int32)), .val (.int x), .val (.int y), .val (.int z)] [(.int (3 : Int32))]))
  obtain ⟨T1, h1, k1, X1, e1, E1, A1, Ex1, st1⟩ := newPE X0 hx hZ (hw _ (List.mem_of_getElem? (i := 4) rfl)) e0 (g := (mkF m 39 #[.val (.int (3 : Int32)), .val (.int x), .val (.int y), .val (.int z)] [(.int (3 : Int32))])) rfl (hb hby d_mk3_39) rfl (by decide) (cap := 3) (by decide) (by decide) (by decide) (by decide) rfl
  obtain ⟨b, g_b⟩ : ∃ z, z = h0.size := ⟨_, rfl⟩
  rw [← g_b] at A1 Ex1 st1
  have V_b := Arv.new A1 (by decide)
  have lt_b := own_lt V_b.lt
  refine OGo.by_ st1 ?_
  show OGo p e below _ (T1.setTop (mkF m 41 #[.val (.int (3 : Int32)), .val (.int x), .val (.int y), .val (.int z)] [(.ref b)]))
  have V0_ : Arv Z h1 b k1 .int (3 : Int32) [(.int (0 : Int32)), (.int (0 : Int32)), (.int (0 : Int32))] (.int (0 : Int32)) := V_b.pad (pad_rep [] _ 3)
  have gb : n0 ≤ b := by omega
  have K_0 : Keep h0 h1 [] := own_ext_keep E1
  refine OGo.by_ (fun t k => XS.dup X1.here hx rfl (hb hby d_mk3_41) rfl rfl k) ?_
  show OGo p e below _ (T1.setTop (mkF m 42 #[.val (.int (3 : Int32)), .val (.int x), .val (.int y), .val (.int z)] [(.ref b), (.ref b)]))
  refine OGo.by_ (fun t k => XS.iconst X1.here hx rfl (hb hby d_mk3_42) k) ?_
  show OGo p e below _ (T1.setTop (mkF m 43 #[.val (.int (3 : Int32)), .val (.int x), .val (.int y), .val (.int z)] [(.int (0 : Int32)), (.ref b), (.ref b)]))
  refine OGo.by_ (fun t k => XS.iloadN X1.here hx rfl (hb hby d_mk3_43) rfl k) ?_
  show OGo p e below _ (T1.setTop (mkF m 44 #[.val (.int (3 : Int32)), .val (.int x), .val (.int y), .val (.int z)] [(.int x), (.int (0 : Int32)), (.ref b), (.ref b)]))
  obtain ⟨cl2, Ar2, q2, S2, Nn2, H2, G2⟩ := id V0_
  obtain ⟨T3, h3, X3, e3, W3, st3⟩ := stI X1 hx hZ e1 Ar2 (j := (0 : Int32)) (inb_of S2 ⟨(by decide : ¬ (0 : Int32) < 0), (by decide : (0 : Int32) < (3 : Int32))⟩) (g := (mkF m 44 #[.val (.int (3 : Int32)), .val (.int x), .val (.int y), .val (.int z)] [(.int x), (.int (0 : Int32)), (.ref b), (.ref b)])) rfl rfl (hb hby d_mk3_44)
  refine OGo.by_ st3 ?_
  show OGo p e below _ (T3.setTop (mkF m 45 #[.val (.int (3 : Int32)), .val (.int x), .val (.int y), .val (.int z)] [(.ref b)]))
  have N3 := Fr.snoc X3 N0 gb
  have V1_ := Arv.set Ar2 q2 S2 Nn2 H2 G2 (v := .int x) rfl W3 0 (by decide) (Nat.le_of_ble_eq_true rfl)
  have E_3 := Ex1.wr W3
  have K_3 := Keep.wr K_0 W3 (Or.inr (Nat.le_of_eq g_b.symm))
  refine OGo.by_ (fun t k => XS.dup X3.here hx rfl (hb hby d_mk3_45) rfl rfl k) ?_
  show OGo p e below _ (T3.setTop (mkF m 46 #[.val (.int (3 : Int32)), .val (.int x), .val (.int y), .val (.int z)] [(.ref b), (.ref b)]))
  refine OGo.by_ (fun t k => XS.iconst X3.here hx rfl (hb hby d_mk3_46) k) ?_
  show OGo p e below _ (T3.setTop (mkF m 47 #[.val (.int (3 : Int32)), .val (.int x), .val (.int y), .val (.int z)] [(.int (1 : Int32)), (.ref b), (.ref b)]))
  refine OGo.by_ (fun t k => XS.iloadN X3.here hx rfl (hb hby d_mk3_47) rfl k) ?_
  show OGo p e below _ (T3.setTop (mkF m 48 #[.val (.int (3 : Int32)), .val (.int x), .val (.int y), .val (.int z)] [(.int y), (.int (1 : Int32)), (.ref b), (.ref b)]))
  obtain ⟨cl4, Ar4, q4, S4, Nn4, H4, G4⟩ := id V1_
  obtain ⟨T5, h5, X5, e5, W5, st5⟩ := stI X3 hx hZ e3 Ar4 (j := (1 : Int32)) (inb_of S4 ⟨(by decide : ¬ (1 : Int32) < 0), (by decide : (1 : Int32) < (3 : Int32))⟩) (g := (mkF m 48 #[.val (.int (3 : Int32)), .val (.int x), .val (.int y), .val (.int z)] [(.int y), (.int (1 : Int32)), (.ref b), (.ref b)])) rfl rfl (hb hby d_mk3_48)
  refine OGo.by_ st5 ?_
  show OGo p e below _ (T5.setTop (mkF m 49 #[.val (.int (3 : Int32)), .val (.int x), .val (.int y), .val (.int z)] [(.ref b)]))
  have N5 := Fr.snoc X5 N3 gb
  have V2_ := Arv.set Ar4 q4 S4 Nn4 H4 G4 (v := .int y) rfl W5 1 (by decide) (Nat.le_of_ble_eq_true rfl)
  have E_5 := E_3.wr W5
  have K_5 := Keep.wr K_3 W5 (Or.inr (Nat.le_of_eq g_b.symm))
  refine OGo.by_ (fun t k => XS.dup X5.here hx rfl (hb hby d_mk3_49) rfl rfl k) ?_
  show OGo p e below _ (T5.setTop (mkF m 50 #[.val (.int (3 : Int32)), .val (.int x), .val (.int y), .val (.int z)] [(.ref b), (.ref b)]))
  refine OGo.by_ (fun t k => XS.iconst X5.here hx rfl (hb hby d_mk3_50) k) ?_
  show OGo p e below _ (T5.setTop (mkF m 51 #[.val (.int (3 : Int32)), .val (.int x), .val (.int y), .val (.int z)] [(.int (2 : Int32)), (.ref b), (.ref b)]))
  refine OGo.by_ (fun t k => XS.iloadN X5.here hx rfl (hb hby d_mk3_51) rfl k) ?_
  show OGo p e below _ (T5.setTop (mkF m 52 #[.val (.int (3 : Int32)), .val (.int x), .val (.int y), .val (.int z)] [(.int z), (.int (2 : Int32)), (.ref b), (.ref b)]))
  obtain ⟨cl6, Ar6, q6, S6, Nn6, H6, G6⟩ := id V2_
  obtain ⟨T7, h7, X7, e7, W7, st7⟩ := stI X5 hx hZ e5 Ar6 (j := (2 : Int32)) (inb_of S6 ⟨(by decide : ¬ (2 : Int32) < 0), (by decide : (2 : Int32) < (3 : Int32))⟩) (g := (mkF m 52 #[.val (.int (3 : Int32)), .val (.int x), .val (.int y), .val (.int z)] [(.int z), (.int (2 : Int32)), (.ref b), (.ref b)])) rfl rfl (hb hby d_mk3_52)
  refine OGo.by_ st7 ?_
  show OGo p e below _ (T7.setTop (mkF m 53 #[.val (.int (3 : Int32)), .val (.int x), .val (.int y), .val (.int z)] [(.ref b)]))
  have N7 := Fr.snoc X7 N5 gb
  have V3_ := Arv.set Ar6 q6 S6 Nn6 H6 G6 (v := .int z) rfl W7 2 (by decide) (Nat.le_of_ble_eq_true rfl)
  have E_7 := E_5.wr W7
  have K_7 := Keep.wr K_5 W7 (Or.inr (Nat.le_of_eq g_b.symm))
  exact own_retA X7 hx hlk hret rfl rfl (hb hby d_mk3_53) (by decide) (by decide) (by rw [e7]; exact ⟨congrArg (fun z => some (Value.ref z)) g_b, N7, K_7, g_b ▸ E_7, k1, g_b ▸ V3_⟩)
theorem d_ini0_0 : decode prog_92_method_1_code 0 = .ok (.aload_n 0, 1) := by decide +kernel
theorem d_ini0_1 : decode prog_92_method_1_code 1 = .ok (.invokespecial 1, 3) := by decide +kernel
theorem d_ini0_4 : decode prog_92_method_1_code 4 = .ok (.iconst 0, 1) := by decide +kernel
theorem d_ini0_5 : decode prog_92_method_1_code 5 = .ok (.istore_n 2, 1) := by decide +kernel
theorem d_ini0_6 : decode prog_92_method_1_code 6 = .ok (.aload_n 1, 1) := by decide +kernel
theorem d_ini0_7 : decode prog_92_method_1_code 7 = .ok (.astore_n 3, 1) := by decide +kernel
theorem d_ini0_8 : decode prog_92_method_1_code 8 = .ok (.aload_n 3, 1) := by decide +kernel
theorem d_ini0_9 : decode prog_92_method_1_code 9 = .ok (.arraylength, 1) := by decide +kernel
theorem d_ini0_10 : decode prog_92_method_1_code 10 = .ok (.istore 4, 2) := by decide +kernel
theorem d_ini0_12 : decode prog_92_method_1_code 12 = .ok (.iconst 0, 1) := by decide +kernel
theorem d_ini0_13 : decode prog_92_method_1_code 13 = .ok (.istore 5, 2) := by decide +kernel
theorem d_ini0_15 : decode prog_92_method_1_code 15 = .ok (.iload 5, 2) := by decide +kernel
theorem d_ini0_17 : decode prog_92_method_1_code 17 = .ok (.iload 4, 2) := by decide +kernel
theorem d_ini0_19 : decode prog_92_method_1_code 19 = .ok (.if_icmp .ge 20, 3) := by decide +kernel
theorem d_ini0_39 : decode prog_92_method_1_code 39 = .ok (.iload_n 2, 1) := by decide +kernel
theorem d_ini0_40 : decode prog_92_method_1_code 40 = .ok (.ifCond .lt 50, 3) := by decide +kernel
theorem d_ini0_43 : decode prog_92_method_1_code 43 = .ok (.iload_n 2, 1) := by decide +kernel
theorem d_ini0_44 : decode prog_92_method_1_code 44 = .ok (.sipush 256, 3) := by decide +kernel
theorem d_ini0_47 : decode prog_92_method_1_code 47 = .ok (.if_icmp .ge 43, 3) := by decide +kernel
theorem d_ini0_50 : decode prog_92_method_1_code 50 = .ok (.aload_n 0, 1) := by decide +kernel
theorem d_ini0_51 : decode prog_92_method_1_code 51 = .ok (.aload_n 1, 1) := by decide +kernel
theorem d_ini0_52 : decode prog_92_method_1_code 52 = .ok (.arraylength, 1) := by decide +kernel
theorem d_ini0_53 : decode prog_92_method_1_code 53 = .ok (.newarray .byte, 2) := by decide +kernel
theorem d_ini0_55 : decode prog_92_method_1_code 55 = .ok (.putfield 7, 3) := by decide +kernel
theorem d_ini0_58 : decode prog_92_method_1_code 58 = .ok (.iconst 0, 1) := by decide +kernel
theorem d_ini0_59 : decode prog_92_method_1_code 59 = .ok (.istore_n 3, 1) := by decide +kernel
theorem d_ini0_60 : decode prog_92_method_1_code 60 = .ok (.iload_n 3, 1) := by decide +kernel
theorem d_ini0_61 : decode prog_92_method_1_code 61 = .ok (.aload_n 1, 1) := by decide +kernel
theorem d_ini0_62 : decode prog_92_method_1_code 62 = .ok (.arraylength, 1) := by decide +kernel
theorem d_ini0_63 : decode prog_92_method_1_code 63 = .ok (.if_icmp .ge 19, 3) := by decide +kernel
theorem d_ini0_82 : decode prog_92_method_1_code 82 = .ok (.aload_n 0, 1) := by decide +kernel
theorem d_ini0_83 : decode prog_92_method_1_code 83 = .ok (.aconst_null, 1) := by decide +kernel
theorem d_ini0_84 : decode prog_92_method_1_code 84 = .ok (.putfield 13, 3) := by decide +kernel
theorem d_ini0_87 : decode prog_92_method_1_code 87 = .ok (.goto 19, 3) := by decide +kernel
theorem d_ini0_106 : decode prog_92_method_1_code 106 = .ok (.return_, 1) := by decide +kernel
theorem pn_com_example_fair_witness_fairwitness_model_State : plainName "com/example/fair_witness/fairwitness/model/State" = true := by first | (simp [plainName, overriddenIn]; done) | decide +kernel
theorem ef_ini0 (m : MethodId) (x0 : Addr) (x1 : Addr) : entryFrame m #[(.ref x0), (.ref x1)] 7 = mkF m 0 #[.val (.ref x0), .val (.ref x1), .unset, .unset, .unset, .unset, .unset] [] := by first | (simp [entryFrame, mkF, argsToLocals, Value.category]; done) | rfl
def Q_ini0 (Z : State) (a i : Addr) (ki : ClassId) (x y z : Int32) (h0 : Heap) (n0 : Nat) (v : Option Value) (h : Heap) (L : List Loc) : Prop := v = none ∧ Fr n0 L ∧ Keep h0 h [a] ∧ ∃ b, h0.size ≤ b ∧ own_ST Z h a b (0 : Int32) []
set_option maxRecDepth 65536 in
set_option maxHeartbeats 40000000 in
theorem rm_ini0 (l : Launch) (Z : State) (a0 : Array Value) (hw : ∀ d ∈ tables_1, d.before a0 Z = true) (ws : List Jvm.Cond) (a i : Addr) (ki : ClassId) (x y z : Int32) (h0 : Heap) (n0 : Nat) (Z0 : n0 ≤ h0.size) (ga : n0 ≤ a) (E0 : Exa Z h0 a "com/example/fair_witness/fairwitness/model/State") (FS : Fld Z h0 a "com/example/fair_witness/fairwitness/model/State" "smallIndices" "[B" .null) (FV : Fld Z h0 a "com/example/fair_witness/fairwitness/model/State" "valueIndices" "[I" .null) (EI : Exa Z h0 i "[I") (V1 : Arv Z h0 i ki .int (0 : Int32) [] (.int (0 : Int32))) (hib : i ≠ a) :
    MetFree l (⟨"com/example/fair_witness/fairwitness/model/State", "<init>", "([I)V"⟩ : MethodName) (head1 (Jvm.Cond.code (⟨"com/example/fair_witness/fairwitness/model/State", "<init>", "([I)V"⟩ : MethodName) prog_92_method_1_code 7 none :: ws) ({ frames := 1, cells := 1, slots := 3, locals := 15 } : Room)) (fun a_ U => a_ = #[(.ref a), (.ref i)] ∧ Z.Warmed39 U.vm ∧ U.heap = h0) (fun _ _ _ _ _ => True) (fun _ U o U' => ∃ v L, o = .returned v ∧ Q_ini0 Z a i ki x y z h0 n0 v U'.heap L ∧ FrameEnd U o U' L ({ frames := 1, cells := 1, slots := 3, locals := 15 } : Room).cells ({ frames := 1, cells := 1, slots := 3, locals := 15 } : Room).slots) := by
  refine MetFree.of_bodySF (plainFor_of_name pn_com_example_fair_witness_fairwitness_model_State) hisR ?_
  intro p e s m args below meth c s₁ Bd hml0 hP hK
  obtain ⟨rfl, hZ, hh⟩ := hP
  have hx := Bd.exec
  have hby := Bd.bytes
  have hml : c.maxLocals = 7 := hml0
  have hown : s.vm.findClass "com/example/fair_witness/fairwitness/model/State" = some m.cls := findClass_of_methodNamed Bd.named
  have hnm := (name_of_methodNamed Bd.named Bd.method).1
  have X0 : Stand p l e ({ frames := 1, cells := 1, slots := 3, locals := 15 } : Room) s m #[(.ref a), (.ref i)] below meth c s₁ [] 0 0 := Stand.of_body Bd
  have e0 : s₁.heap = h0 := by rw [← hh, Bd.state]; rfl
  have N0 := Fr.nil n0
  have hlk := Bd.notSynchronized
  have hret := Bd.returns
  show OGo p e below (OEnd s (Q_ini0 Z a i ki x y z h0 n0) ({ frames := 1, cells := 1, slots := 3, locals := 15 } : Room).cells ({ frames := 1, cells := 1, slots := 3, locals := 15 } : Room).slots) (s₁.setTop (entryFrame m #[(.ref a), (.ref i)] 7))
  rw [ef_ini0]
  show OGo p e below _ (s₁.setTop (mkF m 0 #[.val (.ref a), .val (.ref i), .unset, .unset, .unset, .unset, .unset] []))
  refine OGo.by_ (fun t k => XS.aloadN X0.here hx rfl (hb hby d_ini0_0) rfl rfl k) ?_
  show OGo p e below _ (s₁.setTop (mkF m 1 #[.val (.ref a), .val (.ref i), .unset, .unset, .unset, .unset, .unset] [(.ref a)]))
  obtain ⟨T1, X1, e1, st1⟩ := initO X0 hx hZ hown (hw _ (List.mem_of_getElem? (i := 11) rfl)) (hw _ (List.mem_of_getElem? (i := 12) rfl)) (hw _ (List.mem_of_getElem? (i := 13) rfl)) e0 (g := (mkF m 1 #[.val (.ref a), .val (.ref i), .unset, .unset, .unset, .unset, .unset] [(.ref a)])) rfl (by rw [hml]; rfl) rfl (hb hby d_ini0_1) (by decide) (W := 0) (by show 2 * 0 + _ ≤ _; exact Nat.le_of_eq rfl) (by decide)
  refine OGo.by_ st1 ?_
  show OGo p e below _ (T1.setTop (mkF m 4 #[.val (.ref a), .val (.ref i), .unset, .unset, .unset, .unset, .unset] []))
  refine OGo.by_ (fun t k => XS.iconst X1.here hx rfl (hb hby d_ini0_4) k) ?_
  show OGo p e below _ (T1.setTop (mkF m 5 #[.val (.ref a), .val (.ref i), .unset, .unset, .unset, .unset, .unset] [(.int (0 : Int32))]))
  refine OGo.by_ (fun t k => XS.istoreN X1.here hx rfl (hb hby d_ini0_5) rfl (l' := #[.val (.ref a), .val (.ref i), .val (.int (0 : Int32)), .unset, .unset, .unset, .unset]) rfl k) ?_
  show OGo p e below _ (T1.setTop (mkF m 6 #[.val (.ref a), .val (.ref i), .val (.int (0 : Int32)), .unset, .unset, .unset, .unset] []))
  refine OGo.by_ (fun t k => XS.aloadN X1.here hx rfl (hb hby d_ini0_6) rfl rfl k) ?_
  show OGo p e below _ (T1.setTop (mkF m 7 #[.val (.ref a), .val (.ref i), .val (.int (0 : Int32)), .unset, .unset, .unset, .unset] [(.ref i)]))
  refine OGo.by_ (fun t k => XS.astoreN X1.here hx rfl (hb hby d_ini0_7) rfl rfl (l' := #[.val (.ref a), .val (.ref i), .val (.int (0 : Int32)), .val (.ref i), .unset, .unset, .unset]) rfl k) ?_
  show OGo p e below _ (T1.setTop (mkF m 8 #[.val (.ref a), .val (.ref i), .val (.int (0 : Int32)), .val (.ref i), .unset, .unset, .unset] []))
  refine OGo.by_ (fun t k => XS.aloadN X1.here hx rfl (hb hby d_ini0_8) rfl rfl k) ?_
  show OGo p e below _ (T1.setTop (mkF m 9 #[.val (.ref a), .val (.ref i), .val (.int (0 : Int32)), .val (.ref i), .unset, .unset, .unset] [(.ref i)]))
  obtain ⟨cl2, Ar2, q2, S2, Nn2, H2, G2⟩ := id V1
  refine OGo.by_ (X1.arraylength hx (by rw [e1]; exact Ar2.1) (State.isArrayOf_alike hZ.alike Ar2.2.1) (g := (mkF m 9 #[.val (.ref a), .val (.ref i), .val (.int (0 : Int32)), .val (.ref i), .unset, .unset, .unset] [(.ref i)])) rfl rfl (hb hby d_ini0_9)) ?_
  rw [len_of S2 Nn2]
  show OGo p e below _ (T1.setTop (mkF m 10 #[.val (.ref a), .val (.ref i), .val (.int (0 : Int32)), .val (.ref i), .unset, .unset, .unset] [(.int (0 : Int32))]))
  refine OGo.by_ (fun t k => XS.istore X1.here hx rfl (hb hby d_ini0_10) rfl (l' := #[.val (.ref a), .val (.ref i), .val (.int (0 : Int32)), .val (.ref i), .val (.int (0 : Int32)), .unset, .unset]) rfl k) ?_
  show OGo p e below _ (T1.setTop (mkF m 12 #[.val (.ref a), .val (.ref i), .val (.int (0 : Int32)), .val (.ref i), .val (.int (0 : Int32)), .unset, .unset] []))
  refine OGo.by_ (fun t k => XS.iconst X1.here hx rfl (hb hby d_ini0_12) k) ?_
  show OGo p e below _ (T1.setTop (mkF m 13 #[.val (.ref a), .val (.ref i), .val (.int (0 : Int32)), .val (.ref i), .val (.int (0 : Int32)), .unset, .unset] [(.int (0 : Int32))]))
  refine OGo.by_ (fun t k => XS.istore X1.here hx rfl (hb hby d_ini0_13) rfl (l' := #[.val (.ref a), .val (.ref i), .val (.int (0 : Int32)), .val (.ref i), .val (.int (0 : Int32)), .val (.int (0 : Int32)), .unset]) rfl k) ?_
  show OGo p e below _ (T1.setTop (mkF m 15 #[.val (.ref a), .val (.ref i), .val (.int (0 : Int32)), .val (.ref i), .val (.int (0 : Int32)), .val (.int (0 : Int32)), .unset] []))
  refine OGo.by_ (fun t k => XS.iload X1.here hx rfl (hb hby d_ini0_15) rfl k) ?_
  show OGo p e below _ (T1.setTop (mkF m 17 #[.val (.ref a), .val (.ref i), .val (.int (0 : Int32)), .val (.ref i), .val (.int (0 : Int32)), .val (.int (0 : Int32)), .unset] [(.int (0 : Int32))]))
  refine OGo.by_ (fun t k => XS.iload X1.here hx rfl (hb hby d_ini0_17) rfl k) ?_
  show OGo p e below _ (T1.setTop (mkF m 19 #[.val (.ref a), .val (.ref i), .val (.int (0 : Int32)), .val (.ref i), .val (.int (0 : Int32)), .val (.int (0 : Int32)), .unset] [(.int (0 : Int32)), (.int (0 : Int32))]))
  refine OGo.by_ (fun t k => XS.icmpYes X1.here hx rfl (pc0 := 19) (pc' := 39) rfl (hb hby d_ini0_19) rfl (flt (by decide)).2.1 (by decide) (by decide) k) ?_
  show OGo p e below _ (T1.setTop (mkF m 39 #[.val (.ref a), .val (.ref i), .val (.int (0 : Int32)), .val (.ref i), .val (.int (0 : Int32)), .val (.int (0 : Int32)), .unset] []))
  refine OGo.by_ (fun t k => XS.iloadN X1.here hx rfl (hb hby d_ini0_39) rfl k) ?_
  show OGo p e below _ (T1.setTop (mkF m 40 #[.val (.ref a), .val (.ref i), .val (.int (0 : Int32)), .val (.ref i), .val (.int (0 : Int32)), .val (.int (0 : Int32)), .unset] [(.int (0 : Int32))]))
  refine OGo.by_ (fun t k => XS.ifNo X1.here hx rfl (hb hby d_ini0_40) rfl ((if0 _ _).trans (flt (by decide)).1) k) ?_
  show OGo p e below _ (T1.setTop (mkF m 43 #[.val (.ref a), .val (.ref i), .val (.int (0 : Int32)), .val (.ref i), .val (.int (0 : Int32)), .val (.int (0 : Int32)), .unset] []))
  refine OGo.by_ (fun t k => XS.iloadN X1.here hx rfl (hb hby d_ini0_43) rfl k) ?_
  show OGo p e below _ (T1.setTop (mkF m 44 #[.val (.ref a), .val (.ref i), .val (.int (0 : Int32)), .val (.ref i), .val (.int (0 : Int32)), .val (.int (0 : Int32)), .unset] [(.int (0 : Int32))]))
  refine OGo.by_ (fun t k => XS.sipush X1.here hx rfl (hb hby d_ini0_44) k) ?_
  show OGo p e below _ (T1.setTop (mkF m 47 #[.val (.ref a), .val (.ref i), .val (.int (0 : Int32)), .val (.ref i), .val (.int (0 : Int32)), .val (.int (0 : Int32)), .unset] [(.int (256 : Int32)), (.int (0 : Int32))]))
  refine OGo.by_ (fun t k => XS.icmpNo X1.here hx rfl (hb hby d_ini0_47) rfl (tlt (by decide)).2.1 k) ?_
  show OGo p e below _ (T1.setTop (mkF m 50 #[.val (.ref a), .val (.ref i), .val (.int (0 : Int32)), .val (.ref i), .val (.int (0 : Int32)), .val (.int (0 : Int32)), .unset] []))
  have hc40 := trivial
  have hc47 := trivial
  refine OGo.by_ (fun t k => XS.aloadN X1.here hx rfl (hb hby d_ini0_50) rfl rfl k) ?_
  show OGo p e below _ (T1.setTop (mkF m 51 #[.val (.ref a), .val (.ref i), .val (.int (0 : Int32)), .val (.ref i), .val (.int (0 : Int32)), .val (.int (0 : Int32)), .unset] [(.ref a)]))
  refine OGo.by_ (fun t k => XS.aloadN X1.here hx rfl (hb hby d_ini0_51) rfl rfl k) ?_
  show OGo p e below _ (T1.setTop (mkF m 52 #[.val (.ref a), .val (.ref i), .val (.int (0 : Int32)), .val (.ref i), .val (.int (0 : Int32)), .val (.int (0 : Int32)), .unset] [(.ref i), (.ref a)]))
  obtain ⟨cl3, Ar3, q3, S3, Nn3, H3, G3⟩ := id V1
  refine OGo.by_ (X1.arraylength hx (by rw [e1]; exact Ar3.1) (State.isArrayOf_alike hZ.alike Ar3.2.1) (g := (mkF m 52 #[.val (.ref a), .val (.ref i), .val (.int (0 : Int32)), .val (.ref i), .val (.int (0 : Int32)), .val (.int (0 : Int32)), .unset] [(.ref i), (.ref a)])) rfl rfl (hb hby d_ini0_52)) ?_
  rw [len_of S3 Nn3]
  show OGo p e below _ (T1.setTop (mkF m 53 #[.val (.ref a), .val (.ref i), .val (.int (0 : Int32)), .val (.ref i), .val (.int (0 : Int32)), .val (.int (0 : Int32)), .unset] [(.int (0 : Int32)), (.ref a)]))
  obtain ⟨T4, h4, k4, X4, e4, E4, A4, st4⟩ := newP X1 hx hZ (hw _ (List.mem_of_getElem? (i := 14) rfl)) e1 (g := (mkF m 53 #[.val (.ref a), .val (.ref i), .val (.int (0 : Int32)), .val (.ref i), .val (.int (0 : Int32)), .val (.int (0 : Int32)), .unset] [(.int (0 : Int32)), (.ref a)])) rfl (hb hby d_ini0_53) rfl (by decide) (cap := 3) (by decide) (by decide) (by decide) (by decide)
  obtain ⟨b, g_b⟩ : ∃ z, z = h0.size := ⟨_, rfl⟩
  rw [← g_b] at A4 st4
  have V_b := Arv.new A4 (by decide)
  have lt_b := own_lt V_b.lt
  refine OGo.by_ st4 ?_
  show OGo p e below _ (T4.setTop (mkF m 55 #[.val (.ref a), .val (.ref i), .val (.int (0 : Int32)), .val (.ref i), .val (.int (0 : Int32)), .val (.int (0 : Int32)), .unset] [(.ref b), (.ref a)]))
  have lta : h0.size > a := E0.lt
  have lti : h0.size > i := V1.lt
  have hab : a ≠ b := own_ne (by omega)
  have hibb : i ≠ b := own_ne (by omega)
  have gb : n0 ≤ b := by omega
  obtain ⟨T5, h5, X5, e5, W5, st5⟩ := putF X4 hx hZ hown (host := "") (Or.inl (hw _ (List.mem_of_getElem? (i := 15) rfl))) Via.refl e4 (FS.ext E4) (E0.ext E4) (Or.inr ⟨(hw _ (List.mem_of_getElem? (i := 16) rfl)), rfl, hnm⟩) (hw _ (List.mem_of_getElem? (i := 6) rfl)) (ty := (.array .byte)) (by decide) rfl rfl (g := (mkF m 55 #[.val (.ref a), .val (.ref i), .val (.int (0 : Int32)), .val (.ref i), .val (.int (0 : Int32)), .val (.int (0 : Int32)), .unset] [(.ref b), (.ref a)])) rfl rfl (hb hby d_ini0_55)
  refine OGo.by_ st5 ?_
  show OGo p e below _ (T5.setTop (mkF m 58 #[.val (.ref a), .val (.ref i), .val (.int (0 : Int32)), .val (.ref i), .val (.int (0 : Int32)), .val (.int (0 : Int32)), .unset] []))
  have N5 := Fr.snoc X5 N0 ga
  have E1 := (E0.ext E4).wr W5
  have FS1 := (FS.ext E4).same W5
  have FV1 := (FV.ext E4).other W5 (Or.inr (slot_ne (C := "com/example/fair_witness/fairwitness/model/State") (Or.inr (hw _ (List.mem_of_getElem? (i := 18) rfl))) (Or.inr (hw _ (List.mem_of_getElem? (i := 16) rfl))) (by decide) (t := (.array .int)) (t' := (.array .byte)) (by decide) (by decide)))
  have U0 := V_b.other W5 hab.symm
  have I0 := (V1.ext E4).other W5 hib
  have K0_ : Keep h0 h5 [a] := ((Keep.refl h0 [a]).ext E4).wr W5 (Or.inl (List.mem_singleton.mpr rfl))
  refine OGo.by_ (fun t k => XS.iconst X5.here hx rfl (hb hby d_ini0_58) k) ?_
  show OGo p e below _ (T5.setTop (mkF m 59 #[.val (.ref a), .val (.ref i), .val (.int (0 : Int32)), .val (.ref i), .val (.int (0 : Int32)), .val (.int (0 : Int32)), .unset] [(.int (0 : Int32))]))
  refine OGo.by_ (fun t k => XS.istoreN X5.here hx rfl (hb hby d_ini0_59) rfl (l' := #[.val (.ref a), .val (.ref i), .val (.int (0 : Int32)), .val (.int (0 : Int32)), .val (.int (0 : Int32)), .val (.int (0 : Int32)), .unset]) rfl k) ?_
  show OGo p e below _ (T5.setTop (mkF m 60 #[.val (.ref a), .val (.ref i), .val (.int (0 : Int32)), .val (.int (0 : Int32)), .val (.int (0 : Int32)), .val (.int (0 : Int32)), .unset] []))
  refine OGo.by_ (fun t k => XS.iloadN X5.here hx rfl (hb hby d_ini0_60) rfl k) ?_
  show OGo p e below _ (T5.setTop (mkF m 61 #[.val (.ref a), .val (.ref i), .val (.int (0 : Int32)), .val (.int (0 : Int32)), .val (.int (0 : Int32)), .val (.int (0 : Int32)), .unset] [(.int (0 : Int32))]))
  refine OGo.by_ (fun t k => XS.aloadN X5.here hx rfl (hb hby d_ini0_61) rfl rfl k) ?_
  show OGo p e below _ (T5.setTop (mkF m 62 #[.val (.ref a), .val (.ref i), .val (.int (0 : Int32)), .val (.int (0 : Int32)), .val (.int (0 : Int32)), .val (.int (0 : Int32)), .unset] [(.ref i), (.int (0 : Int32))]))
  obtain ⟨cl6, Ar6, q6, S6, Nn6, H6, G6⟩ := id I0
  refine OGo.by_ (X5.arraylength hx (by rw [e5]; exact Ar6.1) (State.isArrayOf_alike hZ.alike Ar6.2.1) (g := (mkF m 62 #[.val (.ref a), .val (.ref i), .val (.int (0 : Int32)), .val (.int (0 : Int32)), .val (.int (0 : Int32)), .val (.int (0 : Int32)), .unset] [(.ref i), (.int (0 : Int32))])) rfl rfl (hb hby d_ini0_62)) ?_
  rw [len_of S6 Nn6]
  show OGo p e below _ (T5.setTop (mkF m 63 #[.val (.ref a), .val (.ref i), .val (.int (0 : Int32)), .val (.int (0 : Int32)), .val (.int (0 : Int32)), .val (.int (0 : Int32)), .unset] [(.int (0 : Int32)), (.int (0 : Int32))]))
  refine OGo.by_ (fun t k => XS.icmpYes X5.here hx rfl (pc0 := 63) (pc' := 82) rfl (hb hby d_ini0_63) rfl (flt (by decide)).2.1 (by decide) (by decide) k) ?_
  show OGo p e below _ (T5.setTop (mkF m 82 #[.val (.ref a), .val (.ref i), .val (.int (0 : Int32)), .val (.int (0 : Int32)), .val (.int (0 : Int32)), .val (.int (0 : Int32)), .unset] []))
  refine OGo.by_ (fun t k => XS.aloadN X5.here hx rfl (hb hby d_ini0_82) rfl rfl k) ?_
  show OGo p e below _ (T5.setTop (mkF m 83 #[.val (.ref a), .val (.ref i), .val (.int (0 : Int32)), .val (.int (0 : Int32)), .val (.int (0 : Int32)), .val (.int (0 : Int32)), .unset] [(.ref a)]))
  refine OGo.by_ (fun t k => XS.aconstNull X5.here hx rfl (hb hby d_ini0_83) k) ?_
  show OGo p e below _ (T5.setTop (mkF m 84 #[.val (.ref a), .val (.ref i), .val (.int (0 : Int32)), .val (.int (0 : Int32)), .val (.int (0 : Int32)), .val (.int (0 : Int32)), .unset] [.null, (.ref a)]))
  obtain ⟨T7, h7, X7, e7, W7, st7⟩ := putF X5 hx hZ hown (host := "") (Or.inl (hw _ (List.mem_of_getElem? (i := 17) rfl))) Via.refl e5 FV1 E1 (Or.inr ⟨(hw _ (List.mem_of_getElem? (i := 18) rfl)), rfl, hnm⟩) (hw _ (List.mem_of_getElem? (i := 6) rfl)) (ty := (.array .int)) (by decide) rfl rfl (g := (mkF m 84 #[.val (.ref a), .val (.ref i), .val (.int (0 : Int32)), .val (.int (0 : Int32)), .val (.int (0 : Int32)), .val (.int (0 : Int32)), .unset] [.null, (.ref a)])) rfl rfl (hb hby d_ini0_84)
  refine OGo.by_ st7 ?_
  show OGo p e below _ (T7.setTop (mkF m 87 #[.val (.ref a), .val (.ref i), .val (.int (0 : Int32)), .val (.int (0 : Int32)), .val (.int (0 : Int32)), .val (.int (0 : Int32)), .unset] []))
  have N7 := Fr.snoc X7 N5 ga
  have KK := Keep.wr K0_ W7 (Or.inl (List.mem_singleton.mpr rfl))
  have Uf : Arv Z h7 b k4 .byte (0 : Int32) (([] : List Int32).map fun x => .int x.toInt8.toInt32) (.int (0 : Int32)) := Arv.other U0 W7 hab.symm
  refine OGo.by_ (fun t k => XS.goto X7.here hx rfl (pc0 := 87) (pc' := 106) rfl (hb hby d_ini0_87) (by decide) (by decide) k) ?_
  show OGo p e below _ (T7.setTop (mkF m 106 #[.val (.ref a), .val (.ref i), .val (.int (0 : Int32)), .val (.int (0 : Int32)), .val (.int (0 : Int32)), .val (.int (0 : Int32)), .unset] []))
  exact own_ret X7 hx hlk hret (hb hby d_ini0_106) (by decide) (by decide) (by rw [e7]; exact ⟨rfl, N7, KK, b, by omega, E1.wr W7, Or.inl ⟨FS1.other W7 (Or.inr (slot_ne (C := "com/example/fair_witness/fairwitness/model/State") (Or.inr (hw _ (List.mem_of_getElem? (i := 16) rfl))) (Or.inr (hw _ (List.mem_of_getElem? (i := 18) rfl))) (by decide) (t := (.array .byte)) (t' := (.array .int)) (by decide) (by decide))), FV1.same W7, ⟨k4, Uf⟩, own_sm0 hc40 hc47⟩⟩)
theorem d_ini1_0 : decode prog_92_method_1_code 0 = .ok (.aload_n 0, 1) := by decide +kernel
theorem d_ini1_1 : decode prog_92_method_1_code 1 = .ok (.invokespecial 1, 3) := by decide +kernel
theorem d_ini1_4 : decode prog_92_method_1_code 4 = .ok (.iconst 0, 1) := by decide +kernel
theorem d_ini1_5 : decode prog_92_method_1_code 5 = .ok (.istore_n 2, 1) := by decide +kernel
theorem d_ini1_6 : decode prog_92_method_1_code 6 = .ok (.aload_n 1, 1) := by decide +kernel
theorem d_ini1_7 : decode prog_92_method_1_code 7 = .ok (.astore_n 3, 1) := by decide +kernel
theorem d_ini1_8 : decode prog_92_method_1_code 8 = .ok (.aload_n 3, 1) := by decide +kernel
theorem d_ini1_9 : decode prog_92_method_1_code 9 = .ok (.arraylength, 1) := by decide +kernel
theorem d_ini1_10 : decode prog_92_method_1_code 10 = .ok (.istore 4, 2) := by decide +kernel
theorem d_ini1_12 : decode prog_92_method_1_code 12 = .ok (.iconst 0, 1) := by decide +kernel
theorem d_ini1_13 : decode prog_92_method_1_code 13 = .ok (.istore 5, 2) := by decide +kernel
theorem d_ini1_15 : decode prog_92_method_1_code 15 = .ok (.iload 5, 2) := by decide +kernel
theorem d_ini1_17 : decode prog_92_method_1_code 17 = .ok (.iload 4, 2) := by decide +kernel
theorem d_ini1_19 : decode prog_92_method_1_code 19 = .ok (.if_icmp .ge 20, 3) := by decide +kernel
theorem d_ini1_22 : decode prog_92_method_1_code 22 = .ok (.aload_n 3, 1) := by decide +kernel
theorem d_ini1_23 : decode prog_92_method_1_code 23 = .ok (.iload 5, 2) := by decide +kernel
theorem d_ini1_25 : decode prog_92_method_1_code 25 = .ok (.iaload, 1) := by decide +kernel
theorem d_ini1_26 : decode prog_92_method_1_code 26 = .ok (.istore 6, 2) := by decide +kernel
theorem d_ini1_28 : decode prog_92_method_1_code 28 = .ok (.iload_n 2, 1) := by decide +kernel
theorem d_ini1_29 : decode prog_92_method_1_code 29 = .ok (.iload 6, 2) := by decide +kernel
theorem d_ini1_31 : decode prog_92_method_1_code 31 = .ok (.ior, 1) := by decide +kernel
theorem d_ini1_32 : decode prog_92_method_1_code 32 = .ok (.istore_n 2, 1) := by decide +kernel
theorem d_ini1_33 : decode prog_92_method_1_code 33 = .ok (.iinc 5 1, 3) := by decide +kernel
theorem d_ini1_36 : decode prog_92_method_1_code 36 = .ok (.goto (-21), 3) := by decide +kernel
theorem d_ini1_39 : decode prog_92_method_1_code 39 = .ok (.iload_n 2, 1) := by decide +kernel
theorem d_ini1_40 : decode prog_92_method_1_code 40 = .ok (.ifCond .lt 50, 3) := by decide +kernel
theorem d_ini1_90 : decode prog_92_method_1_code 90 = .ok (.aload_n 0, 1) := by decide +kernel
theorem d_ini1_91 : decode prog_92_method_1_code 91 = .ok (.aconst_null, 1) := by decide +kernel
theorem d_ini1_92 : decode prog_92_method_1_code 92 = .ok (.putfield 7, 3) := by decide +kernel
theorem d_ini1_95 : decode prog_92_method_1_code 95 = .ok (.aload_n 0, 1) := by decide +kernel
theorem d_ini1_96 : decode prog_92_method_1_code 96 = .ok (.aload_n 1, 1) := by decide +kernel
theorem d_ini1_97 : decode prog_92_method_1_code 97 = .ok (.invokevirtual 17, 3) := by decide +kernel
theorem d_ini1_100 : decode prog_92_method_1_code 100 = .ok (.checkcast 18, 3) := by decide +kernel
theorem d_ini1_103 : decode prog_92_method_1_code 103 = .ok (.putfield 13, 3) := by decide +kernel
theorem d_ini1_106 : decode prog_92_method_1_code 106 = .ok (.return_, 1) := by decide +kernel
theorem d_ini1_43 : decode prog_92_method_1_code 43 = .ok (.iload_n 2, 1) := by decide +kernel
theorem d_ini1_44 : decode prog_92_method_1_code 44 = .ok (.sipush 256, 3) := by decide +kernel
theorem d_ini1_47 : decode prog_92_method_1_code 47 = .ok (.if_icmp .ge 43, 3) := by decide +kernel
theorem d_ini1_50 : decode prog_92_method_1_code 50 = .ok (.aload_n 0, 1) := by decide +kernel
theorem d_ini1_51 : decode prog_92_method_1_code 51 = .ok (.aload_n 1, 1) := by decide +kernel
theorem d_ini1_52 : decode prog_92_method_1_code 52 = .ok (.arraylength, 1) := by decide +kernel
theorem d_ini1_53 : decode prog_92_method_1_code 53 = .ok (.newarray .byte, 2) := by decide +kernel
theorem d_ini1_55 : decode prog_92_method_1_code 55 = .ok (.putfield 7, 3) := by decide +kernel
theorem d_ini1_58 : decode prog_92_method_1_code 58 = .ok (.iconst 0, 1) := by decide +kernel
theorem d_ini1_59 : decode prog_92_method_1_code 59 = .ok (.istore_n 3, 1) := by decide +kernel
theorem d_ini1_60 : decode prog_92_method_1_code 60 = .ok (.iload_n 3, 1) := by decide +kernel
theorem d_ini1_61 : decode prog_92_method_1_code 61 = .ok (.aload_n 1, 1) := by decide +kernel
theorem d_ini1_62 : decode prog_92_method_1_code 62 = .ok (.arraylength, 1) := by decide +kernel
theorem d_ini1_63 : decode prog_92_method_1_code 63 = .ok (.if_icmp .ge 19, 3) := by decide +kernel
theorem d_ini1_66 : decode prog_92_method_1_code 66 = .ok (.aload_n 0, 1) := by decide +kernel
theorem d_ini1_67 : decode prog_92_method_1_code 67 = .ok (.getfield 7, 3) := by decide +kernel
theorem d_ini1_70 : decode prog_92_method_1_code 70 = .ok (.iload_n 3, 1) := by decide +kernel
theorem d_ini1_71 : decode prog_92_method_1_code 71 = .ok (.aload_n 1, 1) := by decide +kernel
theorem d_ini1_72 : decode prog_92_method_1_code 72 = .ok (.iload_n 3, 1) := by decide +kernel
theorem d_ini1_73 : decode prog_92_method_1_code 73 = .ok (.iaload, 1) := by decide +kernel
theorem d_ini1_74 : decode prog_92_method_1_code 74 = .ok (.i2b, 1) := by decide +kernel
theorem d_ini1_75 : decode prog_92_method_1_code 75 = .ok (.bastore, 1) := by decide +kernel
theorem d_ini1_76 : decode prog_92_method_1_code 76 = .ok (.iinc 3 1, 3) := by decide +kernel
theorem d_ini1_79 : decode prog_92_method_1_code 79 = .ok (.goto (-19), 3) := by decide +kernel
theorem d_ini1_82 : decode prog_92_method_1_code 82 = .ok (.aload_n 0, 1) := by decide +kernel
theorem d_ini1_83 : decode prog_92_method_1_code 83 = .ok (.aconst_null, 1) := by decide +kernel
theorem d_ini1_84 : decode prog_92_method_1_code 84 = .ok (.putfield 13, 3) := by decide +kernel
theorem d_ini1_87 : decode prog_92_method_1_code 87 = .ok (.goto 19, 3) := by decide +kernel
theorem ef_ini1 (m : MethodId) (x0 : Addr) (x1 : Addr) : entryFrame m #[(.ref x0), (.ref x1)] 7 = mkF m 0 #[.val (.ref x0), .val (.ref x1), .unset, .unset, .unset, .unset, .unset] [] := by first | (simp [entryFrame, mkF, argsToLocals, Value.category]; done) | rfl
def Q_ini1 (Z : State) (a i : Addr) (ki : ClassId) (x y z : Int32) (h0 : Heap) (n0 : Nat) (v : Option Value) (h : Heap) (L : List Loc) : Prop := v = none ∧ Fr n0 L ∧ Keep h0 h [a] ∧ ∃ b, h0.size ≤ b ∧ own_ST Z h a b (1 : Int32) [x]
set_option maxRecDepth 65536 in
set_option maxHeartbeats 40000000 in
theorem rm_ini1 (l : Launch) (Z : State) (a0 : Array Value) (hw : ∀ d ∈ tables_1, d.before a0 Z = true) (ws : List Jvm.Cond) (a i : Addr) (ki : ClassId) (x y z : Int32) (h0 : Heap) (n0 : Nat) (Z0 : n0 ≤ h0.size) (ga : n0 ≤ a) (E0 : Exa Z h0 a "com/example/fair_witness/fairwitness/model/State") (FS : Fld Z h0 a "com/example/fair_witness/fairwitness/model/State" "smallIndices" "[B" .null) (FV : Fld Z h0 a "com/example/fair_witness/fairwitness/model/State" "valueIndices" "[I" .null) (EI : Exa Z h0 i "[I") (V1 : Arv Z h0 i ki .int (1 : Int32) [(.int x)] (.int (0 : Int32))) (hib : i ≠ a) :
    MetFree l (⟨"com/example/fair_witness/fairwitness/model/State", "<init>", "([I)V"⟩ : MethodName) (head1 (Jvm.Cond.code (⟨"com/example/fair_witness/fairwitness/model/State", "<init>", "([I)V"⟩ : MethodName) prog_92_method_1_code 7 none :: ws) ({ frames := 1, cells := 1, slots := 3, locals := 15 } : Room)) (fun a_ U => a_ = #[(.ref a), (.ref i)] ∧ Z.Warmed39 U.vm ∧ U.heap = h0) (fun _ _ _ _ _ => True) (fun _ U o U' => ∃ v L, o = .returned v ∧ Q_ini1 Z a i ki x y z h0 n0 v U'.heap L ∧ FrameEnd U o U' L ({ frames := 1, cells := 1, slots := 3, locals := 15 } : Room).cells ({ frames := 1, cells := 1, slots := 3, locals := 15 } : Room).slots) := by
  refine MetFree.of_bodySF (plainFor_of_name pn_com_example_fair_witness_fairwitness_model_State) hisR ?_
  intro p e s m args below meth c s₁ Bd hml0 hP hK
  obtain ⟨rfl, hZ, hh⟩ := hP
  have hx := Bd.exec
  have hby := Bd.bytes
  have hml : c.maxLocals = 7 := hml0
  have hown : s.vm.findClass "com/example/fair_witness/fairwitness/model/State" = some m.cls := findClass_of_methodNamed Bd.named
  have hnm := (name_of_methodNamed Bd.named Bd.method).1
  have X0 : Stand p l e ({ frames := 1, cells := 1, slots := 3, locals := 15 } : Room) s m #[(.ref a), (.ref i)] below meth c s₁ [] 0 0 := Stand.of_body Bd
  have e0 : s₁.heap = h0 := by rw [← hh, Bd.state]; rfl
  have N0 := Fr.nil n0
  have hlk := Bd.notSynchronized
  have hret := Bd.returns
  show OGo p e below (OEnd s (Q_ini1 Z a i ki x y z h0 n0) ({ frames := 1, cells := 1, slots := 3, locals := 15 } : Room).cells ({ frames := 1, cells := 1, slots := 3, locals := 15 } : Room).slots) (s₁.setTop (entryFrame m #[(.ref a), (.ref i)] 7))
  rw [ef_ini1]
  show OGo p e below _ (s₁.setTop (mkF m 0 #[.val (.ref a), .val (.ref i), .unset, .unset, .unset, .unset, .unset] []))
  refine OGo.by_ (fun t k => XS.aloadN X0.here hx rfl (hb hby d_ini1_0) rfl rfl k) ?_
  show OGo p e below _ (s₁.setTop (mkF m 1 #[.val (.ref a), .val (.ref i), .unset, .unset, .unset, .unset, .unset] [(.ref a)]))
  obtain ⟨T1, X1, e1, st1⟩ := initO X0 hx hZ hown (hw _ (List.mem_of_getElem? (i := 11) rfl)) (hw _ (List.mem_of_getElem? (i := 12) rfl)) (hw _ (List.mem_of_getElem? (i := 13) rfl)) e0 (g := (mkF m 1 #[.val (.ref a), .val (.ref i), .unset, .unset, .unset, .unset, .unset] [(.ref a)])) rfl (by rw [hml]; rfl) rfl (hb hby d_ini1_1) (by decide) (W := 0) (by show 2 * 0 + _ ≤ _; exact Nat.le_of_eq rfl) (by decide)
  refine OGo.by_ st1 ?_
  show OGo p e below _ (T1.setTop (mkF m 4 #[.val (.ref a), .val (.ref i), .unset, .unset, .unset, .unset, .unset] []))
  refine OGo.by_ (fun t k => XS.iconst X1.here hx rfl (hb hby d_ini1_4) k) ?_
  show OGo p e below _ (T1.setTop (mkF m 5 #[.val (.ref a), .val (.ref i), .unset, .unset, .unset, .unset, .unset] [(.int (0 : Int32))]))
  refine OGo.by_ (fun t k => XS.istoreN X1.here hx rfl (hb hby d_ini1_5) rfl (l' := #[.val (.ref a), .val (.ref i), .val (.int (0 : Int32)), .unset, .unset, .unset, .unset]) rfl k) ?_
  show OGo p e below _ (T1.setTop (mkF m 6 #[.val (.ref a), .val (.ref i), .val (.int (0 : Int32)), .unset, .unset, .unset, .unset] []))
  refine OGo.by_ (fun t k => XS.aloadN X1.here hx rfl (hb hby d_ini1_6) rfl rfl k) ?_
  show OGo p e below _ (T1.setTop (mkF m 7 #[.val (.ref a), .val (.ref i), .val (.int (0 : Int32)), .unset, .unset, .unset, .unset] [(.ref i)]))
  refine OGo.by_ (fun t k => XS.astoreN X1.here hx rfl (hb hby d_ini1_7) rfl rfl (l' := #[.val (.ref a), .val (.ref i), .val (.int (0 : Int32)), .val (.ref i), .unset, .unset, .unset]) rfl k) ?_
  show OGo p e below _ (T1.setTop (mkF m 8 #[.val (.ref a), .val (.ref i), .val (.int (0 : Int32)), .val (.ref i), .unset, .unset, .unset] []))
  refine OGo.by_ (fun t k => XS.aloadN X1.here hx rfl (hb hby d_ini1_8) rfl rfl k) ?_
  show OGo p e below _ (T1.setTop (mkF m 9 #[.val (.ref a), .val (.ref i), .val (.int (0 : Int32)), .val (.ref i), .unset, .unset, .unset] [(.ref i)]))
  obtain ⟨cl2, Ar2, q2, S2, Nn2, H2, G2⟩ := id V1
  refine OGo.by_ (X1.arraylength hx (by rw [e1]; exact Ar2.1) (State.isArrayOf_alike hZ.alike Ar2.2.1) (g := (mkF m 9 #[.val (.ref a), .val (.ref i), .val (.int (0 : Int32)), .val (.ref i), .unset, .unset, .unset] [(.ref i)])) rfl rfl (hb hby d_ini1_9)) ?_
  rw [len_of S2 Nn2]
  show OGo p e below _ (T1.setTop (mkF m 10 #[.val (.ref a), .val (.ref i), .val (.int (0 : Int32)), .val (.ref i), .unset, .unset, .unset] [(.int (1 : Int32))]))
  refine OGo.by_ (fun t k => XS.istore X1.here hx rfl (hb hby d_ini1_10) rfl (l' := #[.val (.ref a), .val (.ref i), .val (.int (0 : Int32)), .val (.ref i), .val (.int (1 : Int32)), .unset, .unset]) rfl k) ?_
  show OGo p e below _ (T1.setTop (mkF m 12 #[.val (.ref a), .val (.ref i), .val (.int (0 : Int32)), .val (.ref i), .val (.int (1 : Int32)), .unset, .unset] []))
  refine OGo.by_ (fun t k => XS.iconst X1.here hx rfl (hb hby d_ini1_12) k) ?_
  show OGo p e below _ (T1.setTop (mkF m 13 #[.val (.ref a), .val (.ref i), .val (.int (0 : Int32)), .val (.ref i), .val (.int (1 : Int32)), .unset, .unset] [(.int (0 : Int32))]))
  refine OGo.by_ (fun t k => XS.istore X1.here hx rfl (hb hby d_ini1_13) rfl (l' := #[.val (.ref a), .val (.ref i), .val (.int (0 : Int32)), .val (.ref i), .val (.int (1 : Int32)), .val (.int (0 : Int32)), .unset]) rfl k) ?_
  show OGo p e below _ (T1.setTop (mkF m 15 #[.val (.ref a), .val (.ref i), .val (.int (0 : Int32)), .val (.ref i), .val (.int (1 : Int32)), .val (.int (0 : Int32)), .unset] []))
  refine OGo.by_ (fun t k => XS.iload X1.here hx rfl (hb hby d_ini1_15) rfl k) ?_
  show OGo p e below _ (T1.setTop (mkF m 17 #[.val (.ref a), .val (.ref i), .val (.int (0 : Int32)), .val (.ref i), .val (.int (1 : Int32)), .val (.int (0 : Int32)), .unset] [(.int (0 : Int32))]))
  refine OGo.by_ (fun t k => XS.iload X1.here hx rfl (hb hby d_ini1_17) rfl k) ?_
  show OGo p e below _ (T1.setTop (mkF m 19 #[.val (.ref a), .val (.ref i), .val (.int (0 : Int32)), .val (.ref i), .val (.int (1 : Int32)), .val (.int (0 : Int32)), .unset] [(.int (1 : Int32)), (.int (0 : Int32))]))
  refine OGo.by_ (fun t k => XS.icmpNo X1.here hx rfl (hb hby d_ini1_19) rfl (tlt (by decide)).2.1 k) ?_
  show OGo p e below _ (T1.setTop (mkF m 22 #[.val (.ref a), .val (.ref i), .val (.int (0 : Int32)), .val (.ref i), .val (.int (1 : Int32)), .val (.int (0 : Int32)), .unset] []))
  refine OGo.by_ (fun t k => XS.aloadN X1.here hx rfl (hb hby d_ini1_22) rfl rfl k) ?_
  show OGo p e below _ (T1.setTop (mkF m 23 #[.val (.ref a), .val (.ref i), .val (.int (0 : Int32)), .val (.ref i), .val (.int (1 : Int32)), .val (.int (0 : Int32)), .unset] [(.ref i)]))
  refine OGo.by_ (fun t k => XS.iload X1.here hx rfl (hb hby d_ini1_23) rfl k) ?_
  show OGo p e below _ (T1.setTop (mkF m 25 #[.val (.ref a), .val (.ref i), .val (.int (0 : Int32)), .val (.ref i), .val (.int (1 : Int32)), .val (.int (0 : Int32)), .unset] [(.int (0 : Int32)), (.ref i)]))
  obtain ⟨cl3, Ar3, q3, S3, Nn3, H3, G3⟩ := id V1
  have in3 := inb_of S3 ⟨(by decide : ¬ (0 : Int32) < 0), (by decide : (0 : Int32) < (1 : Int32))⟩
  refine OGo.by_ (fun t kk => X1.iaload hx (j := (0 : Int32)) (v := (.int x)) (by rw [e1]; exact Ar3.1) (State.isArrayOf_alike hZ.alike Ar3.2.1) Ar3.2.2 in3 (H3.at in3 (rfl)) (g := (mkF m 25 #[.val (.ref a), .val (.ref i), .val (.int (0 : Int32)), .val (.ref i), .val (.int (1 : Int32)), .val (.int (0 : Int32)), .unset] [(.int (0 : Int32)), (.ref i)])) rfl rfl (hb hby d_ini1_25) _ kk) ?_
  show OGo p e below _ (T1.setTop (mkF m 26 #[.val (.ref a), .val (.ref i), .val (.int (0 : Int32)), .val (.ref i), .val (.int (1 : Int32)), .val (.int (0 : Int32)), .unset] [(.int x)]))
  refine OGo.by_ (fun t k => XS.istore X1.here hx rfl (hb hby d_ini1_26) rfl (l' := #[.val (.ref a), .val (.ref i), .val (.int (0 : Int32)), .val (.ref i), .val (.int (1 : Int32)), .val (.int (0 : Int32)), .val (.int x)]) rfl k) ?_
  show OGo p e below _ (T1.setTop (mkF m 28 #[.val (.ref a), .val (.ref i), .val (.int (0 : Int32)), .val (.ref i), .val (.int (1 : Int32)), .val (.int (0 : Int32)), .val (.int x)] []))
  refine OGo.by_ (fun t k => XS.iloadN X1.here hx rfl (hb hby d_ini1_28) rfl k) ?_
  show OGo p e below _ (T1.setTop (mkF m 29 #[.val (.ref a), .val (.ref i), .val (.int (0 : Int32)), .val (.ref i), .val (.int (1 : Int32)), .val (.int (0 : Int32)), .val (.int x)] [(.int (0 : Int32))]))
  refine OGo.by_ (fun t k => XS.iload X1.here hx rfl (hb hby d_ini1_29) rfl k) ?_
  show OGo p e below _ (T1.setTop (mkF m 31 #[.val (.ref a), .val (.ref i), .val (.int (0 : Int32)), .val (.ref i), .val (.int (1 : Int32)), .val (.int (0 : Int32)), .val (.int x)] [(.int x), (.int (0 : Int32))]))
  refine OGo.by_ (fun t k => XS.ior X1.here hx rfl (hb hby d_ini1_31) rfl k) ?_
  show OGo p e below _ (T1.setTop (mkF m 32 #[.val (.ref a), .val (.ref i), .val (.int (0 : Int32)), .val (.ref i), .val (.int (1 : Int32)), .val (.int (0 : Int32)), .val (.int x)] [(.int ((0 : Int32) ||| x))]))
  refine OGo.by_ (fun t k => XS.istoreN X1.here hx rfl (hb hby d_ini1_32) rfl (l' := #[.val (.ref a), .val (.ref i), .val (.int ((0 : Int32) ||| x)), .val (.ref i), .val (.int (1 : Int32)), .val (.int (0 : Int32)), .val (.int x)]) rfl k) ?_
  show OGo p e below _ (T1.setTop (mkF m 33 #[.val (.ref a), .val (.ref i), .val (.int ((0 : Int32) ||| x)), .val (.ref i), .val (.int (1 : Int32)), .val (.int (0 : Int32)), .val (.int x)] []))
  refine OGo.by_ (fun t k => XS.iinc X1.here hx rfl (hb hby d_ini1_33) rfl (l' := #[.val (.ref a), .val (.ref i), .val (.int ((0 : Int32) ||| x)), .val (.ref i), .val (.int (1 : Int32)), .val (.int (1 : Int32)), .val (.int x)]) rfl k) ?_
  show OGo p e below _ (T1.setTop (mkF m 36 #[.val (.ref a), .val (.ref i), .val (.int ((0 : Int32) ||| x)), .val (.ref i), .val (.int (1 : Int32)), .val (.int (1 : Int32)), .val (.int x)] []))
  refine OGo.by_ (fun t k => XS.goto X1.here hx rfl (pc0 := 36) (pc' := 15) rfl (hb hby d_ini1_36) (by decide) (by decide) k) ?_
  show OGo p e below _ (T1.setTop (mkF m 15 #[.val (.ref a), .val (.ref i), .val (.int ((0 : Int32) ||| x)), .val (.ref i), .val (.int (1 : Int32)), .val (.int (1 : Int32)), .val (.int x)] []))
  refine OGo.by_ (fun t k => XS.iload X1.here hx rfl (hb hby d_ini1_15) rfl k) ?_
  show OGo p e below _ (T1.setTop (mkF m 17 #[.val (.ref a), .val (.ref i), .val (.int ((0 : Int32) ||| x)), .val (.ref i), .val (.int (1 : Int32)), .val (.int (1 : Int32)), .val (.int x)] [(.int (1 : Int32))]))
  refine OGo.by_ (fun t k => XS.iload X1.here hx rfl (hb hby d_ini1_17) rfl k) ?_
  show OGo p e below _ (T1.setTop (mkF m 19 #[.val (.ref a), .val (.ref i), .val (.int ((0 : Int32) ||| x)), .val (.ref i), .val (.int (1 : Int32)), .val (.int (1 : Int32)), .val (.int x)] [(.int (1 : Int32)), (.int (1 : Int32))]))
  refine OGo.by_ (fun t k => XS.icmpYes X1.here hx rfl (pc0 := 19) (pc' := 39) rfl (hb hby d_ini1_19) rfl (flt (by decide)).2.1 (by decide) (by decide) k) ?_
  show OGo p e below _ (T1.setTop (mkF m 39 #[.val (.ref a), .val (.ref i), .val (.int ((0 : Int32) ||| x)), .val (.ref i), .val (.int (1 : Int32)), .val (.int (1 : Int32)), .val (.int x)] []))
  refine OGo.by_ (fun t k => XS.iloadN X1.here hx rfl (hb hby d_ini1_39) rfl k) ?_
  show OGo p e below _ (T1.setTop (mkF m 40 #[.val (.ref a), .val (.ref i), .val (.int ((0 : Int32) ||| x)), .val (.ref i), .val (.int (1 : Int32)), .val (.int (1 : Int32)), .val (.int x)] [(.int ((0 : Int32) ||| x))]))
  by_cases hc40 : ((0 : Int32) ||| x) < (0 : Int32)
  · refine OGo.by_ (fun t k => XS.ifYes X1.here hx rfl (pc0 := 40) (pc' := 90) rfl (hb hby d_ini1_40) rfl ((if0 _ _).trans (tlt hc40).1) (by decide) (by decide) k) ?_
    show OGo p e below _ (T1.setTop (mkF m 90 #[.val (.ref a), .val (.ref i), .val (.int ((0 : Int32) ||| x)), .val (.ref i), .val (.int (1 : Int32)), .val (.int (1 : Int32)), .val (.int x)] []))
    refine OGo.by_ (fun t k => XS.aloadN X1.here hx rfl (hb hby d_ini1_90) rfl rfl k) ?_
    show OGo p e below _ (T1.setTop (mkF m 91 #[.val (.ref a), .val (.ref i), .val (.int ((0 : Int32) ||| x)), .val (.ref i), .val (.int (1 : Int32)), .val (.int (1 : Int32)), .val (.int x)] [(.ref a)]))
    refine OGo.by_ (fun t k => XS.aconstNull X1.here hx rfl (hb hby d_ini1_91) k) ?_
    show OGo p e below _ (T1.setTop (mkF m 92 #[.val (.ref a), .val (.ref i), .val (.int ((0 : Int32) ||| x)), .val (.ref i), .val (.int (1 : Int32)), .val (.int (1 : Int32)), .val (.int x)] [.null, (.ref a)]))
    obtain ⟨T4, h4, X4, e4, W4, st4⟩ := putF X1 hx hZ hown (host := "") (Or.inl (hw _ (List.mem_of_getElem? (i := 15) rfl))) Via.refl e1 FS E0 (Or.inr ⟨(hw _ (List.mem_of_getElem? (i := 16) rfl)), rfl, hnm⟩) (hw _ (List.mem_of_getElem? (i := 6) rfl)) (ty := (.array .byte)) (by decide) rfl rfl (g := (mkF m 92 #[.val (.ref a), .val (.ref i), .val (.int ((0 : Int32) ||| x)), .val (.ref i), .val (.int (1 : Int32)), .val (.int (1 : Int32)), .val (.int x)] [.null, (.ref a)])) rfl rfl (hb hby d_ini1_92)
    refine OGo.by_ st4 ?_
    show OGo p e below _ (T4.setTop (mkF m 95 #[.val (.ref a), .val (.ref i), .val (.int ((0 : Int32) ||| x)), .val (.ref i), .val (.int (1 : Int32)), .val (.int (1 : Int32)), .val (.int x)] []))
    have N4 := Fr.snoc X4 N0 ga
    have E1 := E0.wr W4
    have FS1 := FS.same W4
    have FV1 := FV.other W4 (Or.inr (slot_ne (C := "com/example/fair_witness/fairwitness/model/State") (Or.inr (hw _ (List.mem_of_getElem? (i := 18) rfl))) (Or.inr (hw _ (List.mem_of_getElem? (i := 16) rfl))) (by decide) (t := (.array .int)) (t' := (.array .byte)) (by decide) (by decide)))
    have V1b := V1.other W4 hib
    have X1b := EI.wr W4
    refine OGo.by_ (fun t k => XS.aloadN X4.here hx rfl (hb hby d_ini1_95) rfl rfl k) ?_
    show OGo p e below _ (T4.setTop (mkF m 96 #[.val (.ref a), .val (.ref i), .val (.int ((0 : Int32) ||| x)), .val (.ref i), .val (.int (1 : Int32)), .val (.int (1 : Int32)), .val (.int x)] [(.ref a)]))
    refine OGo.by_ (fun t k => XS.aloadN X4.here hx rfl (hb hby d_ini1_96) rfl rfl k) ?_
    show OGo p e below _ (T4.setTop (mkF m 97 #[.val (.ref a), .val (.ref i), .val (.int ((0 : Int32) ||| x)), .val (.ref i), .val (.int (1 : Int32)), .val (.int (1 : Int32)), .val (.int x)] [(.ref i), (.ref a)]))
    obtain ⟨T5, h5, X5, e5, E5, Va5, Ea5, st5⟩ := cloneH X4 hx hZ hown (hw _ (List.mem_of_getElem? (i := 27) rfl)) (hw _ (List.mem_of_getElem? (i := 28) rfl)) (hw _ (List.mem_of_getElem? (i := 32) rfl)) (hw _ (List.mem_of_getElem? (i := 30) rfl)) (hw _ (List.mem_of_getElem? (i := 31) rfl)) (hw _ (List.mem_of_getElem? (i := 33) rfl)) e4 (Arv.arh V1b) X1b (g := (mkF m 97 #[.val (.ref a), .val (.ref i), .val (.int ((0 : Int32) ||| x)), .val (.ref i), .val (.int (1 : Int32)), .val (.int (1 : Int32)), .val (.int x)] [(.ref i), (.ref a)])) rfl (by rw [hml]; rfl) rfl (hb hby d_ini1_97) (by decide) (W := 1) (by show 2 * 0 + _ ≤ _; exact Nat.le_of_eq rfl) (by decide) (cap := 3) (by decide) (by decide) (by decide)
    obtain ⟨b, g_b⟩ : ∃ z, z = h4.size := ⟨_, rfl⟩
    rw [← g_b] at Va5 Ea5 st5
    refine OGo.by_ st5 ?_
    show OGo p e below _ (T5.setTop (mkF m 100 #[.val (.ref a), .val (.ref i), .val (.int ((0 : Int32) ||| x)), .val (.ref i), .val (.int (1 : Int32)), .val (.int (1 : Int32)), .val (.int x)] [(.ref b), (.ref a)]))
    obtain ⟨T6, X6, e6, st6⟩ := castY X5 hx hZ hown (hw _ (List.mem_of_getElem? (i := 34) rfl)) e5 (Ins.self Ea5) (g := (mkF m 100 #[.val (.ref a), .val (.ref i), .val (.int ((0 : Int32) ||| x)), .val (.ref i), .val (.int (1 : Int32)), .val (.int (1 : Int32)), .val (.int x)] [(.ref b), (.ref a)])) rfl rfl (hb hby d_ini1_100)
    refine OGo.by_ st6 ?_
    show OGo p e below _ (T6.setTop (mkF m 103 #[.val (.ref a), .val (.ref i), .val (.int ((0 : Int32) ||| x)), .val (.ref i), .val (.int (1 : Int32)), .val (.int (1 : Int32)), .val (.int x)] [(.ref b), (.ref a)]))
    have lta : h4.size > a := E1.lt
    have hab : b ≠ a := own_ne' (by omega)
    obtain ⟨T7, h7, X7, e7, W7, st7⟩ := putF X6 hx hZ hown (host := "") (Or.inl (hw _ (List.mem_of_getElem? (i := 17) rfl))) Via.refl e6 (FV1.ext E5) (E1.ext E5) (Or.inr ⟨(hw _ (List.mem_of_getElem? (i := 18) rfl)), rfl, hnm⟩) (hw _ (List.mem_of_getElem? (i := 6) rfl)) (ty := (.array .int)) (by decide) rfl rfl (g := (mkF m 103 #[.val (.ref a), .val (.ref i), .val (.int ((0 : Int32) ||| x)), .val (.ref i), .val (.int (1 : Int32)), .val (.int (1 : Int32)), .val (.int x)] [(.ref b), (.ref a)])) rfl rfl (hb hby d_ini1_103)
    refine OGo.by_ st7 ?_
    show OGo p e below _ (T7.setTop (mkF m 106 #[.val (.ref a), .val (.ref i), .val (.int ((0 : Int32) ||| x)), .val (.ref i), .val (.int (1 : Int32)), .val (.int (1 : Int32)), .val (.int x)] []))
    have N7 := Fr.snoc X7 N4 ga
    have KK : Keep h0 h7 [a] := (((Keep.refl h0 [a]).wr W4 (Or.inl (List.mem_singleton.mpr rfl))).ext E5).wr W7 (Or.inl (List.mem_singleton.mpr rfl))
    have hsz := W4.size
    have Vc : Arv Z h7 b ki .int (1 : Int32) ([x].map .int) (.int (0 : Int32)) := Arv.other (show Arv Z h5 b ki .int (1 : Int32) [(.int x)] (.int (0 : Int32)) from Va5) W7 hab
    exact own_ret X7 hx hlk hret (hb hby d_ini1_106) (by decide) (by decide) (by rw [e7]; exact ⟨rfl, N7, KK, b, by omega, (E1.ext E5).wr W7, Or.inr ⟨(FS1.ext E5).other W7 (Or.inr (slot_ne (C := "com/example/fair_witness/fairwitness/model/State") (Or.inr (hw _ (List.mem_of_getElem? (i := 16) rfl))) (Or.inr (hw _ (List.mem_of_getElem? (i := 18) rfl))) (by decide) (t := (.array .byte)) (t' := (.array .int)) (by decide) (by decide))), (FV1.ext E5).same W7, Ea5.wr W7, ki, Vc⟩⟩)
  · refine OGo.by_ (fun t k => XS.ifNo X1.here hx rfl (hb hby d_ini1_40) rfl ((if0 _ _).trans (flt hc40).1) k) ?_
    show OGo p e below _ (T1.setTop (mkF m 43 #[.val (.ref a), .val (.ref i), .val (.int ((0 : Int32) ||| x)), .val (.ref i), .val (.int (1 : Int32)), .val (.int (1 : Int32)), .val (.int x)] []))
    refine OGo.by_ (fun t k => XS.iloadN X1.here hx rfl (hb hby d_ini1_43) rfl k) ?_
    show OGo p e below _ (T1.setTop (mkF m 44 #[.val (.ref a), .val (.ref i), .val (.int ((0 : Int32) ||| x)), .val (.ref i), .val (.int (1 : Int32)), .val (.int (1 : Int32)), .val (.int x)] [(.int ((0 : Int32) ||| x))]))
    refine OGo.by_ (fun t k => XS.sipush X1.here hx rfl (hb hby d_ini1_44) k) ?_
    show OGo p e below _ (T1.setTop (mkF m 47 #[.val (.ref a), .val (.ref i), .val (.int ((0 : Int32) ||| x)), .val (.ref i), .val (.int (1 : Int32)), .val (.int (1 : Int32)), .val (.int x)] [(.int (256 : Int32)), (.int ((0 : Int32) ||| x))]))
    by_cases hc47 : ((0 : Int32) ||| x) < (256 : Int32)
    · refine OGo.by_ (fun t k => XS.icmpNo X1.here hx rfl (hb hby d_ini1_47) rfl (tlt hc47).2.1 k) ?_
      show OGo p e below _ (T1.setTop (mkF m 50 #[.val (.ref a), .val (.ref i), .val (.int ((0 : Int32) ||| x)), .val (.ref i), .val (.int (1 : Int32)), .val (.int (1 : Int32)), .val (.int x)] []))
      refine OGo.by_ (fun t k => XS.aloadN X1.here hx rfl (hb hby d_ini1_50) rfl rfl k) ?_
      show OGo p e below _ (T1.setTop (mkF m 51 #[.val (.ref a), .val (.ref i), .val (.int ((0 : Int32) ||| x)), .val (.ref i), .val (.int (1 : Int32)), .val (.int (1 : Int32)), .val (.int x)] [(.ref a)]))
      refine OGo.by_ (fun t k => XS.aloadN X1.here hx rfl (hb hby d_ini1_51) rfl rfl k) ?_
      show OGo p e below _ (T1.setTop (mkF m 52 #[.val (.ref a), .val (.ref i), .val (.int ((0 : Int32) ||| x)), .val (.ref i), .val (.int (1 : Int32)), .val (.int (1 : Int32)), .val (.int x)] [(.ref i), (.ref a)]))
      obtain ⟨cl8, Ar8, q8, S8, Nn8, H8, G8⟩ := id V1
      refine OGo.by_ (X1.arraylength hx (by rw [e1]; exact Ar8.1) (State.isArrayOf_alike hZ.alike Ar8.2.1) (g := (mkF m 52 #[.val (.ref a), .val (.ref i), .val (.int ((0 : Int32) ||| x)), .val (.ref i), .val (.int (1 : Int32)), .val (.int (1 : Int32)), .val (.int x)] [(.ref i), (.ref a)])) rfl rfl (hb hby d_ini1_52)) ?_
      rw [len_of S8 Nn8]
      show OGo p e below _ (T1.setTop (mkF m 53 #[.val (.ref a), .val (.ref i), .val (.int ((0 : Int32) ||| x)), .val (.ref i), .val (.int (1 : Int32)), .val (.int (1 : Int32)), .val (.int x)] [(.int (1 : Int32)), (.ref a)]))
      obtain ⟨T9, h9, k9, X9, e9, E9, A9, st9⟩ := newP X1 hx hZ (hw _ (List.mem_of_getElem? (i := 14) rfl)) e1 (g := (mkF m 53 #[.val (.ref a), .val (.ref i), .val (.int ((0 : Int32) ||| x)), .val (.ref i), .val (.int (1 : Int32)), .val (.int (1 : Int32)), .val (.int x)] [(.int (1 : Int32)), (.ref a)])) rfl (hb hby d_ini1_53) rfl (by decide) (cap := 3) (by decide) (by decide) (by decide) (by decide)
      obtain ⟨b, g_b⟩ : ∃ z, z = h0.size := ⟨_, rfl⟩
      rw [← g_b] at A9 st9
      have V_b := Arv.new A9 (by decide)
      have lt_b := own_lt V_b.lt
      refine OGo.by_ st9 ?_
      show OGo p e below _ (T9.setTop (mkF m 55 #[.val (.ref a), .val (.ref i), .val (.int ((0 : Int32) ||| x)), .val (.ref i), .val (.int (1 : Int32)), .val (.int (1 : Int32)), .val (.int x)] [(.ref b), (.ref a)]))
      have lta : h0.size > a := E0.lt
      have lti : h0.size > i := V1.lt
      have hab : a ≠ b := own_ne (by omega)
      have hibb : i ≠ b := own_ne (by omega)
      have gb : n0 ≤ b := by omega
      obtain ⟨T10, h10, X10, e10, W10, st10⟩ := putF X9 hx hZ hown (host := "") (Or.inl (hw _ (List.mem_of_getElem? (i := 15) rfl))) Via.refl e9 (FS.ext E9) (E0.ext E9) (Or.inr ⟨(hw _ (List.mem_of_getElem? (i := 16) rfl)), rfl, hnm⟩) (hw _ (List.mem_of_getElem? (i := 6) rfl)) (ty := (.array .byte)) (by decide) rfl rfl (g := (mkF m 55 #[.val (.ref a), .val (.ref i), .val (.int ((0 : Int32) ||| x)), .val (.ref i), .val (.int (1 : Int32)), .val (.int (1 : Int32)), .val (.int x)] [(.ref b), (.ref a)])) rfl rfl (hb hby d_ini1_55)
      refine OGo.by_ st10 ?_
      show OGo p e below _ (T10.setTop (mkF m 58 #[.val (.ref a), .val (.ref i), .val (.int ((0 : Int32) ||| x)), .val (.ref i), .val (.int (1 : Int32)), .val (.int (1 : Int32)), .val (.int x)] []))
      have N10 := Fr.snoc X10 N0 ga
      have E1 := (E0.ext E9).wr W10
      have FS1 := (FS.ext E9).same W10
      have FV1 := (FV.ext E9).other W10 (Or.inr (slot_ne (C := "com/example/fair_witness/fairwitness/model/State") (Or.inr (hw _ (List.mem_of_getElem? (i := 18) rfl))) (Or.inr (hw _ (List.mem_of_getElem? (i := 16) rfl))) (by decide) (t := (.array .int)) (t' := (.array .byte)) (by decide) (by decide)))
      have U0 := V_b.other W10 hab.symm
      have I0 := (V1.ext E9).other W10 hib
      have K0_ : Keep h0 h10 [a] := ((Keep.refl h0 [a]).ext E9).wr W10 (Or.inl (List.mem_singleton.mpr rfl))
      have U0' : Arv Z h10 b k9 .byte (1 : Int32) [(.int (0 : Int32))] (.int (0 : Int32)) := U0.pad (pad_rep [] _ 1)
      refine OGo.by_ (fun t k => XS.iconst X10.here hx rfl (hb hby d_ini1_58) k) ?_
      show OGo p e below _ (T10.setTop (mkF m 59 #[.val (.ref a), .val (.ref i), .val (.int ((0 : Int32) ||| x)), .val (.ref i), .val (.int (1 : Int32)), .val (.int (1 : Int32)), .val (.int x)] [(.int (0 : Int32))]))
      refine OGo.by_ (fun t k => XS.istoreN X10.here hx rfl (hb hby d_ini1_59) rfl (l' := #[.val (.ref a), .val (.ref i), .val (.int ((0 : Int32) ||| x)), .val (.int (0 : Int32)), .val (.int (1 : Int32)), .val (.int (1 : Int32)), .val (.int x)]) rfl k) ?_
      show OGo p e below _ (T10.setTop (mkF m 60 #[.val (.ref a), .val (.ref i), .val (.int ((0 : Int32) ||| x)), .val (.int (0 : Int32)), .val (.int (1 : Int32)), .val (.int (1 : Int32)), .val (.int x)] []))
      refine OGo.by_ (fun t k => XS.iloadN X10.here hx rfl (hb hby d_ini1_60) rfl k) ?_
      show OGo p e below _ (T10.setTop (mkF m 61 #[.val (.ref a), .val (.ref i), .val (.int ((0 : Int32) ||| x)), .val (.int (0 : Int32)), .val (.int (1 : Int32)), .val (.int (1 : Int32)), .val (.int x)] [(.int (0 : Int32))]))
      refine OGo.by_ (fun t k => XS.aloadN X10.here hx rfl (hb hby d_ini1_61) rfl rfl k) ?_
      show OGo p e below _ (T10.setTop (mkF m 62 #[.val (.ref a), .val (.ref i), .val (.int ((0 : Int32) ||| x)), .val (.int (0 : Int32)), .val (.int (1 : Int32)), .val (.int (1 : Int32)), .val (.int x)] [(.ref i), (.int (0 : Int32))]))
      obtain ⟨cl11, Ar11, q11, S11, Nn11, H11, G11⟩ := id I0
      refine OGo.by_ (X10.arraylength hx (by rw [e10]; exact Ar11.1) (State.isArrayOf_alike hZ.alike Ar11.2.1) (g := (mkF m 62 #[.val (.ref a), .val (.ref i), .val (.int ((0 : Int32) ||| x)), .val (.int (0 : Int32)), .val (.int (1 : Int32)), .val (.int (1 : Int32)), .val (.int x)] [(.ref i), (.int (0 : Int32))])) rfl rfl (hb hby d_ini1_62)) ?_
      rw [len_of S11 Nn11]
      show OGo p e below _ (T10.setTop (mkF m 63 #[.val (.ref a), .val (.ref i), .val (.int ((0 : Int32) ||| x)), .val (.int (0 : Int32)), .val (.int (1 : Int32)), .val (.int (1 : Int32)), .val (.int x)] [(.int (1 : Int32)), (.int (0 : Int32))]))
      refine OGo.by_ (fun t k => XS.icmpNo X10.here hx rfl (hb hby d_ini1_63) rfl (tlt (by decide)).2.1 k) ?_
      show OGo p e below _ (T10.setTop (mkF m 66 #[.val (.ref a), .val (.ref i), .val (.int ((0 : Int32) ||| x)), .val (.int (0 : Int32)), .val (.int (1 : Int32)), .val (.int (1 : Int32)), .val (.int x)] []))
      refine OGo.by_ (fun t k => XS.aloadN X10.here hx rfl (hb hby d_ini1_66) rfl rfl k) ?_
      show OGo p e below _ (T10.setTop (mkF m 67 #[.val (.ref a), .val (.ref i), .val (.int ((0 : Int32) ||| x)), .val (.int (0 : Int32)), .val (.int (1 : Int32)), .val (.int (1 : Int32)), .val (.int x)] [(.ref a)]))
      obtain ⟨T12, X12, e12, st12⟩ := getF X10 hx hZ hown (host := "") (Or.inl (hw _ (List.mem_of_getElem? (i := 15) rfl))) Via.refl e10 FS1 (g := (mkF m 67 #[.val (.ref a), .val (.ref i), .val (.int ((0 : Int32) ||| x)), .val (.int (0 : Int32)), .val (.int (1 : Int32)), .val (.int (1 : Int32)), .val (.int x)] [(.ref a)])) rfl rfl (hb hby d_ini1_67)
      refine OGo.by_ st12 ?_
      show OGo p e below _ (T12.setTop (mkF m 70 #[.val (.ref a), .val (.ref i), .val (.int ((0 : Int32) ||| x)), .val (.int (0 : Int32)), .val (.int (1 : Int32)), .val (.int (1 : Int32)), .val (.int x)] [(.ref b)]))
      refine OGo.by_ (fun t k => XS.iloadN X12.here hx rfl (hb hby d_ini1_70) rfl k) ?_
      show OGo p e below _ (T12.setTop (mkF m 71 #[.val (.ref a), .val (.ref i), .val (.int ((0 : Int32) ||| x)), .val (.int (0 : Int32)), .val (.int (1 : Int32)), .val (.int (1 : Int32)), .val (.int x)] [(.int (0 : Int32)), (.ref b)]))
      refine OGo.by_ (fun t k => XS.aloadN X12.here hx rfl (hb hby d_ini1_71) rfl rfl k) ?_
      show OGo p e below _ (T12.setTop (mkF m 72 #[.val (.ref a), .val (.ref i), .val (.int ((0 : Int32) ||| x)), .val (.int (0 : Int32)), .val (.int (1 : Int32)), .val (.int (1 : Int32)), .val (.int x)] [(.ref i), (.int (0 : Int32)), (.ref b)]))
      refine OGo.by_ (fun t k => XS.iloadN X12.here hx rfl (hb hby d_ini1_72) rfl k) ?_
      show OGo p e below _ (T12.setTop (mkF m 73 #[.val (.ref a), .val (.ref i), .val (.int ((0 : Int32) ||| x)), .val (.int (0 : Int32)), .val (.int (1 : Int32)), .val (.int (1 : Int32)), .val (.int x)] [(.int (0 : Int32)), (.ref i), (.int (0 : Int32)), (.ref b)]))
      obtain ⟨cl13, Ar13, q13, S13, Nn13, H13, G13⟩ := id I0
      have in13 := inb_of S13 ⟨(by decide : ¬ (0 : Int32) < 0), (by decide : (0 : Int32) < (1 : Int32))⟩
      refine OGo.by_ (fun t kk => X12.iaload hx (j := (0 : Int32)) (v := (.int x)) (by rw [e12]; exact Ar13.1) (State.isArrayOf_alike hZ.alike Ar13.2.1) Ar13.2.2 in13 (H13.at in13 (rfl)) (g := (mkF m 73 #[.val (.ref a), .val (.ref i), .val (.int ((0 : Int32) ||| x)), .val (.int (0 : Int32)), .val (.int (1 : Int32)), .val (.int (1 : Int32)), .val (.int x)] [(.int (0 : Int32)), (.ref i), (.int (0 : Int32)), (.ref b)])) rfl rfl (hb hby d_ini1_73) _ kk) ?_
      show OGo p e below _ (T12.setTop (mkF m 74 #[.val (.ref a), .val (.ref i), .val (.int ((0 : Int32) ||| x)), .val (.int (0 : Int32)), .val (.int (1 : Int32)), .val (.int (1 : Int32)), .val (.int x)] [(.int x), (.int (0 : Int32)), (.ref b)]))
      refine OGo.by_ (fun t k => XS.i2b X12.here hx rfl (hb hby d_ini1_74) rfl k) ?_
      show OGo p e below _ (T12.setTop (mkF m 75 #[.val (.ref a), .val (.ref i), .val (.int ((0 : Int32) ||| x)), .val (.int (0 : Int32)), .val (.int (1 : Int32)), .val (.int (1 : Int32)), .val (.int x)] [(.int (x.toInt8.toInt32)), (.int (0 : Int32)), (.ref b)]))
      obtain ⟨cl14, Ar14, q14, S14, Nn14, H14, G14⟩ := id U0'
      obtain ⟨T15, h15, X15, e15, W15, st15⟩ := stB X12 hx hZ e12 Ar14 (j := (0 : Int32)) (inb_of S14 ⟨(by decide : ¬ (0 : Int32) < 0), (by decide : (0 : Int32) < (1 : Int32))⟩) (g := (mkF m 75 #[.val (.ref a), .val (.ref i), .val (.int ((0 : Int32) ||| x)), .val (.int (0 : Int32)), .val (.int (1 : Int32)), .val (.int (1 : Int32)), .val (.int x)] [(.int (x.toInt8.toInt32)), (.int (0 : Int32)), (.ref b)])) rfl rfl (hb hby d_ini1_75)
      refine OGo.by_ st15 ?_
      show OGo p e below _ (T15.setTop (mkF m 76 #[.val (.ref a), .val (.ref i), .val (.int ((0 : Int32) ||| x)), .val (.int (0 : Int32)), .val (.int (1 : Int32)), .val (.int (1 : Int32)), .val (.int x)] []))
      have N15 := Fr.snoc X15 N10 gb
      rw [own_nb8] at W15
      have U1 := Arv.set Ar14 q14 S14 Nn14 H14 G14 (fits_nar_byte _) W15 0 (by decide) (Nat.le_of_ble_eq_true rfl)
      have E0_ := E1.wr W15
      have FS0_ := FS1.other W15 (Or.inl hab)
      have FV0_ := FV1.other W15 (Or.inl hab)
      have I0_ := I0.other W15 hibb
      have K0_' := Keep.wr K0_ W15 (Or.inr (Nat.le_of_eq g_b.symm))
      refine OGo.by_ (fun t k => XS.iinc X15.here hx rfl (hb hby d_ini1_76) rfl (l' := #[.val (.ref a), .val (.ref i), .val (.int ((0 : Int32) ||| x)), .val (.int (1 : Int32)), .val (.int (1 : Int32)), .val (.int (1 : Int32)), .val (.int x)]) rfl k) ?_
      show OGo p e below _ (T15.setTop (mkF m 79 #[.val (.ref a), .val (.ref i), .val (.int ((0 : Int32) ||| x)), .val (.int (1 : Int32)), .val (.int (1 : Int32)), .val (.int (1 : Int32)), .val (.int x)] []))
      refine OGo.by_ (fun t k => XS.goto X15.here hx rfl (pc0 := 79) (pc' := 60) rfl (hb hby d_ini1_79) (by decide) (by decide) k) ?_
      show OGo p e below _ (T15.setTop (mkF m 60 #[.val (.ref a), .val (.ref i), .val (.int ((0 : Int32) ||| x)), .val (.int (1 : Int32)), .val (.int (1 : Int32)), .val (.int (1 : Int32)), .val (.int x)] []))
      refine OGo.by_ (fun t k => XS.iloadN X15.here hx rfl (hb hby d_ini1_60) rfl k) ?_
      show OGo p e below _ (T15.setTop (mkF m 61 #[.val (.ref a), .val (.ref i), .val (.int ((0 : Int32) ||| x)), .val (.int (1 : Int32)), .val (.int (1 : Int32)), .val (.int (1 : Int32)), .val (.int x)] [(.int (1 : Int32))]))
      refine OGo.by_ (fun t k => XS.aloadN X15.here hx rfl (hb hby d_ini1_61) rfl rfl k) ?_
      show OGo p e below _ (T15.setTop (mkF m 62 #[.val (.ref a), .val (.ref i), .val (.int ((0 : Int32) ||| x)), .val (.int (1 : Int32)), .val (.int (1 : Int32)), .val (.int (1 : Int32)), .val (.int x)] [(.ref i), (.int (1 : Int32))]))
      obtain ⟨cl16, Ar16, q16, S16, Nn16, H16, G16⟩ := id I0_
      refine OGo.by_ (X15.arraylength hx (by rw [e15]; exact Ar16.1) (State.isArrayOf_alike hZ.alike Ar16.2.1) (g := (mkF m 62 #[.val (.ref a), .val (.ref i), .val (.int ((0 : Int32) ||| x)), .val (.int (1 : Int32)), .val (.int (1 : Int32)), .val (.int (1 : Int32)), .val (.int x)] [(.ref i), (.int (1 : Int32))])) rfl rfl (hb hby d_ini1_62)) ?_
      rw [len_of S16 Nn16]
      show OGo p e below _ (T15.setTop (mkF m 63 #[.val (.ref a), .val (.ref i), .val (.int ((0 : Int32) ||| x)), .val (.int (1 : Int32)), .val (.int (1 : Int32)), .val (.int (1 : Int32)), .val (.int x)] [(.int (1 : Int32)), (.int (1 : Int32))]))
      refine OGo.by_ (fun t k => XS.icmpYes X15.here hx rfl (pc0 := 63) (pc' := 82) rfl (hb hby d_ini1_63) rfl (flt (by decide)).2.1 (by decide) (by decide) k) ?_
      show OGo p e below _ (T15.setTop (mkF m 82 #[.val (.ref a), .val (.ref i), .val (.int ((0 : Int32) ||| x)), .val (.int (1 : Int32)), .val (.int (1 : Int32)), .val (.int (1 : Int32)), .val (.int x)] []))
      refine OGo.by_ (fun t k => XS.aloadN X15.here hx rfl (hb hby d_ini1_82) rfl rfl k) ?_
      show OGo p e below _ (T15.setTop (mkF m 83 #[.val (.ref a), .val (.ref i), .val (.int ((0 : Int32) ||| x)), .val (.int (1 : Int32)), .val (.int (1 : Int32)), .val (.int (1 : Int32)), .val (.int x)] [(.ref a)]))
      refine OGo.by_ (fun t k => XS.aconstNull X15.here hx rfl (hb hby d_ini1_83) k) ?_
      show OGo p e below _ (T15.setTop (mkF m 84 #[.val (.ref a), .val (.ref i), .val (.int ((0 : Int32) ||| x)), .val (.int (1 : Int32)), .val (.int (1 : Int32)), .val (.int (1 : Int32)), .val (.int x)] [.null, (.ref a)]))
      obtain ⟨T17, h17, X17, e17, W17, st17⟩ := putF X15 hx hZ hown (host := "") (Or.inl (hw _ (List.mem_of_getElem? (i := 17) rfl))) Via.refl e15 FV0_ E0_ (Or.inr ⟨(hw _ (List.mem_of_getElem? (i := 18) rfl)), rfl, hnm⟩) (hw _ (List.mem_of_getElem? (i := 6) rfl)) (ty := (.array .int)) (by decide) rfl rfl (g := (mkF m 84 #[.val (.ref a), .val (.ref i), .val (.int ((0 : Int32) ||| x)), .val (.int (1 : Int32)), .val (.int (1 : Int32)), .val (.int (1 : Int32)), .val (.int x)] [.null, (.ref a)])) rfl rfl (hb hby d_ini1_84)
      refine OGo.by_ st17 ?_
      show OGo p e below _ (T17.setTop (mkF m 87 #[.val (.ref a), .val (.ref i), .val (.int ((0 : Int32) ||| x)), .val (.int (1 : Int32)), .val (.int (1 : Int32)), .val (.int (1 : Int32)), .val (.int x)] []))
      have N17 := Fr.snoc X17 N15 ga
      have KK := Keep.wr K0_' W17 (Or.inl (List.mem_singleton.mpr rfl))
      have Uf : Arv Z h17 b k9 .byte (1 : Int32) ([x].map fun x => .int x.toInt8.toInt32) (.int (0 : Int32)) := Arv.other (show Arv Z _ b k9 .byte (1 : Int32) [(.int x.toInt8.toInt32)] (.int (0 : Int32)) from U1) W17 hab.symm
      refine OGo.by_ (fun t k => XS.goto X17.here hx rfl (pc0 := 87) (pc' := 106) rfl (hb hby d_ini1_87) (by decide) (by decide) k) ?_
      show OGo p e below _ (T17.setTop (mkF m 106 #[.val (.ref a), .val (.ref i), .val (.int ((0 : Int32) ||| x)), .val (.int (1 : Int32)), .val (.int (1 : Int32)), .val (.int (1 : Int32)), .val (.int x)] []))
      exact own_ret X17 hx hlk hret (hb hby d_ini1_106) (by decide) (by decide) (by rw [e17]; exact ⟨rfl, N17, KK, b, by omega, E0_.wr W17, Or.inl ⟨FS0_.other W17 (Or.inr (slot_ne (C := "com/example/fair_witness/fairwitness/model/State") (Or.inr (hw _ (List.mem_of_getElem? (i := 16) rfl))) (Or.inr (hw _ (List.mem_of_getElem? (i := 18) rfl))) (by decide) (t := (.array .byte)) (t' := (.array .int)) (by decide) (by decide))), FV0_.same W17, ⟨k9, Uf⟩, own_sm1 hc40 hc47⟩⟩)
    · refine OGo.by_ (fun t k => XS.icmpYes X1.here hx rfl (pc0 := 47) (pc' := 90) rfl (hb hby d_ini1_47) rfl (flt hc47).2.1 (by decide) (by decide) k) ?_
      show OGo p e below _ (T1.setTop (mkF m 90 #[.val (.ref a), .val (.ref i), .val (.int ((0 : Int32) ||| x)), .val (.ref i), .val (.int (1 : Int32)), .val (.int (1 : Int32)), .val (.int x)] []))
      refine OGo.by_ (fun t k => XS.aloadN X1.here hx rfl (hb hby d_ini1_90) rfl rfl k) ?_
      show OGo p e below _ (T1.setTop (mkF m 91 #[.val (.ref a), .val (.ref i), .val (.int ((0 : Int32) ||| x)), .val (.ref i), .val (.int (1 : Int32)), .val (.int (1 : Int32)), .val (.int x)] [(.ref a)]))
      refine OGo.by_ (fun t k => XS.aconstNull X1.here hx rfl (hb hby d_ini1_91) k) ?_
      show OGo p e below _ (T1.setTop (mkF m 92 #[.val (.ref a), .val (.ref i), .val (.int ((0 : Int32) ||| x)), .val (.ref i), .val (.int (1 : Int32)), .val (.int (1 : Int32)), .val (.int x)] [.null, (.ref a)]))
      obtain ⟨T18, h18, X18, e18, W18, st18⟩ := putF X1 hx hZ hown (host := "") (Or.inl (hw _ (List.mem_of_getElem? (i := 15) rfl))) Via.refl e1 FS E0 (Or.inr ⟨(hw _ (List.mem_of_getElem? (i := 16) rfl)), rfl, hnm⟩) (hw _ (List.mem_of_getElem? (i := 6) rfl)) (ty := (.array .byte)) (by decide) rfl rfl (g := (mkF m 92 #[.val (.ref a), .val (.ref i), .val (.int ((0 : Int32) ||| x)), .val (.ref i), .val (.int (1 : Int32)), .val (.int (1 : Int32)), .val (.int x)] [.null, (.ref a)])) rfl rfl (hb hby d_ini1_92)
      refine OGo.by_ st18 ?_
      show OGo p e below _ (T18.setTop (mkF m 95 #[.val (.ref a), .val (.ref i), .val (.int ((0 : Int32) ||| x)), .val (.ref i), .val (.int (1 : Int32)), .val (.int (1 : Int32)), .val (.int x)] []))
      have N18 := Fr.snoc X18 N0 ga
      have E1 := E0.wr W18
      have FS1 := FS.same W18
      have FV1 := FV.other W18 (Or.inr (slot_ne (C := "com/example/fair_witness/fairwitness/model/State") (Or.inr (hw _ (List.mem_of_getElem? (i := 18) rfl))) (Or.inr (hw _ (List.mem_of_getElem? (i := 16) rfl))) (by decide) (t := (.array .int)) (t' := (.array .byte)) (by decide) (by decide)))
      have V1b := V1.other W18 hib
      have X1b := EI.wr W18
      refine OGo.by_ (fun t k => XS.aloadN X18.here hx rfl (hb hby d_ini1_95) rfl rfl k) ?_
      show OGo p e below _ (T18.setTop (mkF m 96 #[.val (.ref a), .val (.ref i), .val (.int ((0 : Int32) ||| x)), .val (.ref i), .val (.int (1 : Int32)), .val (.int (1 : Int32)), .val (.int x)] [(.ref a)]))
      refine OGo.by_ (fun t k => XS.aloadN X18.here hx rfl (hb hby d_ini1_96) rfl rfl k) ?_
      show OGo p e below _ (T18.setTop (mkF m 97 #[.val (.ref a), .val (.ref i), .val (.int ((0 : Int32) ||| x)), .val (.ref i), .val (.int (1 : Int32)), .val (.int (1 : Int32)), .val (.int x)] [(.ref i), (.ref a)]))
      obtain ⟨T19, h19, X19, e19, E19, Va19, Ea19, st19⟩ := cloneH X18 hx hZ hown (hw _ (List.mem_of_getElem? (i := 27) rfl)) (hw _ (List.mem_of_getElem? (i := 28) rfl)) (hw _ (List.mem_of_getElem? (i := 32) rfl)) (hw _ (List.mem_of_getElem? (i := 30) rfl)) (hw _ (List.mem_of_getElem? (i := 31) rfl)) (hw _ (List.mem_of_getElem? (i := 33) rfl)) e18 (Arv.arh V1b) X1b (g := (mkF m 97 #[.val (.ref a), .val (.ref i), .val (.int ((0 : Int32) ||| x)), .val (.ref i), .val (.int (1 : Int32)), .val (.int (1 : Int32)), .val (.int x)] [(.ref i), (.ref a)])) rfl (by rw [hml]; rfl) rfl (hb hby d_ini1_97) (by decide) (W := 1) (by show 2 * 0 + _ ≤ _; exact Nat.le_of_eq rfl) (by decide) (cap := 3) (by decide) (by decide) (by decide)
      obtain ⟨b, g_b⟩ : ∃ z, z = h18.size := ⟨_, rfl⟩
      rw [← g_b] at Va19 Ea19 st19
      refine OGo.by_ st19 ?_
      show OGo p e below _ (T19.setTop (mkF m 100 #[.val (.ref a), .val (.ref i), .val (.int ((0 : Int32) ||| x)), .val (.ref i), .val (.int (1 : Int32)), .val (.int (1 : Int32)), .val (.int x)] [(.ref b), (.ref a)]))
      obtain ⟨T20, X20, e20, st20⟩ := castY X19 hx hZ hown (hw _ (List.mem_of_getElem? (i := 34) rfl)) e19 (Ins.self Ea19) (g := (mkF m 100 #[.val (.ref a), .val (.ref i), .val (.int ((0 : Int32) ||| x)), .val (.ref i), .val (.int (1 : Int32)), .val (.int (1 : Int32)), .val (.int x)] [(.ref b), (.ref a)])) rfl rfl (hb hby d_ini1_100)
      refine OGo.by_ st20 ?_
      show OGo p e below _ (T20.setTop (mkF m 103 #[.val (.ref a), .val (.ref i), .val (.int ((0 : Int32) ||| x)), .val (.ref i), .val (.int (1 : Int32)), .val (.int (1 : Int32)), .val (.int x)] [(.ref b), (.ref a)]))
      have lta : h18.size > a := E1.lt
      have hab : b ≠ a := own_ne' (by omega)
      obtain ⟨T21, h21, X21, e21, W21, st21⟩ := putF X20 hx hZ hown (host := "") (Or.inl (hw _ (List.mem_of_getElem? (i := 17) rfl))) Via.refl e20 (FV1.ext E19) (E1.ext E19) (Or.inr ⟨(hw _ (List.mem_of_getElem? (i := 18) rfl)), rfl, hnm⟩) (hw _ (List.mem_of_getElem? (i := 6) rfl)) (ty := (.array .int)) (by decide) rfl rfl (g := (mkF m 103 #[.val (.ref a), .val (.ref i), .val (.int ((0 : Int32) ||| x)), .val (.ref i), .val (.int (1 : Int32)), .val (.int (1 : Int32)), .val (.int x)] [(.ref b), (.ref a)])) rfl rfl (hb hby d_ini1_103)
      refine OGo.by_ st21 ?_
      show OGo p e below _ (T21.setTop (mkF m 106 #[.val (.ref a), .val (.ref i), .val (.int ((0 : Int32) ||| x)), .val (.ref i), .val (.int (1 : Int32)), .val (.int (1 : Int32)), .val (.int x)] []))
      have N21 := Fr.snoc X21 N18 ga
      have KK : Keep h0 h21 [a] := (((Keep.refl h0 [a]).wr W18 (Or.inl (List.mem_singleton.mpr rfl))).ext E19).wr W21 (Or.inl (List.mem_singleton.mpr rfl))
      have hsz := W18.size
      have Vc : Arv Z h21 b ki .int (1 : Int32) ([x].map .int) (.int (0 : Int32)) := Arv.other (show Arv Z h19 b ki .int (1 : Int32) [(.int x)] (.int (0 : Int32)) from Va19) W21 hab
      exact own_ret X21 hx hlk hret (hb hby d_ini1_106) (by decide) (by decide) (by rw [e21]; exact ⟨rfl, N21, KK, b, by omega, (E1.ext E19).wr W21, Or.inr ⟨(FS1.ext E19).other W21 (Or.inr (slot_ne (C := "com/example/fair_witness/fairwitness/model/State") (Or.inr (hw _ (List.mem_of_getElem? (i := 16) rfl))) (Or.inr (hw _ (List.mem_of_getElem? (i := 18) rfl))) (by decide) (t := (.array .byte)) (t' := (.array .int)) (by decide) (by decide))), (FV1.ext E19).same W21, Ea19.wr W21, ki, Vc⟩⟩)
theorem d_ini2_0 : decode prog_92_method_1_code 0 = .ok (.aload_n 0, 1) := by decide +kernel
theorem d_ini2_1 : decode prog_92_method_1_code 1 = .ok (.invokespecial 1, 3) := by decide +kernel
theorem d_ini2_4 : decode prog_92_method_1_code 4 = .ok (.iconst 0, 1) := by decide +kernel
theorem d_ini2_5 : decode prog_92_method_1_code 5 = .ok (.istore_n 2, 1) := by decide +kernel
theorem d_ini2_6 : decode prog_92_method_1_code 6 = .ok (.aload_n 1, 1) := by decide +kernel
theorem d_ini2_7 : decode prog_92_method_1_code 7 = .ok (.astore_n 3, 1) := by decide +kernel
theorem d_ini2_8 : decode prog_92_method_1_code 8 = .ok (.aload_n 3, 1) := by decide +kernel
theorem d_ini2_9 : decode prog_92_method_1_code 9 = .ok (.arraylength, 1) := by decide +kernel
theorem d_ini2_10 : decode prog_92_method_1_code 10 = .ok (.istore 4, 2) := by decide +kernel
theorem d_ini2_12 : decode prog_92_method_1_code 12 = .ok (.iconst 0, 1) := by decide +kernel
theorem d_ini2_13 : decode prog_92_method_1_code 13 = .ok (.istore 5, 2) := by decide +kernel
theorem d_ini2_15 : decode prog_92_method_1_code 15 = .ok (.iload 5, 2) := by decide +kernel
theorem d_ini2_17 : decode prog_92_method_1_code 17 = .ok (.iload 4, 2) := by decide +kernel
theorem d_ini2_19 : decode prog_92_method_1_code 19 = .ok (.if_icmp .ge 20, 3) := by decide +kernel
theorem d_ini2_22 : decode prog_92_method_1_code 22 = .ok (.aload_n 3, 1) := by decide +kernel
theorem d_ini2_23 : decode prog_92_method_1_code 23 = .ok (.iload 5, 2) := by decide +kernel
theorem d_ini2_25 : decode prog_92_method_1_code 25 = .ok (.iaload, 1) := by decide +kernel
theorem d_ini2_26 : decode prog_92_method_1_code 26 = .ok (.istore 6, 2) := by decide +kernel
theorem d_ini2_28 : decode prog_92_method_1_code 28 = .ok (.iload_n 2, 1) := by decide +kernel
theorem d_ini2_29 : decode prog_92_method_1_code 29 = .ok (.iload 6, 2) := by decide +kernel
theorem d_ini2_31 : decode prog_92_method_1_code 31 = .ok (.ior, 1) := by decide +kernel
theorem d_ini2_32 : decode prog_92_method_1_code 32 = .ok (.istore_n 2, 1) := by decide +kernel
theorem d_ini2_33 : decode prog_92_method_1_code 33 = .ok (.iinc 5 1, 3) := by decide +kernel
theorem d_ini2_36 : decode prog_92_method_1_code 36 = .ok (.goto (-21), 3) := by decide +kernel
theorem d_ini2_39 : decode prog_92_method_1_code 39 = .ok (.iload_n 2, 1) := by decide +kernel
theorem d_ini2_40 : decode prog_92_method_1_code 40 = .ok (.ifCond .lt 50, 3) := by decide +kernel
theorem d_ini2_90 : decode prog_92_method_1_code 90 = .ok (.aload_n 0, 1) := by decide +kernel
theorem d_ini2_91 : decode prog_92_method_1_code 91 = .ok (.aconst_null, 1) := by decide +kernel
theorem d_ini2_92 : decode prog_92_method_1_code 92 = .ok (.putfield 7, 3) := by decide +kernel
theorem d_ini2_95 : decode prog_92_method_1_code 95 = .ok (.aload_n 0, 1) := by decide +kernel
theorem d_ini2_96 : decode prog_92_method_1_code 96 = .ok (.aload_n 1, 1) := by decide +kernel
theorem d_ini2_97 : decode prog_92_method_1_code 97 = .ok (.invokevirtual 17, 3) := by decide +kernel
theorem d_ini2_100 : decode prog_92_method_1_code 100 = .ok (.checkcast 18, 3) := by decide +kernel
theorem d_ini2_103 : decode prog_92_method_1_code 103 = .ok (.putfield 13, 3) := by decide +kernel
theorem d_ini2_106 : decode prog_92_method_1_code 106 = .ok (.return_, 1) := by decide +kernel
theorem d_ini2_43 : decode prog_92_method_1_code 43 = .ok (.iload_n 2, 1) := by decide +kernel
theorem d_ini2_44 : decode prog_92_method_1_code 44 = .ok (.sipush 256, 3) := by decide +kernel
theorem d_ini2_47 : decode prog_92_method_1_code 47 = .ok (.if_icmp .ge 43, 3) := by decide +kernel
theorem d_ini2_50 : decode prog_92_method_1_code 50 = .ok (.aload_n 0, 1) := by decide +kernel
theorem d_ini2_51 : decode prog_92_method_1_code 51 = .ok (.aload_n 1, 1) := by decide +kernel
theorem d_ini2_52 : decode prog_92_method_1_code 52 = .ok (.arraylength, 1) := by decide +kernel
theorem d_ini2_53 : decode prog_92_method_1_code 53 = .ok (.newarray .byte, 2) := by decide +kernel
theorem d_ini2_55 : decode prog_92_method_1_code 55 = .ok (.putfield 7, 3) := by decide +kernel
theorem d_ini2_58 : decode prog_92_method_1_code 58 = .ok (.iconst 0, 1) := by decide +kernel
theorem d_ini2_59 : decode prog_92_method_1_code 59 = .ok (.istore_n 3, 1) := by decide +kernel
theorem d_ini2_60 : decode prog_92_method_1_code 60 = .ok (.iload_n 3, 1) := by decide +kernel
theorem d_ini2_61 : decode prog_92_method_1_code 61 = .ok (.aload_n 1, 1) := by decide +kernel
theorem d_ini2_62 : decode prog_92_method_1_code 62 = .ok (.arraylength, 1) := by decide +kernel
theorem d_ini2_63 : decode prog_92_method_1_code 63 = .ok (.if_icmp .ge 19, 3) := by decide +kernel
theorem d_ini2_66 : decode prog_92_method_1_code 66 = .ok (.aload_n 0, 1) := by decide +kernel
theorem d_ini2_67 : decode prog_92_method_1_code 67 = .ok (.getfield 7, 3) := by decide +kernel
theorem d_ini2_70 : decode prog_92_method_1_code 70 = .ok (.iload_n 3, 1) := by decide +kernel
theorem d_ini2_71 : decode prog_92_method_1_code 71 = .ok (.aload_n 1, 1) := by decide +kernel
theorem d_ini2_72 : decode prog_92_method_1_code 72 = .ok (.iload_n 3, 1) := by decide +kernel
theorem d_ini2_73 : decode prog_92_method_1_code 73 = .ok (.iaload, 1) := by decide +kernel
theorem d_ini2_74 : decode prog_92_method_1_code 74 = .ok (.i2b, 1) := by decide +kernel
theorem d_ini2_75 : decode prog_92_method_1_code 75 = .ok (.bastore, 1) := by decide +kernel
theorem d_ini2_76 : decode prog_92_method_1_code 76 = .ok (.iinc 3 1, 3) := by decide +kernel
theorem d_ini2_79 : decode prog_92_method_1_code 79 = .ok (.goto (-19), 3) := by decide +kernel
theorem d_ini2_82 : decode prog_92_method_1_code 82 = .ok (.aload_n 0, 1) := by decide +kernel
theorem d_ini2_83 : decode prog_92_method_1_code 83 = .ok (.aconst_null, 1) := by decide +kernel
theorem d_ini2_84 : decode prog_92_method_1_code 84 = .ok (.putfield 13, 3) := by decide +kernel
theorem d_ini2_87 : decode prog_92_method_1_code 87 = .ok (.goto 19, 3) := by decide +kernel
theorem ef_ini2 (m : MethodId) (x0 : Addr) (x1 : Addr) : entryFrame m #[(.ref x0), (.ref x1)] 7 = mkF m 0 #[.val (.ref x0), .val (.ref x1), .unset, .unset, .unset, .unset, .unset] [] := by first | (simp [entryFrame, mkF, argsToLocals, Value.category]; done) | rfl
def Q_ini2 (Z : State) (a i : Addr) (ki : ClassId) (x y z : Int32) (h0 : Heap) (n0 : Nat) (v : Option Value) (h : Heap) (L : List Loc) : Prop := v = none ∧ Fr n0 L ∧ Keep h0 h [a] ∧ ∃ b, h0.size ≤ b ∧ own_ST Z h a b (2 : Int32) [x, y]
set_option maxRecDepth 65536 in
set_option maxHeartbeats 40000000 in
theorem rm_ini2 (l : Launch) (Z : State) (a0 : Array Value) (hw : ∀ d ∈ tables_1, d.before a0 Z = true) (ws : List Jvm.Cond) (a i : Addr) (ki : ClassId) (x y z : Int32) (h0 : Heap) (n0 : Nat) (Z0 : n0 ≤ h0.size) (ga : n0 ≤ a) (E0 : Exa Z h0 a "com/example/fair_witness/fairwitness/model/State") (FS : Fld Z h0 a "com/example/fair_witness/fairwitness/model/State" "smallIndices" "[B" .null) (FV : Fld Z h0 a "com/example/fair_witness/fairwitness/model/State" "valueIndices" "[I" .null) (EI : Exa Z h0 i "[I") (V1 : Arv Z h0 i ki .int (2 : Int32) [(.int x), (.int y)] (.int (0 : Int32))) (hib : i ≠ a) :
    MetFree l (⟨"com/example/fair_witness/fairwitness/model/State", "<init>", "([I)V"⟩ : MethodName) (head1 (Jvm.Cond.code (⟨"com/example/fair_witness/fairwitness/model/State", "<init>", "([I)V"⟩ : MethodName) prog_92_method_1_code 7 none :: ws) ({ frames := 1, cells := 1, slots := 3, locals := 15 } : Room)) (fun a_ U => a_ = #[(.ref a), (.ref i)] ∧ Z.Warmed39 U.vm ∧ U.heap = h0) (fun _ _ _ _ _ => True) (fun _ U o U' => ∃ v L, o = .returned v ∧ Q_ini2 Z a i ki x y z h0 n0 v U'.heap L ∧ FrameEnd U o U' L ({ frames := 1, cells := 1, slots := 3, locals := 15 } : Room).cells ({ frames := 1, cells := 1, slots := 3, locals := 15 } : Room).slots) := by
  refine MetFree.of_bodySF (plainFor_of_name pn_com_example_fair_witness_fairwitness_model_State) hisR ?_
  intro p e s m args below meth c s₁ Bd hml0 hP hK
  obtain ⟨rfl, hZ, hh⟩ := hP
  have hx := Bd.exec
  have hby := Bd.bytes
  have hml : c.maxLocals = 7 := hml0
  have hown : s.vm.findClass "com/example/fair_witness/fairwitness/model/State" = some m.cls := findClass_of_methodNamed Bd.named
  have hnm := (name_of_methodNamed Bd.named Bd.method).1
  have X0 : Stand p l e ({ frames := 1, cells := 1, slots := 3, locals := 15 } : Room) s m #[(.ref a), (.ref i)] below meth c s₁ [] 0 0 := Stand.of_body Bd
  have e0 : s₁.heap = h0 := by rw [← hh, Bd.state]; rfl
  have N0 := Fr.nil n0
  have hlk := Bd.notSynchronized
  have hret := Bd.returns
  show OGo p e below (OEnd s (Q_ini2 Z a i ki x y z h0 n0) ({ frames := 1, cells := 1, slots := 3, locals := 15 } : Room).cells ({ frames := 1, cells := 1, slots := 3, locals := 15 } : Room).slots) (s₁.setTop (entryFrame m #[(.ref a), (.ref i)] 7))
  rw [ef_ini2]
  show OGo p e below _ (s₁.setTop (mkF m 0 #[.val (.ref a), .val (.ref i), .unset, .unset, .unset, .unset, .unset] []))
  refine OGo.by_ (fun t k => XS.aloadN X0.here hx rfl (hb hby d_ini2_0) rfl rfl k) ?_
  show OGo p e below _ (s₁.setTop (mkF m 1 #[.val (.ref a), .val (.ref i), .unset, .unset, .unset, .unset, .unset] [(.ref a)]))
  obtain ⟨T1, X1, e1, st1⟩ := initO X0 hx hZ hown (hw _ (List.mem_of_getElem? (i := 11) rfl)) (hw _ (List.mem_of_getElem? (i := 12) rfl)) (hw _ (List.mem_of_getElem? (i := 13) rfl)) e0 (g := (mkF m 1 #[.val (.ref a), .val (.ref i), .unset, .unset, .unset, .unset, .unset] [(.ref a)])) rfl (by rw [hml]; rfl) rfl (hb hby d_ini2_1) (by decide) (W := 0) (by show 2 * 0 + _ ≤ _; exact Nat.le_of_eq rfl) (by decide)
  refine OGo.by_ st1 ?_
  show OGo p e below _ (T1.setTop (mkF m 4 #[.val (.ref a), .val (.ref i), .unset, .unset, .unset, .unset, .unset] []))
  refine OGo.by_ (fun t k => XS.iconst X1.here hx rfl (hb hby d_ini2_4) k) ?_
  show OGo p e below _ (T1.setTop (mkF m 5 #[.val (.ref a), .val (.ref i), .unset, .unset, .unset, .unset, .unset] [(.int (0 : Int32))]))
  refine OGo.by_ (fun t k => XS.istoreN X1.here hx rfl (hb hby d_ini2_5) rfl (l' := #[.val (.ref a), .val (.ref i), .val (.int (0 : Int32)), .unset, .unset, .unset, .unset]) rfl k) ?_
  show OGo p e below _ (T1.setTop (mkF m 6 #[.val (.ref a), .val (.ref i), .val (.int (0 : Int32)), .unset, .unset, .unset, .unset] []))
  refine OGo.by_ (fun t k => XS.aloadN X1.here hx rfl (hb hby d_ini2_6) rfl rfl k) ?_
  show OGo p e below _ (T1.setTop (mkF m 7 #[.val (.ref a), .val (.ref i), .val (.int (0 : Int32)), .unset, .unset, .unset, .unset] [(.ref i)]))
  refine OGo.by_ (fun t k => XS.astoreN X1.here hx rfl (hb hby d_ini2_7) rfl rfl (l' := #[.val (.ref a), .val (.ref i), .val (.int (0 : Int32)), .val (.ref i), .unset, .unset, .unset]) rfl k) ?_
  show OGo p e below _ (T1.setTop (mkF m 8 #[.val (.ref a), .val (.ref i), .val (.int (0 : Int32)), .val (.ref i), .unset, .unset, .unset] []))
  refine OGo.by_ (fun t k => XS.aloadN X1.here hx rfl (hb hby d_ini2_8) rfl rfl k) ?_
  show OGo p e below _ (T1.setTop (mkF m 9 #[.val (.ref a), .val (.ref i), .val (.int (0 : Int32)), .val (.ref i), .unset, .unset, .unset] [(.ref i)]))
  obtain ⟨cl2, Ar2, q2, S2, Nn2, H2, G2⟩ := id V1
  refine OGo.by_ (X1.arraylength hx (by rw [e1]; exact Ar2.1) (State.isArrayOf_alike hZ.alike Ar2.2.1) (g := (mkF m 9 #[.val (.ref a), .val (.ref i), .val (.int (0 : Int32)), .val (.ref i), .unset, .unset, .unset] [(.ref i)])) rfl rfl (hb hby d_ini2_9)) ?_
  rw [len_of S2 Nn2]
  show OGo p e below _ (T1.setTop (mkF m 10 #[.val (.ref a), .val (.ref i), .val (.int (0 : Int32)), .val (.ref i), .unset, .unset, .unset] [(.int (2 : Int32))]))
  refine OGo.by_ (fun t k => XS.istore X1.here hx rfl (hb hby d_ini2_10) rfl (l' := #[.val (.ref a), .val (.ref i), .val (.int (0 : Int32)), .val (.ref i), .val (.int (2 : Int32)), .unset, .unset]) rfl k) ?_
  show OGo p e below _ (T1.setTop (mkF m 12 #[.val (.ref a), .val (.ref i), .val (.int (0 : Int32)), .val (.ref i), .val (.int (2 : Int32)), .unset, .unset] []))
  refine OGo.by_ (fun t k => XS.iconst X1.here hx rfl (hb hby d_ini2_12) k) ?_
  show OGo p e below _ (T1.setTop (mkF m 13 #[.val (.ref a), .val (.ref i), .val (.int (0 : Int32)), .val (.ref i), .val (.int (2 : Int32)), .unset, .unset] [(.int (0 : Int32))]))
  refine OGo.by_ (fun t k => XS.istore X1.here hx rfl (hb hby d_ini2_13) rfl (l' := #[.val (.ref a), .val (.ref i), .val (.int (0 : Int32)), .val (.ref i), .val (.int (2 : Int32)), .val (.int (0 : Int32)), .unset]) rfl k) ?_
  show OGo p e below _ (T1.setTop (mkF m 15 #[.val (.ref a), .val (.ref i), .val (.int (0 : Int32)), .val (.ref i), .val (.int (2 : Int32)), .val (.int (0 : Int32)), .unset] []))
  refine OGo.by_ (fun t k => XS.iload X1.here hx rfl (hb hby d_ini2_15) rfl k) ?_
  show OGo p e below _ (T1.setTop (mkF m 17 #[.val (.ref a), .val (.ref i), .val (.int (0 : Int32)), .val (.ref i), .val (.int (2 : Int32)), .val (.int (0 : Int32)), .unset] [(.int (0 : Int32))]))
  refine OGo.by_ (fun t k => XS.iload X1.here hx rfl (hb hby d_ini2_17) rfl k) ?_
  show OGo p e below _ (T1.setTop (mkF m 19 #[.val (.ref a), .val (.ref i), .val (.int (0 : Int32)), .val (.ref i), .val (.int (2 : Int32)), .val (.int (0 : Int32)), .unset] [(.int (2 : Int32)), (.int (0 : Int32))]))
  refine OGo.by_ (fun t k => XS.icmpNo X1.here hx rfl (hb hby d_ini2_19) rfl (tlt (by decide)).2.1 k) ?_
  show OGo p e below _ (T1.setTop (mkF m 22 #[.val (.ref a), .val (.ref i), .val (.int (0 : Int32)), .val (.ref i), .val (.int (2 : Int32)), .val (.int (0 : Int32)), .unset] []))
  refine OGo.by_ (fun t k => XS.aloadN X1.here hx rfl (hb hby d_ini2_22) rfl rfl k) ?_
  show OGo p e below _ (T1.setTop (mkF m 23 #[.val (.ref a), .val (.ref i), .val (.int (0 : Int32)), .val (.ref i), .val (.int (2 : Int32)), .val (.int (0 : Int32)), .unset] [(.ref i)]))
  refine OGo.by_ (fun t k => XS.iload X1.here hx rfl (hb hby d_ini2_23) rfl k) ?_
  show OGo p e below _ (T1.setTop (mkF m 25 #[.val (.ref a), .val (.ref i), .val (.int (0 : Int32)), .val (.ref i), .val (.int (2 : Int32)), .val (.int (0 : Int32)), .unset] [(.int (0 : Int32)), (.ref i)]))
  obtain ⟨cl3, Ar3, q3, S3, Nn3, H3, G3⟩ := id V1
  have in3 := inb_of S3 ⟨(by decide : ¬ (0 : Int32) < 0), (by decide : (0 : Int32) < (2 : Int32))⟩
  refine OGo.by_ (fun t kk => X1.iaload hx (j := (0 : Int32)) (v := (.int x)) (by rw [e1]; exact Ar3.1) (State.isArrayOf_alike hZ.alike Ar3.2.1) Ar3.2.2 in3 (H3.at in3 (rfl)) (g := (mkF m 25 #[.val (.ref a), .val (.ref i), .val (.int (0 : Int32)), .val (.ref i), .val (.int (2 : Int32)), .val (.int (0 : Int32)), .unset] [(.int (0 : Int32)), (.ref i)])) rfl rfl (hb hby d_ini2_25) _ kk) ?_
  show OGo p e below _ (T1.setTop (mkF m 26 #[.val (.ref a), .val (.ref i), .val (.int (0 : Int32)), .val (.ref i), .val (.int (2 : Int32)), .val (.int (0 : Int32)), .unset] [(.int x)]))
  refine OGo.by_ (fun t k => XS.istore X1.here hx rfl (hb hby d_ini2_26) rfl (l' := #[.val (.ref a), .val (.ref i), .val (.int (0 : Int32)), .val (.ref i), .val (.int (2 : Int32)), .val (.int (0 : Int32)), .val (.int x)]) rfl k) ?_
  show OGo p e below _ (T1.setTop (mkF m 28 #[.val (.ref a), .val (.ref i), .val (.int (0 : Int32)), .val (.ref i), .val (.int (2 : Int32)), .val (.int (0 : Int32)), .val (.int x)] []))
  refine OGo.by_ (fun t k => XS.iloadN X1.here hx rfl (hb hby d_ini2_28) rfl k) ?_
  show OGo p e below _ (T1.setTop (mkF m 29 #[.val (.ref a), .val (.ref i), .val (.int (0 : Int32)), .val (.ref i), .val (.int (2 : Int32)), .val (.int (0 : Int32)), .val (.int x)] [(.int (0 : Int32))]))
  refine OGo.by_ (fun t k => XS.iload X1.here hx rfl (hb hby d_ini2_29) rfl k) ?_
  show OGo p e below _ (T1.setTop (mkF m 31 #[.val (.ref a), .val (.ref i), .val (.int (0 : Int32)), .val (.ref i), .val (.int (2 : Int32)), .val (.int (0 : Int32)), .val (.int x)] [(.int x), (.int (0 : Int32))]))
  refine OGo.by_ (fun t k => XS.ior X1.here hx rfl (hb hby d_ini2_31) rfl k) ?_
  show OGo p e below _ (T1.setTop (mkF m 32 #[.val (.ref a), .val (.ref i), .val (.int (0 : Int32)), .val (.ref i), .val (.int (2 : Int32)), .val (.int (0 : Int32)), .val (.int x)] [(.int ((0 : Int32) ||| x))]))
  refine OGo.by_ (fun t k => XS.istoreN X1.here hx rfl (hb hby d_ini2_32) rfl (l' := #[.val (.ref a), .val (.ref i), .val (.int ((0 : Int32) ||| x)), .val (.ref i), .val (.int (2 : Int32)), .val (.int (0 : Int32)), .val (.int x)]) rfl k) ?_
  show OGo p e below _ (T1.setTop (mkF m 33 #[.val (.ref a), .val (.ref i), .val (.int ((0 : Int32) ||| x)), .val (.ref i), .val (.int (2 : Int32)), .val (.int (0 : Int32)), .val (.int x)] []))
  refine OGo.by_ (fun t k => XS.iinc X1.here hx rfl (hb hby d_ini2_33) rfl (l' := #[.val (.ref a), .val (.ref i), .val (.int ((0 : Int32) ||| x)), .val (.ref i), .val (.int (2 : Int32)), .val (.int (1 : Int32)), .val (.int x)]) rfl k) ?_
  show OGo p e below _ (T1.setTop (mkF m 36 #[.val (.ref a), .val (.ref i), .val (.int ((0 : Int32) ||| x)), .val (.ref i), .val (.int (2 : Int32)), .val (.int (1 : Int32)), .val (.int x)] []))
  refine OGo.by_ (fun t k => XS.goto X1.here hx rfl (pc0 := 36) (pc' := 15) rfl (hb hby d_ini2_36) (by decide) (by decide) k) ?_
  show OGo p e below _ (T1.setTop (mkF m 15 #[.val (.ref a), .val (.ref i), .val (.int ((0 : Int32) ||| x)), .val (.ref i), .val (.int (2 : Int32)), .val (.int (1 : Int32)), .val (.int x)] []))
  refine OGo.by_ (fun t k => XS.iload X1.here hx rfl (hb hby d_ini2_15) rfl k) ?_
  show OGo p e below _ (T1.setTop (mkF m 17 #[.val (.ref a), .val (.ref i), .val (.int ((0 : Int32) ||| x)), .val (.ref i), .val (.int (2 : Int32)), .val (.int (1 : Int32)), .val (.int x)] [(.int (1 : Int32))]))
  refine OGo.by_ (fun t k => XS.iload X1.here hx rfl (hb hby d_ini2_17) rfl k) ?_
  show OGo p e below _ (T1.setTop (mkF m 19 #[.val (.ref a), .val (.ref i), .val (.int ((0 : Int32) ||| x)), .val (.ref i), .val (.int (2 : Int32)), .val (.int (1 : Int32)), .val (.int x)] [(.int (2 : Int32)), (.int (1 : Int32))]))
  refine OGo.by_ (fun t k => XS.icmpNo X1.here hx rfl (hb hby d_ini2_19) rfl (tlt (by decide)).2.1 k) ?_
  show OGo p e below _ (T1.setTop (mkF m 22 #[.val (.ref a), .val (.ref i), .val (.int ((0 : Int32) ||| x)), .val (.ref i), .val (.int (2 : Int32)), .val (.int (1 : Int32)), .val (.int x)] []))
  refine OGo.by_ (fun t k => XS.aloadN X1.here hx rfl (hb hby d_ini2_22) rfl rfl k) ?_
  show OGo p e below _ (T1.setTop (mkF m 23 #[.val (.ref a), .val (.ref i), .val (.int ((0 : Int32) ||| x)), .val (.ref i), .val (.int (2 : Int32)), .val (.int (1 : Int32)), .val (.int x)] [(.ref i)]))
  refine OGo.by_ (fun t k => XS.iload X1.here hx rfl (hb hby d_ini2_23) rfl k) ?_
  show OGo p e below _ (T1.setTop (mkF m 25 #[.val (.ref a), .val (.ref i), .val (.int ((0 : Int32) ||| x)), .val (.ref i), .val (.int (2 : Int32)), .val (.int (1 : Int32)), .val (.int x)] [(.int (1 : Int32)), (.ref i)]))
  obtain ⟨cl4, Ar4, q4, S4, Nn4, H4, G4⟩ := id V1
  have in4 := inb_of S4 ⟨(by decide : ¬ (1 : Int32) < 0), (by decide : (1 : Int32) < (2 : Int32))⟩
  refine OGo.by_ (fun t kk => X1.iaload hx (j := (1 : Int32)) (v := (.int y)) (by rw [e1]; exact Ar4.1) (State.isArrayOf_alike hZ.alike Ar4.2.1) Ar4.2.2 in4 (H4.at in4 (rfl)) (g := (mkF m 25 #[.val (.ref a), .val (.ref i), .val (.int ((0 : Int32) ||| x)), .val (.ref i), .val (.int (2 : Int32)), .val (.int (1 : Int32)), .val (.int x)] [(.int (1 : Int32)), (.ref i)])) rfl rfl (hb hby d_ini2_25) _ kk) ?_
  show OGo p e below _ (T1.setTop (mkF m 26 #[.val (.ref a), .val (.ref i), .val (.int ((0 : Int32) ||| x)), .val (.ref i), .val (.int (2 : Int32)), .val (.int (1 : Int32)), .val (.int x)] [(.int y)]))
  refine OGo.by_ (fun t k => XS.istore X1.here hx rfl (hb hby d_ini2_26) rfl (l' := #[.val (.ref a), .val (.ref i), .val (.int ((0 : Int32) ||| x)), .val (.ref i), .val (.int (2 : Int32)), .val (.int (1 : Int32)), .val (.int y)]) rfl k) ?_
  show OGo p e below _ (T1.setTop (mkF m 28 #[.val (.ref a), .val (.ref i), .val (.int ((0 : Int32) ||| x)), .val (.ref i), .val (.int (2 : Int32)), .val (.int (1 : Int32)), .val (.int y)] []))
  refine OGo.by_ (fun t k => XS.iloadN X1.here hx rfl (hb hby d_ini2_28) rfl k) ?_
  show OGo p e below _ (T1.setTop (mkF m 29 #[.val (.ref a), .val (.ref i), .val (.int ((0 : Int32) ||| x)), .val (.ref i), .val (.int (2 : Int32)), .val (.int (1 : Int32)), .val (.int y)] [(.int ((0 : Int32) ||| x))]))
  refine OGo.by_ (fun t k => XS.iload X1.here hx rfl (hb hby d_ini2_29) rfl k) ?_
  show OGo p e below _ (T1.setTop (mkF m 31 #[.val (.ref a), .val (.ref i), .val (.int ((0 : Int32) ||| x)), .val (.ref i), .val (.int (2 : Int32)), .val (.int (1 : Int32)), .val (.int y)] [(.int y), (.int ((0 : Int32) ||| x))]))
  refine OGo.by_ (fun t k => XS.ior X1.here hx rfl (hb hby d_ini2_31) rfl k) ?_
  show OGo p e below _ (T1.setTop (mkF m 32 #[.val (.ref a), .val (.ref i), .val (.int ((0 : Int32) ||| x)), .val (.ref i), .val (.int (2 : Int32)), .val (.int (1 : Int32)), .val (.int y)] [(.int (((0 : Int32) ||| x) ||| y))]))
  refine OGo.by_ (fun t k => XS.istoreN X1.here hx rfl (hb hby d_ini2_32) rfl (l' := #[.val (.ref a), .val (.ref i), .val (.int (((0 : Int32) ||| x) ||| y)), .val (.ref i), .val (.int (2 : Int32)), .val (.int (1 : Int32)), .val (.int y)]) rfl k) ?_
  show OGo p e below _ (T1.setTop (mkF m 33 #[.val (.ref a), .val (.ref i), .val (.int (((0 : Int32) ||| x) ||| y)), .val (.ref i), .val (.int (2 : Int32)), .val (.int (1 : Int32)), .val (.int y)] []))
  refine OGo.by_ (fun t k => XS.iinc X1.here hx rfl (hb hby d_ini2_33) rfl (l' := #[.val (.ref a), .val (.ref i), .val (.int (((0 : Int32) ||| x) ||| y)), .val (.ref i), .val (.int (2 : Int32)), .val (.int (2 : Int32)), .val (.int y)]) rfl k) ?_
  show OGo p e below _ (T1.setTop (mkF m 36 #[.val (.ref a), .val (.ref i), .val (.int (((0 : Int32) ||| x) ||| y)), .val (.ref i), .val (.int (2 : Int32)), .val (.int (2 : Int32)), .val (.int y)] []))
  refine OGo.by_ (fun t k => XS.goto X1.here hx rfl (pc0 := 36) (pc' := 15) rfl (hb hby d_ini2_36) (by decide) (by decide) k) ?_
  show OGo p e below _ (T1.setTop (mkF m 15 #[.val (.ref a), .val (.ref i), .val (.int (((0 : Int32) ||| x) ||| y)), .val (.ref i), .val (.int (2 : Int32)), .val (.int (2 : Int32)), .val (.int y)] []))
  refine OGo.by_ (fun t k => XS.iload X1.here hx rfl (hb hby d_ini2_15) rfl k) ?_
  show OGo p e below _ (T1.setTop (mkF m 17 #[.val (.ref a), .val (.ref i), .val (.int (((0 : Int32) ||| x) ||| y)), .val (.ref i), .val (.int (2 : Int32)), .val (.int (2 : Int32)), .val (.int y)] [(.int (2 : Int32))]))
  refine OGo.by_ (fun t k => XS.iload X1.here hx rfl (hb hby d_ini2_17) rfl k) ?_
  show OGo p e below _ (T1.setTop (mkF m 19 #[.val (.ref a), .val (.ref i), .val (.int (((0 : Int32) ||| x) ||| y)), .val (.ref i), .val (.int (2 : Int32)), .val (.int (2 : Int32)), .val (.int y)] [(.int (2 : Int32)), (.int (2 : Int32))]))
  refine OGo.by_ (fun t k => XS.icmpYes X1.here hx rfl (pc0 := 19) (pc' := 39) rfl (hb hby d_ini2_19) rfl (flt (by decide)).2.1 (by decide) (by decide) k) ?_
  show OGo p e below _ (T1.setTop (mkF m 39 #[.val (.ref a), .val (.ref i), .val (.int (((0 : Int32) ||| x) ||| y)), .val (.ref i), .val (.int (2 : Int32)), .val (.int (2 : Int32)), .val (.int y)] []))
  refine OGo.by_ (fun t k => XS.iloadN X1.here hx rfl (hb hby d_ini2_39) rfl k) ?_
  show OGo p e below _ (T1.setTop (mkF m 40 #[.val (.ref a), .val (.ref i), .val (.int (((0 : Int32) ||| x) ||| y)), .val (.ref i), .val (.int (2 : Int32)), .val (.int (2 : Int32)), .val (.int y)] [(.int (((0 : Int32) ||| x) ||| y))]))
  by_cases hc40 : (((0 : Int32) ||| x) ||| y) < (0 : Int32)
  · refine OGo.by_ (fun t k => XS.ifYes X1.here hx rfl (pc0 := 40) (pc' := 90) rfl (hb hby d_ini2_40) rfl ((if0 _ _).trans (tlt hc40).1) (by decide) (by decide) k) ?_
    show OGo p e below _ (T1.setTop (mkF m 90 #[.val (.ref a), .val (.ref i), .val (.int (((0 : Int32) ||| x) ||| y)), .val (.ref i), .val (.int (2 : Int32)), .val (.int (2 : Int32)), .val (.int y)] []))
    refine OGo.by_ (fun t k => XS.aloadN X1.here hx rfl (hb hby d_ini2_90) rfl rfl k) ?_
    show OGo p e below _ (T1.setTop (mkF m 91 #[.val (.ref a), .val (.ref i), .val (.int (((0 : Int32) ||| x) ||| y)), .val (.ref i), .val (.int (2 : Int32)), .val (.int (2 : Int32)), .val (.int y)] [(.ref a)]))
    refine OGo.by_ (fun t k => XS.aconstNull X1.here hx rfl (hb hby d_ini2_91) k) ?_
    show OGo p e below _ (T1.setTop (mkF m 92 #[.val (.ref a), .val (.ref i), .val (.int (((0 : Int32) ||| x) ||| y)), .val (.ref i), .val (.int (2 : Int32)), .val (.int (2 : Int32)), .val (.int y)] [.null, (.ref a)]))
    obtain ⟨T5, h5, X5, e5, W5, st5⟩ := putF X1 hx hZ hown (host := "") (Or.inl (hw _ (List.mem_of_getElem? (i := 15) rfl))) Via.refl e1 FS E0 (Or.inr ⟨(hw _ (List.mem_of_getElem? (i := 16) rfl)), rfl, hnm⟩) (hw _ (List.mem_of_getElem? (i := 6) rfl)) (ty := (.array .byte)) (by decide) rfl rfl (g := (mkF m 92 #[.val (.ref a), .val (.ref i), .val (.int (((0 : Int32) ||| x) ||| y)), .val (.ref i), .val (.int (2 : Int32)), .val (.int (2 : Int32)), .val (.int y)] [.null, (.ref a)])) rfl rfl (hb hby d_ini2_92)
    refine OGo.by_ st5 ?_
    show OGo p e below _ (T5.setTop (mkF m 95 #[.val (.ref a), .val (.ref i), .val (.int (((0 : Int32) ||| x) ||| y)), .val (.ref i), .val (.int (2 : Int32)), .val (.int (2 : Int32)), .val (.int y)] []))
    have N5 := Fr.snoc X5 N0 ga
    have E1 := E0.wr W5
    have FS1 := FS.same W5
    have FV1 := FV.other W5 (Or.inr (slot_ne (C := "com/example/fair_witness/fairwitness/model/State") (Or.inr (hw _ (List.mem_of_getElem? (i := 18) rfl))) (Or.inr (hw _ (List.mem_of_getElem? (i := 16) rfl))) (by decide) (t := (.array .int)) (t' := (.array .byte)) (by decide) (by decide)))
    have V1b := V1.other W5 hib
    have X1b := EI.wr W5
    refine OGo.by_ (fun t k => XS.aloadN X5.here hx rfl (hb hby d_ini2_95) rfl rfl k) ?_
    show OGo p e below _ (T5.setTop (mkF m 96 #[.val (.ref a), .val (.ref i), .val (.int (((0 : Int32) ||| x) ||| y)), .val (.ref i), .val (.int (2 : Int32)), .val (.int (2 : Int32)), .val (.int y)] [(.ref a)]))
    refine OGo.by_ (fun t k => XS.aloadN X5.here hx rfl (hb hby d_ini2_96) rfl rfl k) ?_
    show OGo p e below _ (T5.setTop (mkF m 97 #[.val (.ref a), .val (.ref i), .val (.int (((0 : Int32) ||| x) ||| y)), .val (.ref i), .val (.int (2 : Int32)), .val (.int (2 : Int32)), .val (.int y)] [(.ref i), (.ref a)]))
    obtain ⟨T6, h6, X6, e6, E6, Va6, Ea6, st6⟩ := cloneH X5 hx hZ hown (hw _ (List.mem_of_getElem? (i := 27) rfl)) (hw _ (List.mem_of_getElem? (i := 28) rfl)) (hw _ (List.mem_of_getElem? (i := 32) rfl)) (hw _ (List.mem_of_getElem? (i := 30) rfl)) (hw _ (List.mem_of_getElem? (i := 31) rfl)) (hw _ (List.mem_of_getElem? (i := 33) rfl)) e5 (Arv.arh V1b) X1b (g := (mkF m 97 #[.val (.ref a), .val (.ref i), .val (.int (((0 : Int32) ||| x) ||| y)), .val (.ref i), .val (.int (2 : Int32)), .val (.int (2 : Int32)), .val (.int y)] [(.ref i), (.ref a)])) rfl (by rw [hml]; rfl) rfl (hb hby d_ini2_97) (by decide) (W := 1) (by show 2 * 0 + _ ≤ _; exact Nat.le_of_eq rfl) (by decide) (cap := 3) (by decide) (by decide) (by decide)
    obtain ⟨b, g_b⟩ : ∃ z, z = h5.size := ⟨_, rfl⟩
    rw [← g_b] at Va6 Ea6 st6
    refine OGo.by_ st6 ?_
    show OGo p e below _ (T6.setTop (mkF m 100 #[.val (.ref a), .val (.ref i), .val (.int (((0 : Int32) ||| x) ||| y)), .val (.ref i), .val (.int (2 : Int32)), .val (.int (2 : Int32)), .val (.int y)] [(.ref b), (.ref a)]))
    obtain ⟨T7, X7, e7, st7⟩ := castY X6 hx hZ hown (hw _ (List.mem_of_getElem? (i := 34) rfl)) e6 (Ins.self Ea6) (g := (mkF m 100 #[.val (.ref a), .val (.ref i), .val (.int (((0 : Int32) ||| x) ||| y)), .val (.ref i), .val (.int (2 : Int32)), .val (.int (2 : Int32)), .val (.int y)] [(.ref b), (.ref a)])) rfl rfl (hb hby d_ini2_100)
    refine OGo.by_ st7 ?_
    show OGo p e below _ (T7.setTop (mkF m 103 #[.val (.ref a), .val (.ref i), .val (.int (((0 : Int32) ||| x) ||| y)), .val (.ref i), .val (.int (2 : Int32)), .val (.int (2 : Int32)), .val (.int y)] [(.ref b), (.ref a)]))
    have lta : h5.size > a := E1.lt
    have hab : b ≠ a := own_ne' (by omega)
    obtain ⟨T8, h8, X8, e8, W8, st8⟩ := putF X7 hx hZ hown (host := "") (Or.inl (hw _ (List.mem_of_getElem? (i := 17) rfl))) Via.refl e7 (FV1.ext E6) (E1.ext E6) (Or.inr ⟨(hw _ (List.mem_of_getElem? (i := 18) rfl)), rfl, hnm⟩) (hw _ (List.mem_of_getElem? (i := 6) rfl)) (ty := (.array .int)) (by decide) rfl rfl (g := (mkF m 103 #[.val (.ref a), .val (.ref i), .val (.int (((0 : Int32) ||| x) ||| y)), .val (.ref i), .val (.int (2 : Int32)), .val (.int (2 : Int32)), .val (.int y)] [(.ref b), (.ref a)])) rfl rfl (hb hby d_ini2_103)
    refine OGo.by_ st8 ?_
    show OGo p e below _ (T8.setTop (mkF m 106 #[.val (.ref a), .val (.ref i), .val (.int (((0 : Int32) ||| x) ||| y)), .val (.ref i), .val (.int (2 : Int32)), .val (.int (2 : Int32)), .val (.int y)] []))
    have N8 := Fr.snoc X8 N5 ga
    have KK : Keep h0 h8 [a] := (((Keep.refl h0 [a]).wr W5 (Or.inl (List.mem_singleton.mpr rfl))).ext E6).wr W8 (Or.inl (List.mem_singleton.mpr rfl))
    have hsz := W5.size
    have Vc : Arv Z h8 b ki .int (2 : Int32) ([x, y].map .int) (.int (0 : Int32)) := Arv.other (show Arv Z h6 b ki .int (2 : Int32) [(.int x), (.int y)] (.int (0 : Int32)) from Va6) W8 hab
    exact own_ret X8 hx hlk hret (hb hby d_ini2_106) (by decide) (by decide) (by rw [e8]; exact ⟨rfl, N8, KK, b, by omega, (E1.ext E6).wr W8, Or.inr ⟨(FS1.ext E6).other W8 (Or.inr (slot_ne (C := "com/example/fair_witness/fairwitness/model/State") (Or.inr (hw _ (List.mem_of_getElem? (i := 16) rfl))) (Or.inr (hw _ (List.mem_of_getElem? (i := 18) rfl))) (by decide) (t := (.array .byte)) (t' := (.array .int)) (by decide) (by decide))), (FV1.ext E6).same W8, Ea6.wr W8, ki, Vc⟩⟩)
  · refine OGo.by_ (fun t k => XS.ifNo X1.here hx rfl (hb hby d_ini2_40) rfl ((if0 _ _).trans (flt hc40).1) k) ?_
    show OGo p e below _ (T1.setTop (mkF m 43 #[.val (.ref a), .val (.ref i), .val (.int (((0 : Int32) ||| x) ||| y)), .val (.ref i), .val (.int (2 : Int32)), .val (.int (2 : Int32)), .val (.int y)] []))
    refine OGo.by_ (fun t k => XS.iloadN X1.here hx rfl (hb hby d_ini2_43) rfl k) ?_
    show OGo p e below _ (T1.setTop (mkF m 44 #[.val (.ref a), .val (.ref i), .val (.int (((0 : Int32) ||| x) ||| y)), .val (.ref i), .val (.int (2 : Int32)), .val (.int (2 : Int32)), .val (.int y)] [(.int (((0 : Int32) ||| x) ||| y))]))
    refine OGo.by_ (fun t k => XS.sipush X1.here hx rfl (hb hby d_ini2_44) k) ?_
    show OGo p e below _ (T1.setTop (mkF m 47 #[.val (.ref a), .val (.ref i), .val (.int (((0 : Int32) ||| x) ||| y)), .val (.ref i), .val (.int (2 : Int32)), .val (.int (2 : Int32)), .val (.int y)] [(.int (256 : Int32)), (.int (((0 : Int32) ||| x) ||| y))]))
    by_cases hc47 : (((0 : Int32) ||| x) ||| y) < (256 : Int32)
    · refine OGo.by_ (fun t k => XS.icmpNo X1.here hx rfl (hb hby d_ini2_47) rfl (tlt hc47).2.1 k) ?_
      show OGo p e below _ (T1.setTop (mkF m 50 #[.val (.ref a), .val (.ref i), .val (.int (((0 : Int32) ||| x) ||| y)), .val (.ref i), .val (.int (2 : Int32)), .val (.int (2 : Int32)), .val (.int y)] []))
      refine OGo.by_ (fun t k => XS.aloadN X1.here hx rfl (hb hby d_ini2_50) rfl rfl k) ?_
      show OGo p e below _ (T1.setTop (mkF m 51 #[.val (.ref a), .val (.ref i), .val (.int (((0 : Int32) ||| x) ||| y)), .val (.ref i), .val (.int (2 : Int32)), .val (.int (2 : Int32)), .val (.int y)] [(.ref a)]))
      refine OGo.by_ (fun t k => XS.aloadN X1.here hx rfl (hb hby d_ini2_51) rfl rfl k) ?_
      show OGo p e below _ (T1.setTop (mkF m 52 #[.val (.ref a), .val (.ref i), .val (.int (((0 : Int32) ||| x) ||| y)), .val (.ref i), .val (.int (2 : Int32)), .val (.int (2 : Int32)), .val (.int y)] [(.ref i), (.ref a)]))
      obtain ⟨cl9, Ar9, q9, S9, Nn9, H9, G9⟩ := id V1
      refine OGo.by_ (X1.arraylength hx (by rw [e1]; exact Ar9.1) (State.isArrayOf_alike hZ.alike Ar9.2.1) (g := (mkF m 52 #[.val (.ref a), .val (.ref i), .val (.int (((0 : Int32) ||| x) ||| y)), .val (.ref i), .val (.int (2 : Int32)), .val (.int (2 : Int32)), .val (.int y)] [(.ref i), (.ref a)])) rfl rfl (hb hby d_ini2_52)) ?_
      rw [len_of S9 Nn9]
      show OGo p e below _ (T1.setTop (mkF m 53 #[.val (.ref a), .val (.ref i), .val (.int (((0 : Int32) ||| x) ||| y)), .val (.ref i), .val (.int (2 : Int32)), .val (.int (2 : Int32)), .val (.int y)] [(.int (2 : Int32)), (.ref a)]))
      obtain ⟨T10, h10, k10, X10, e10, E10, A10, st10⟩ := newP X1 hx hZ (hw _ (List.mem_of_getElem? (i := 14) rfl)) e1 (g := (mkF m 53 #[.val (.ref a), .val (.ref i), .val (.int (((0 : Int32) ||| x) ||| y)), .val (.ref i), .val (.int (2 : Int32)), .val (.int (2 : Int32)), .val (.int y)] [(.int (2 : Int32)), (.ref a)])) rfl (hb hby d_ini2_53) rfl (by decide) (cap := 3) (by decide) (by decide) (by decide) (by decide)
      obtain ⟨b, g_b⟩ : ∃ z, z = h0.size := ⟨_, rfl⟩
      rw [← g_b] at A10 st10
      have V_b := Arv.new A10 (by decide)
      have lt_b := own_lt V_b.lt
      refine OGo.by_ st10 ?_
      show OGo p e below _ (T10.setTop (mkF m 55 #[.val (.ref a), .val (.ref i), .val (.int (((0 : Int32) ||| x) ||| y)), .val (.ref i), .val (.int (2 : Int32)), .val (.int (2 : Int32)), .val (.int y)] [(.ref b), (.ref a)]))
      have lta : h0.size > a := E0.lt
      have lti : h0.size > i := V1.lt
      have hab : a ≠ b := own_ne (by omega)
      have hibb : i ≠ b := own_ne (by omega)
      have gb : n0 ≤ b := by omega
      obtain ⟨T11, h11, X11, e11, W11, st11⟩ := putF X10 hx hZ hown (host := "") (Or.inl (hw _ (List.mem_of_getElem? (i := 15) rfl))) Via.refl e10 (FS.ext E10) (E0.ext E10) (Or.inr ⟨(hw _ (List.mem_of_getElem? (i := 16) rfl)), rfl, hnm⟩) (hw _ (List.mem_of_getElem? (i := 6) rfl)) (ty := (.array .byte)) (by decide) rfl rfl (g := (mkF m 55 #[.val (.ref a), .val (.ref i), .val (.int (((0 : Int32) ||| x) ||| y)), .val (.ref i), .val (.int (2 : Int32)), .val (.int (2 : Int32)), .val (.int y)] [(.ref b), (.ref a)])) rfl rfl (hb hby d_ini2_55)
      refine OGo.by_ st11 ?_
      show OGo p e below _ (T11.setTop (mkF m 58 #[.val (.ref a), .val (.ref i), .val (.int (((0 : Int32) ||| x) ||| y)), .val (.ref i), .val (.int (2 : Int32)), .val (.int (2 : Int32)), .val (.int y)] []))
      have N11 := Fr.snoc X11 N0 ga
      have E1 := (E0.ext E10).wr W11
      have FS1 := (FS.ext E10).same W11
      have FV1 := (FV.ext E10).other W11 (Or.inr (slot_ne (C := "com/example/fair_witness/fairwitness/model/State") (Or.inr (hw _ (List.mem_of_getElem? (i := 18) rfl))) (Or.inr (hw _ (List.mem_of_getElem? (i := 16) rfl))) (by decide) (t := (.array .int)) (t' := (.array .byte)) (by decide) (by decide)))
      have U0 := V_b.other W11 hab.symm
      have I0 := (V1.ext E10).other W11 hib
      have K0_ : Keep h0 h11 [a] := ((Keep.refl h0 [a]).ext E10).wr W11 (Or.inl (List.mem_singleton.mpr rfl))
      have U0' : Arv Z h11 b k10 .byte (2 : Int32) [(.int (0 : Int32)), (.int (0 : Int32))] (.int (0 : Int32)) := U0.pad (pad_rep [] _ 2)
      refine OGo.by_ (fun t k => XS.iconst X11.here hx rfl (hb hby d_ini2_58) k) ?_
      show OGo p e below _ (T11.setTop (mkF m 59 #[.val (.ref a), .val (.ref i), .val (.int (((0 : Int32) ||| x) ||| y)), .val (.ref i), .val (.int (2 : Int32)), .val (.int (2 : Int32)), .val (.int y)] [(.int (0 : Int32))]))
      refine OGo.by_ (fun t k => XS.istoreN X11.here hx rfl (hb hby d_ini2_59) rfl (l' := #[.val (.ref a), .val (.ref i), .val (.int (((0 : Int32) ||| x) ||| y)), .val (.int (0 : Int32)), .val (.int (2 : Int32)), .val (.int (2 : Int32)), .val (.int y)]) rfl k) ?_
      show OGo p e below _ (T11.setTop (mkF m 60 #[.val (.ref a), .val (.ref i), .val (.int (((0 : Int32) ||| x) ||| y)), .val (.int (0 : Int32)), .val (.int (2 : Int32)), .val (.int (2 : Int32)), .val (.int y)] []))
      refine OGo.by_ (fun t k => XS.iloadN X11.here hx rfl (hb hby d_ini2_60) rfl k) ?_
      show OGo p e below _ (T11.setTop (mkF m 61 #[.val (.ref a), .val (.ref i), .val (.int (((0 : Int32) ||| x) ||| y)), .val (.int (0 : Int32)), .val (.int (2 : Int32)), .val (.int (2 : Int32)), .val (.int y)] [(.int (0 : Int32))]))
      refine OGo.by_ (fun t k => XS.aloadN X11.here hx rfl (hb hby d_ini2_61) rfl rfl k) ?_
      show OGo p e below _ (T11.setTop (mkF m 62 #[.val (.ref a), .val (.ref i), .val (.int (((0 : Int32) ||| x) ||| y)), .val (.int (0 : Int32)), .val (.int (2 : Int32)), .val (.int (2 : Int32)), .val (.int y)] [(.ref i), (.int (0 : Int32))]))
      obtain ⟨cl12, Ar12, q12, S12, Nn12, H12, G12⟩ := id I0
      refine OGo.by_ (X11.arraylength hx (by rw [e11]; exact Ar12.1) (State.isArrayOf_alike hZ.alike Ar12.2.1) (g := (mkF m 62 #[.val (.ref a), .val (.ref i), .val (.int (((0 : Int32) ||| x) ||| y)), .val (.int (0 : Int32)), .val (.int (2 : Int32)), .val (.int (2 : Int32)), .val (.int y)] [(.ref i), (.int (0 : Int32))])) rfl rfl (hb hby d_ini2_62)) ?_
      rw [len_of S12 Nn12]
      show OGo p e below _ (T11.setTop (mkF m 63 #[.val (.ref a), .val (.ref i), .val (.int (((0 : Int32) ||| x) ||| y)), .val (.int (0 : Int32)), .val (.int (2 : Int32)), .val (.int (2 : Int32)), .val (.int y)] [(.int (2 : Int32)), (.int (0 : Int32))]))
      refine OGo.by_ (fun t k => XS.icmpNo X11.here hx rfl (hb hby d_ini2_63) rfl (tlt (by decide)).2.1 k) ?_
      show OGo p e below _ (T11.setTop (mkF m 66 #[.val (.ref a), .val (.ref i), .val (.int (((0 : Int32) ||| x) ||| y)), .val (.int (0 : Int32)), .val (.int (2 : Int32)), .val (.int (2 : Int32)), .val (.int y)] []))
      refine OGo.by_ (fun t k => XS.aloadN X11.here hx rfl (hb hby d_ini2_66) rfl rfl k) ?_
      show OGo p e below _ (T11.setTop (mkF m 67 #[.val (.ref a), .val (.ref i), .val (.int (((0 : Int32) ||| x) ||| y)), .val (.int (0 : Int32)), .val (.int (2 : Int32)), .val (.int (2 : Int32)), .val (.int y)] [(.ref a)]))
      obtain ⟨T13, X13, e13, st13⟩ := getF X11 hx hZ hown (host := "") (Or.inl (hw _ (List.mem_of_getElem? (i := 15) rfl))) Via.refl e11 FS1 (g := (mkF m 67 #[.val (.ref a), .val (.ref i), .val (.int (((0 : Int32) ||| x) ||| y)), .val (.int (0 : Int32)), .val (.int (2 : Int32)), .val (.int (2 : Int32)), .val (.int y)] [(.ref a)])) rfl rfl (hb hby d_ini2_67)
      refine OGo.by_ st13 ?_
      show OGo p e below _ (T13.setTop (mkF m 70 #[.val (.ref a), .val (.ref i), .val (.int (((0 : Int32) ||| x) ||| y)), .val (.int (0 : Int32)), .val (.int (2 : Int32)), .val (.int (2 : Int32)), .val (.int y)] [(.ref b)]))
      refine OGo.by_ (fun t k => XS.iloadN X13.here hx rfl (hb hby d_ini2_70) rfl k) ?_
      show OGo p e below _ (T13.setTop (mkF m 71 #[.val (.ref a), .val (.ref i), .val (.int (((0 : Int32) ||| x) ||| y)), .val (.int (0 : Int32)), .val (.int (2 : Int32)), .val (.int (2 : Int32)), .val (.int y)] [(.int (0 : Int32)), (.ref b)]))
      refine OGo.by_ (fun t k => XS.aloadN X13.here hx rfl (hb hby d_ini2_71) rfl rfl k) ?_
      show OGo p e below _ (T13.setTop (mkF m 72 #[.val (.ref a), .val (.ref i), .val (.int (((0 : Int32) ||| x) ||| y)), .val (.int (0 : Int32)), .val (.int (2 : Int32)), .val (.int (2 : Int32)), .val (.int y)] [(.ref i), (.int (0 : Int32)), (.ref b)]))
      refine OGo.by_ (fun t k => XS.iloadN X13.here hx rfl (hb hby d_ini2_72) rfl k) ?_
      show OGo p e below _ (T13.setTop (mkF m 73 #[.val (.ref a), .val (.ref i), .val (.int (((0 : Int32) ||| x) ||| y)), .val (.int (0 : Int32)), .val (.int (2 : Int32)), .val (.int (2 : Int32)), .val (.int y)] [(.int (0 : Int32)), (.ref i), (.int (0 : Int32)), (.ref b)]))
      obtain ⟨cl14, Ar14, q14, S14, Nn14, H14, G14⟩ := id I0
      have in14 := inb_of S14 ⟨(by decide : ¬ (0 : Int32) < 0), (by decide : (0 : Int32) < (2 : Int32))⟩
      refine OGo.by_ (fun t kk => X13.iaload hx (j := (0 : Int32)) (v := (.int x)) (by rw [e13]; exact Ar14.1) (State.isArrayOf_alike hZ.alike Ar14.2.1) Ar14.2.2 in14 (H14.at in14 (rfl)) (g := (mkF m 73 #[.val (.ref a), .val (.ref i), .val (.int (((0 : Int32) ||| x) ||| y)), .val (.int (0 : Int32)), .val (.int (2 : Int32)), .val (.int (2 : Int32)), .val (.int y)] [(.int (0 : Int32)), (.ref i), (.int (0 : Int32)), (.ref b)])) rfl rfl (hb hby d_ini2_73) _ kk) ?_
      show OGo p e below _ (T13.setTop (mkF m 74 #[.val (.ref a), .val (.ref i), .val (.int (((0 : Int32) ||| x) ||| y)), .val (.int (0 : Int32)), .val (.int (2 : Int32)), .val (.int (2 : Int32)), .val (.int y)] [(.int x), (.int (0 : Int32)), (.ref b)]))
      refine OGo.by_ (fun t k => XS.i2b X13.here hx rfl (hb hby d_ini2_74) rfl k) ?_
      show OGo p e below _ (T13.setTop (mkF m 75 #[.val (.ref a), .val (.ref i), .val (.int (((0 : Int32) ||| x) ||| y)), .val (.int (0 : Int32)), .val (.int (2 : Int32)), .val (.int (2 : Int32)), .val (.int y)] [(.int (x.toInt8.toInt32)), (.int (0 : Int32)), (.ref b)]))
      obtain ⟨cl15, Ar15, q15, S15, Nn15, H15, G15⟩ := id U0'
      obtain ⟨T16, h16, X16, e16, W16, st16⟩ := stB X13 hx hZ e13 Ar15 (j := (0 : Int32)) (inb_of S15 ⟨(by decide : ¬ (0 : Int32) < 0), (by decide : (0 : Int32) < (2 : Int32))⟩) (g := (mkF m 75 #[.val (.ref a), .val (.ref i), .val (.int (((0 : Int32) ||| x) ||| y)), .val (.int (0 : Int32)), .val (.int (2 : Int32)), .val (.int (2 : Int32)), .val (.int y)] [(.int (x.toInt8.toInt32)), (.int (0 : Int32)), (.ref b)])) rfl rfl (hb hby d_ini2_75)
      refine OGo.by_ st16 ?_
      show OGo p e below _ (T16.setTop (mkF m 76 #[.val (.ref a), .val (.ref i), .val (.int (((0 : Int32) ||| x) ||| y)), .val (.int (0 : Int32)), .val (.int (2 : Int32)), .val (.int (2 : Int32)), .val (.int y)] []))
      have N16 := Fr.snoc X16 N11 gb
      rw [own_nb8] at W16
      have U1 := Arv.set Ar15 q15 S15 Nn15 H15 G15 (fits_nar_byte _) W16 0 (by decide) (Nat.le_of_ble_eq_true rfl)
      have E0_ := E1.wr W16
      have FS0_ := FS1.other W16 (Or.inl hab)
      have FV0_ := FV1.other W16 (Or.inl hab)
      have I0_ := I0.other W16 hibb
      have K0_' := Keep.wr K0_ W16 (Or.inr (Nat.le_of_eq g_b.symm))
      refine OGo.by_ (fun t k => XS.iinc X16.here hx rfl (hb hby d_ini2_76) rfl (l' := #[.val (.ref a), .val (.ref i), .val (.int (((0 : Int32) ||| x) ||| y)), .val (.int (1 : Int32)), .val (.int (2 : Int32)), .val (.int (2 : Int32)), .val (.int y)]) rfl k) ?_
      show OGo p e below _ (T16.setTop (mkF m 79 #[.val (.ref a), .val (.ref i), .val (.int (((0 : Int32) ||| x) ||| y)), .val (.int (1 : Int32)), .val (.int (2 : Int32)), .val (.int (2 : Int32)), .val (.int y)] []))
      refine OGo.by_ (fun t k => XS.goto X16.here hx rfl (pc0 := 79) (pc' := 60) rfl (hb hby d_ini2_79) (by decide) (by decide) k) ?_
      show OGo p e below _ (T16.setTop (mkF m 60 #[.val (.ref a), .val (.ref i), .val (.int (((0 : Int32) ||| x) ||| y)), .val (.int (1 : Int32)), .val (.int (2 : Int32)), .val (.int (2 : Int32)), .val (.int y)] []))
      refine OGo.by_ (fun t k => XS.iloadN X16.here hx rfl (hb hby d_ini2_60) rfl k) ?_
      show OGo p e below _ (T16.setTop (mkF m 61 #[.val (.ref a), .val (.ref i), .val (.int (((0 : Int32) ||| x) ||| y)), .val (.int (1 : Int32)), .val (.int (2 : Int32)), .val (.int (2 : Int32)), .val (.int y)] [(.int (1 : Int32))]))
      refine OGo.by_ (fun t k => XS.aloadN X16.here hx rfl (hb hby d_ini2_61) rfl rfl k) ?_
      show OGo p e below _ (T16.setTop (mkF m 62 #[.val (.ref a), .val (.ref i), .val (.int (((0 : Int32) ||| x) ||| y)), .val (.int (1 : Int32)), .val (.int (2 : Int32)), .val (.int (2 : Int32)), .val (.int y)] [(.ref i), (.int (1 : Int32))]))
      obtain ⟨cl17, Ar17, q17, S17, Nn17, H17, G17⟩ := id I0_
      refine OGo.by_ (X16.arraylength hx (by rw [e16]; exact Ar17.1) (State.isArrayOf_alike hZ.alike Ar17.2.1) (g := (mkF m 62 #[.val (.ref a), .val (.ref i), .val (.int (((0 : Int32) ||| x) ||| y)), .val (.int (1 : Int32)), .val (.int (2 : Int32)), .val (.int (2 : Int32)), .val (.int y)] [(.ref i), (.int (1 : Int32))])) rfl rfl (hb hby d_ini2_62)) ?_
      rw [len_of S17 Nn17]
      show OGo p e below _ (T16.setTop (mkF m 63 #[.val (.ref a), .val (.ref i), .val (.int (((0 : Int32) ||| x) ||| y)), .val (.int (1 : Int32)), .val (.int (2 : Int32)), .val (.int (2 : Int32)), .val (.int y)] [(.int (2 : Int32)), (.int (1 : Int32))]))
      refine OGo.by_ (fun t k => XS.icmpNo X16.here hx rfl (hb hby d_ini2_63) rfl (tlt (by decide)).2.1 k) ?_
      show OGo p e below _ (T16.setTop (mkF m 66 #[.val (.ref a), .val (.ref i), .val (.int (((0 : Int32) ||| x) ||| y)), .val (.int (1 : Int32)), .val (.int (2 : Int32)), .val (.int (2 : Int32)), .val (.int y)] []))
      refine OGo.by_ (fun t k => XS.aloadN X16.here hx rfl (hb hby d_ini2_66) rfl rfl k) ?_
      show OGo p e below _ (T16.setTop (mkF m 67 #[.val (.ref a), .val (.ref i), .val (.int (((0 : Int32) ||| x) ||| y)), .val (.int (1 : Int32)), .val (.int (2 : Int32)), .val (.int (2 : Int32)), .val (.int y)] [(.ref a)]))
      obtain ⟨T18, X18, e18, st18⟩ := getF X16 hx hZ hown (host := "") (Or.inl (hw _ (List.mem_of_getElem? (i := 15) rfl))) Via.refl e16 FS0_ (g := (mkF m 67 #[.val (.ref a), .val (.ref i), .val (.int (((0 : Int32) ||| x) ||| y)), .val (.int (1 : Int32)), .val (.int (2 : Int32)), .val (.int (2 : Int32)), .val (.int y)] [(.ref a)])) rfl rfl (hb hby d_ini2_67)
      refine OGo.by_ st18 ?_
      show OGo p e below _ (T18.setTop (mkF m 70 #[.val (.ref a), .val (.ref i), .val (.int (((0 : Int32) ||| x) ||| y)), .val (.int (1 : Int32)), .val (.int (2 : Int32)), .val (.int (2 : Int32)), .val (.int y)] [(.ref b)]))
      refine OGo.by_ (fun t k => XS.iloadN X18.here hx rfl (hb hby d_ini2_70) rfl k) ?_
      show OGo p e below _ (T18.setTop (mkF m 71 #[.val (.ref a), .val (.ref i), .val (.int (((0 : Int32) ||| x) ||| y)), .val (.int (1 : Int32)), .val (.int (2 : Int32)), .val (.int (2 : Int32)), .val (.int y)] [(.int (1 : Int32)), (.ref b)]))
      refine OGo.by_ (fun t k => XS.aloadN X18.here hx rfl (hb hby d_ini2_71) rfl rfl k) ?_
      show OGo p e below _ (T18.setTop (mkF m 72 #[.val (.ref a), .val (.ref i), .val (.int (((0 : Int32) ||| x) ||| y)), .val (.int (1 : Int32)), .val (.int (2 : Int32)), .val (.int (2 : Int32)), .val (.int y)] [(.ref i), (.int (1 : Int32)), (.ref b)]))
      refine OGo.by_ (fun t k => XS.iloadN X18.here hx rfl (hb hby d_ini2_72) rfl k) ?_
      show OGo p e below _ (T18.setTop (mkF m 73 #[.val (.ref a), .val (.ref i), .val (.int (((0 : Int32) ||| x) ||| y)), .val (.int (1 : Int32)), .val (.int (2 : Int32)), .val (.int (2 : Int32)), .val (.int y)] [(.int (1 : Int32)), (.ref i), (.int (1 : Int32)), (.ref b)]))
      obtain ⟨cl19, Ar19, q19, S19, Nn19, H19, G19⟩ := id I0_
      have in19 := inb_of S19 ⟨(by decide : ¬ (1 : Int32) < 0), (by decide : (1 : Int32) < (2 : Int32))⟩
      refine OGo.by_ (fun t kk => X18.iaload hx (j := (1 : Int32)) (v := (.int y)) (by rw [e18]; exact Ar19.1) (State.isArrayOf_alike hZ.alike Ar19.2.1) Ar19.2.2 in19 (H19.at in19 (rfl)) (g := (mkF m 73 #[.val (.ref a), .val (.ref i), .val (.int (((0 : Int32) ||| x) ||| y)), .val (.int (1 : Int32)), .val (.int (2 : Int32)), .val (.int (2 : Int32)), .val (.int y)] [(.int (1 : Int32)), (.ref i), (.int (1 : Int32)), (.ref b)])) rfl rfl (hb hby d_ini2_73) _ kk) ?_
      show OGo p e below _ (T18.setTop (mkF m 74 #[.val (.ref a), .val (.ref i), .val (.int (((0 : Int32) ||| x) ||| y)), .val (.int (1 : Int32)), .val (.int (2 : Int32)), .val (.int (2 : Int32)), .val (.int y)] [(.int y), (.int (1 : Int32)), (.ref b)]))
      refine OGo.by_ (fun t k => XS.i2b X18.here hx rfl (hb hby d_ini2_74) rfl k) ?_
      show OGo p e below _ (T18.setTop (mkF m 75 #[.val (.ref a), .val (.ref i), .val (.int (((0 : Int32) ||| x) ||| y)), .val (.int (1 : Int32)), .val (.int (2 : Int32)), .val (.int (2 : Int32)), .val (.int y)] [(.int (y.toInt8.toInt32)), (.int (1 : Int32)), (.ref b)]))
      obtain ⟨cl20, Ar20, q20, S20, Nn20, H20, G20⟩ := id U1
      obtain ⟨T21, h21, X21, e21, W21, st21⟩ := stB X18 hx hZ e18 Ar20 (j := (1 : Int32)) (inb_of S20 ⟨(by decide : ¬ (1 : Int32) < 0), (by decide : (1 : Int32) < (2 : Int32))⟩) (g := (mkF m 75 #[.val (.ref a), .val (.ref i), .val (.int (((0 : Int32) ||| x) ||| y)), .val (.int (1 : Int32)), .val (.int (2 : Int32)), .val (.int (2 : Int32)), .val (.int y)] [(.int (y.toInt8.toInt32)), (.int (1 : Int32)), (.ref b)])) rfl rfl (hb hby d_ini2_75)
      refine OGo.by_ st21 ?_
      show OGo p e below _ (T21.setTop (mkF m 76 #[.val (.ref a), .val (.ref i), .val (.int (((0 : Int32) ||| x) ||| y)), .val (.int (1 : Int32)), .val (.int (2 : Int32)), .val (.int (2 : Int32)), .val (.int y)] []))
      have N21 := Fr.snoc X21 N16 gb
      rw [own_nb8] at W21
      have U2 := Arv.set Ar20 q20 S20 Nn20 H20 G20 (fits_nar_byte _) W21 1 (by decide) (Nat.le_of_ble_eq_true rfl)
      have E1_ := E0_.wr W21
      have FS1_ := FS0_.other W21 (Or.inl hab)
      have FV1_ := FV0_.other W21 (Or.inl hab)
      have I1_ := I0_.other W21 hibb
      have K1_' := Keep.wr K0_' W21 (Or.inr (Nat.le_of_eq g_b.symm))
      refine OGo.by_ (fun t k => XS.iinc X21.here hx rfl (hb hby d_ini2_76) rfl (l' := #[.val (.ref a), .val (.ref i), .val (.int (((0 : Int32) ||| x) ||| y)), .val (.int (2 : Int32)), .val (.int (2 : Int32)), .val (.int (2 : Int32)), .val (.int y)]) rfl k) ?_
      show OGo p e below _ (T21.setTop (mkF m 79 #[.val (.ref a), .val (.ref i), .val (.int (((0 : Int32) ||| x) ||| y)), .val (.int (2 : Int32)), .val (.int (2 : Int32)), .val (.int (2 : Int32)), .val (.int y)] []))
      refine OGo.by_ (fun t k => XS.goto X21.here hx rfl (pc0 := 79) (pc' := 60) rfl (hb hby d_ini2_79) (by decide) (by decide) k) ?_
      show OGo p e below _ (T21.setTop (mkF m 60 #[.val (.ref a), .val (.ref i), .val (.int (((0 : Int32) ||| x) ||| y)), .val (.int (2 : Int32)), .val (.int (2 : Int32)), .val (.int (2 : Int32)), .val (.int y)] []))
      refine OGo.by_ (fun t k => XS.iloadN X21.here hx rfl (hb hby d_ini2_60) rfl k) ?_
      show OGo p e below _ (T21.setTop (mkF m 61 #[.val (.ref a), .val (.ref i), .val (.int (((0 : Int32) ||| x) ||| y)), .val (.int (2 : Int32)), .val (.int (2 : Int32)), .val (.int (2 : Int32)), .val (.int y)] [(.int (2 : Int32))]))
      refine OGo.by_ (fun t k => XS.aloadN X21.here hx rfl (hb hby d_ini2_61) rfl rfl k) ?_
      show OGo p e below _ (T21.setTop (mkF m 62 #[.val (.ref a), .val (.ref i), .val (.int (((0 : Int32) ||| x) ||| y)), .val (.int (2 : Int32)), .val (.int (2 : Int32)), .val (.int (2 : Int32)), .val (.int y)] [(.ref i), (.int (2 : Int32))]))
      obtain ⟨cl22, Ar22, q22, S22, Nn22, H22, G22⟩ := id I1_
      refine OGo.by_ (X21.arraylength hx (by rw [e21]; exact Ar22.1) (State.isArrayOf_alike hZ.alike Ar22.2.1) (g := (mkF m 62 #[.val (.ref a), .val (.ref i), .val (.int (((0 : Int32) ||| x) ||| y)), .val (.int (2 : Int32)), .val (.int (2 : Int32)), .val (.int (2 : Int32)), .val (.int y)] [(.ref i), (.int (2 : Int32))])) rfl rfl (hb hby d_ini2_62)) ?_
      rw [len_of S22 Nn22]
      show OGo p e below _ (T21.setTop (mkF m 63 #[.val (.ref a), .val (.ref i), .val (.int (((0 : Int32) ||| x) ||| y)), .val (.int (2 : Int32)), .val (.int (2 : Int32)), .val (.int (2 : Int32)), .val (.int y)] [(.int (2 : Int32)), (.int (2 : Int32))]))
      refine OGo.by_ (fun t k => XS.icmpYes X21.here hx rfl (pc0 := 63) (pc' := 82) rfl (hb hby d_ini2_63) rfl (flt (by decide)).2.1 (by decide) (by decide) k) ?_
      show OGo p e below _ (T21.setTop (mkF m 82 #[.val (.ref a), .val (.ref i), .val (.int (((0 : Int32) ||| x) ||| y)), .val (.int (2 : Int32)), .val (.int (2 : Int32)), .val (.int (2 : Int32)), .val (.int y)] []))
      refine OGo.by_ (fun t k => XS.aloadN X21.here hx rfl (hb hby d_ini2_82) rfl rfl k) ?_
      show OGo p e below _ (T21.setTop (mkF m 83 #[.val (.ref a), .val (.ref i), .val (.int (((0 : Int32) ||| x) ||| y)), .val (.int (2 : Int32)), .val (.int (2 : Int32)), .val (.int (2 : Int32)), .val (.int y)] [(.ref a)]))
      refine OGo.by_ (fun t k => XS.aconstNull X21.here hx rfl (hb hby d_ini2_83) k) ?_
      show OGo p e below _ (T21.setTop (mkF m 84 #[.val (.ref a), .val (.ref i), .val (.int (((0 : Int32) ||| x) ||| y)), .val (.int (2 : Int32)), .val (.int (2 : Int32)), .val (.int (2 : Int32)), .val (.int y)] [.null, (.ref a)]))
      obtain ⟨T23, h23, X23, e23, W23, st23⟩ := putF X21 hx hZ hown (host := "") (Or.inl (hw _ (List.mem_of_getElem? (i := 17) rfl))) Via.refl e21 FV1_ E1_ (Or.inr ⟨(hw _ (List.mem_of_getElem? (i := 18) rfl)), rfl, hnm⟩) (hw _ (List.mem_of_getElem? (i := 6) rfl)) (ty := (.array .int)) (by decide) rfl rfl (g := (mkF m 84 #[.val (.ref a), .val (.ref i), .val (.int (((0 : Int32) ||| x) ||| y)), .val (.int (2 : Int32)), .val (.int (2 : Int32)), .val (.int (2 : Int32)), .val (.int y)] [.null, (.ref a)])) rfl rfl (hb hby d_ini2_84)
      refine OGo.by_ st23 ?_
      show OGo p e below _ (T23.setTop (mkF m 87 #[.val (.ref a), .val (.ref i), .val (.int (((0 : Int32) ||| x) ||| y)), .val (.int (2 : Int32)), .val (.int (2 : Int32)), .val (.int (2 : Int32)), .val (.int y)] []))
      have N23 := Fr.snoc X23 N21 ga
      have KK := Keep.wr K1_' W23 (Or.inl (List.mem_singleton.mpr rfl))
      have Uf : Arv Z h23 b k10 .byte (2 : Int32) ([x, y].map fun x => .int x.toInt8.toInt32) (.int (0 : Int32)) := Arv.other (show Arv Z _ b k10 .byte (2 : Int32) [(.int x.toInt8.toInt32), (.int y.toInt8.toInt32)] (.int (0 : Int32)) from U2) W23 hab.symm
      refine OGo.by_ (fun t k => XS.goto X23.here hx rfl (pc0 := 87) (pc' := 106) rfl (hb hby d_ini2_87) (by decide) (by decide) k) ?_
      show OGo p e below _ (T23.setTop (mkF m 106 #[.val (.ref a), .val (.ref i), .val (.int (((0 : Int32) ||| x) ||| y)), .val (.int (2 : Int32)), .val (.int (2 : Int32)), .val (.int (2 : Int32)), .val (.int y)] []))
      exact own_ret X23 hx hlk hret (hb hby d_ini2_106) (by decide) (by decide) (by rw [e23]; exact ⟨rfl, N23, KK, b, by omega, E1_.wr W23, Or.inl ⟨FS1_.other W23 (Or.inr (slot_ne (C := "com/example/fair_witness/fairwitness/model/State") (Or.inr (hw _ (List.mem_of_getElem? (i := 16) rfl))) (Or.inr (hw _ (List.mem_of_getElem? (i := 18) rfl))) (by decide) (t := (.array .byte)) (t' := (.array .int)) (by decide) (by decide))), FV1_.same W23, ⟨k10, Uf⟩, own_sm2 hc40 hc47⟩⟩)
    · refine OGo.by_ (fun t k => XS.icmpYes X1.here hx rfl (pc0 := 47) (pc' := 90) rfl (hb hby d_ini2_47) rfl (flt hc47).2.1 (by decide) (by decide) k) ?_
      show OGo p e below _ (T1.setTop (mkF m 90 #[.val (.ref a), .val (.ref i), .val (.int (((0 : Int32) ||| x) ||| y)), .val (.ref i), .val (.int (2 : Int32)), .val (.int (2 : Int32)), .val (.int y)] []))
      refine OGo.by_ (fun t k => XS.aloadN X1.here hx rfl (hb hby d_ini2_90) rfl rfl k) ?_
      show OGo p e below _ (T1.setTop (mkF m 91 #[.val (.ref a), .val (.ref i), .val (.int (((0 : Int32) ||| x) ||| y)), .val (.ref i), .val (.int (2 : Int32)), .val (.int (2 : Int32)), .val (.int y)] [(.ref a)]))
      refine OGo.by_ (fun t k => XS.aconstNull X1.here hx rfl (hb hby d_ini2_91) k) ?_
      show OGo p e below _ (T1.setTop (mkF m 92 #[.val (.ref a), .val (.ref i), .val (.int (((0 : Int32) ||| x) ||| y)), .val (.ref i), .val (.int (2 : Int32)), .val (.int (2 : Int32)), .val (.int y)] [.null, (.ref a)]))
      obtain ⟨T24, h24, X24, e24, W24, st24⟩ := putF X1 hx hZ hown (host := "") (Or.inl (hw _ (List.mem_of_getElem? (i := 15) rfl))) Via.refl e1 FS E0 (Or.inr ⟨(hw _ (List.mem_of_getElem? (i := 16) rfl)), rfl, hnm⟩) (hw _ (List.mem_of_getElem? (i := 6) rfl)) (ty := (.array .byte)) (by decide) rfl rfl (g := (mkF m 92 #[.val (.ref a), .val (.ref i), .val (.int (((0 : Int32) ||| x) ||| y)), .val (.ref i), .val (.int (2 : Int32)), .val (.int (2 : Int32)), .val (.int y)] [.null, (.ref a)])) rfl rfl (hb hby d_ini2_92)
      refine OGo.by_ st24 ?_
      show OGo p e below _ (T24.setTop (mkF m 95 #[.val (.ref a), .val (.ref i), .val (.int (((0 : Int32) ||| x) ||| y)), .val (.ref i), .val (.int (2 : Int32)), .val (.int (2 : Int32)), .val (.int y)] []))
      have N24 := Fr.snoc X24 N0 ga
      have E1 := E0.wr W24
      have FS1 := FS.same W24
      have FV1 := FV.other W24 (Or.inr (slot_ne (C := "com/example/fair_witness/fairwitness/model/State") (Or.inr (hw _ (List.mem_of_getElem? (i := 18) rfl))) (Or.inr (hw _ (List.mem_of_getElem? (i := 16) rfl))) (by decide) (t := (.array .int)) (t' := (.array .byte)) (by decide) (by decide)))
      have V1b := V1.other W24 hib
      have X1b := EI.wr W24
      refine OGo.by_ (fun t k => XS.aloadN X24.here hx rfl (hb hby d_ini2_95) rfl rfl k) ?_
      show OGo p e below _ (T24.setTop (mkF m 96 #[.val (.ref a), .val (.ref i), .val (.int (((0 : Int32) ||| x) ||| y)), .val (.ref i), .val (.int (2 : Int32)), .val (.int (2 : Int32)), .val (.int y)] [(.ref a)]))
      refine OGo.by_ (fun t k => XS.aloadN X24.here hx rfl (hb hby d_ini2_96) rfl rfl k) ?_
      show OGo p e below _ (T24.setTop (mkF m 97 #[.val (.ref a), .val (.ref i), .val (.int (((0 : Int32) ||| x) ||| y)), .val (.ref i), .val (.int (2 : Int32)), .val (.int (2 : Int32)), .val (.int y)] [(.ref i), (.ref a)]))
      obtain ⟨T25, h25, X25, e25, E25, Va25, Ea25, st25⟩ := cloneH X24 hx hZ hown (hw _ (List.mem_of_getElem? (i := 27) rfl)) (hw _ (List.mem_of_getElem? (i := 28) rfl)) (hw _ (List.mem_of_getElem? (i := 32) rfl)) (hw _ (List.mem_of_getElem? (i := 30) rfl)) (hw _ (List.mem_of_getElem? (i := 31) rfl)) (hw _ (List.mem_of_getElem? (i := 33) rfl)) e24 (Arv.arh V1b) X1b (g := (mkF m 97 #[.val (.ref a), .val (.ref i), .val (.int (((0 : Int32) ||| x) ||| y)), .val (.ref i), .val (.int (2 : Int32)), .val (.int (2 : Int32)), .val (.int y)] [(.ref i), (.ref a)])) rfl (by rw [hml]; rfl) rfl (hb hby d_ini2_97) (by decide) (W := 1) (by show 2 * 0 + _ ≤ _; exact Nat.le_of_eq rfl) (by decide) (cap := 3) (by decide) (by decide) (by decide)
      obtain ⟨b, g_b⟩ : ∃ z, z = h24.size := ⟨_, rfl⟩
      rw [← g_b] at Va25 Ea25 st25
      refine OGo.by_ st25 ?_
      show OGo p e below _ (T25.setTop (mkF m 100 #[.val (.ref a), .val (.ref i), .val (.int (((0 : Int32) ||| x) ||| y)), .val (.ref i), .val (.int (2 : Int32)), .val (.int (2 : Int32)), .val (.int y)] [(.ref b), (.ref a)]))
      obtain ⟨T26, X26, e26, st26⟩ := castY X25 hx hZ hown (hw _ (List.mem_of_getElem? (i := 34) rfl)) e25 (Ins.self Ea25) (g := (mkF m 100 #[.val (.ref a), .val (.ref i), .val (.int (((0 : Int32) ||| x) ||| y)), .val (.ref i), .val (.int (2 : Int32)), .val (.int (2 : Int32)), .val (.int y)] [(.ref b), (.ref a)])) rfl rfl (hb hby d_ini2_100)
      refine OGo.by_ st26 ?_
      show OGo p e below _ (T26.setTop (mkF m 103 #[.val (.ref a), .val (.ref i), .val (.int (((0 : Int32) ||| x) ||| y)), .val (.ref i), .val (.int (2 : Int32)), .val (.int (2 : Int32)), .val (.int y)] [(.ref b), (.ref a)]))
      have lta : h24.size > a := E1.lt
      have hab : b ≠ a := own_ne' (by omega)
      obtain ⟨T27, h27, X27, e27, W27, st27⟩ := putF X26 hx hZ hown (host := "") (Or.inl (hw _ (List.mem_of_getElem? (i := 17) rfl))) Via.refl e26 (FV1.ext E25) (E1.ext E25) (Or.inr ⟨(hw _ (List.mem_of_getElem? (i := 18) rfl)), rfl, hnm⟩) (hw _ (List.mem_of_getElem? (i := 6) rfl)) (ty := (.array .int)) (by decide) rfl rfl (g := (mkF m 103 #[.val (.ref a), .val (.ref i), .val (.int (((0 : Int32) ||| x) ||| y)), .val (.ref i), .val (.int (2 : Int32)), .val (.int (2 : Int32)), .val (.int y)] [(.ref b), (.ref a)])) rfl rfl (hb hby d_ini2_103)
      refine OGo.by_ st27 ?_
      show OGo p e below _ (T27.setTop (mkF m 106 #[.val (.ref a), .val (.ref i), .val (.int (((0 : Int32) ||| x) ||| y)), .val (.ref i), .val (.int (2 : Int32)), .val (.int (2 : Int32)), .val (.int y)] []))
      have N27 := Fr.snoc X27 N24 ga
      have KK : Keep h0 h27 [a] := (((Keep.refl h0 [a]).wr W24 (Or.inl (List.mem_singleton.mpr rfl))).ext E25).wr W27 (Or.inl (List.mem_singleton.mpr rfl))
      have hsz := W24.size
      have Vc : Arv Z h27 b ki .int (2 : Int32) ([x, y].map .int) (.int (0 : Int32)) := Arv.other (show Arv Z h25 b ki .int (2 : Int32) [(.int x), (.int y)] (.int (0 : Int32)) from Va25) W27 hab
      exact own_ret X27 hx hlk hret (hb hby d_ini2_106) (by decide) (by decide) (by rw [e27]; exact ⟨rfl, N27, KK, b, by omega, (E1.ext E25).wr W27, Or.inr ⟨(FS1.ext E25).other W27 (Or.inr (slot_ne (C := "com/example/fair_witness/fairwitness/model/State") (Or.inr (hw _ (List.mem_of_getElem? (i := 16) rfl))) (Or.inr (hw _ (List.mem_of_getElem? (i := 18) rfl))) (by decide) (t := (.array .byte)) (t' := (.array .int)) (by decide) (by decide))), (FV1.ext E25).same W27, Ea25.wr W27, ki, Vc⟩⟩)
theorem d_ini3_0 : decode prog_92_method_1_code 0 = .ok (.aload_n 0, 1) := by decide +kernel
theorem d_ini3_1 : decode prog_92_method_1_code 1 = .ok (.invokespecial 1, 3) := by decide +kernel
theorem d_ini3_4 : decode prog_92_method_1_code 4 = .ok (.iconst 0, 1) := by decide +kernel
theorem d_ini3_5 : decode prog_92_method_1_code 5 = .ok (.istore_n 2, 1) := by decide +kernel
theorem d_ini3_6 : decode prog_92_method_1_code 6 = .ok (.aload_n 1, 1) := by decide +kernel
theorem d_ini3_7 : decode prog_92_method_1_code 7 = .ok (.astore_n 3, 1) := by decide +kernel
theorem d_ini3_8 : decode prog_92_method_1_code 8 = .ok (.aload_n 3, 1) := by decide +kernel
theorem d_ini3_9 : decode prog_92_method_1_code 9 = .ok (.arraylength, 1) := by decide +kernel
theorem d_ini3_10 : decode prog_92_method_1_code 10 = .ok (.istore 4, 2) := by decide +kernel
theorem d_ini3_12 : decode prog_92_method_1_code 12 = .ok (.iconst 0, 1) := by decide +kernel
theorem d_ini3_13 : decode prog_92_method_1_code 13 = .ok (.istore 5, 2) := by decide +kernel
theorem d_ini3_15 : decode prog_92_method_1_code 15 = .ok (.iload 5, 2) := by decide +kernel
theorem d_ini3_17 : decode prog_92_method_1_code 17 = .ok (.iload 4, 2) := by decide +kernel
theorem d_ini3_19 : decode prog_92_method_1_code 19 = .ok (.if_icmp .ge 20, 3) := by decide +kernel
theorem d_ini3_22 : decode prog_92_method_1_code 22 = .ok (.aload_n 3, 1) := by decide +kernel
theorem d_ini3_23 : decode prog_92_method_1_code 23 = .ok (.iload 5, 2) := by decide +kernel
theorem d_ini3_25 : decode prog_92_method_1_code 25 = .ok (.iaload, 1) := by decide +kernel
theorem d_ini3_26 : decode prog_92_method_1_code 26 = .ok (.istore 6, 2) := by decide +kernel
theorem d_ini3_28 : decode prog_92_method_1_code 28 = .ok (.iload_n 2, 1) := by decide +kernel
theorem d_ini3_29 : decode prog_92_method_1_code 29 = .ok (.iload 6, 2) := by decide +kernel
theorem d_ini3_31 : decode prog_92_method_1_code 31 = .ok (.ior, 1) := by decide +kernel
theorem d_ini3_32 : decode prog_92_method_1_code 32 = .ok (.istore_n 2, 1) := by decide +kernel
theorem d_ini3_33 : decode prog_92_method_1_code 33 = .ok (.iinc 5 1, 3) := by decide +kernel
theorem d_ini3_36 : decode prog_92_method_1_code 36 = .ok (.goto (-21), 3) := by decide +kernel
theorem d_ini3_39 : decode prog_92_method_1_code 39 = .ok (.iload_n 2, 1) := by decide +kernel
theorem d_ini3_40 : decode prog_92_method_1_code 40 = .ok (.ifCond .lt 50, 3) := by decide +kernel
theorem d_ini3_90 : decode prog_92_method_1_code 90 = .ok (.aload_n 0, 1) := by decide +kernel
theorem d_ini3_91 : decode prog_92_method_1_code 91 = .ok (.aconst_null, 1) := by decide +kernel
theorem d_ini3_92 : decode prog_92_method_1_code 92 = .ok (.putfield 7, 3) := by decide +kernel
theorem d_ini3_95 : decode prog_92_method_1_code 95 = .ok (.aload_n 0, 1) := by decide +kernel
theorem d_ini3_96 : decode prog_92_method_1_code 96 = .ok (.aload_n 1, 1) := by decide +kernel
theorem d_ini3_97 : decode prog_92_method_1_code 97 = .ok (.invokevirtual 17, 3) := by decide +kernel
theorem d_ini3_100 : decode prog_92_method_1_code 100 = .ok (.checkcast 18, 3) := by decide +kernel
theorem d_ini3_103 : decode prog_92_method_1_code 103 = .ok (.putfield 13, 3) := by decide +kernel
theorem d_ini3_106 : decode prog_92_method_1_code 106 = .ok (.return_, 1) := by decide +kernel
theorem d_ini3_43 : decode prog_92_method_1_code 43 = .ok (.iload_n 2, 1) := by decide +kernel
theorem d_ini3_44 : decode prog_92_method_1_code 44 = .ok (.sipush 256, 3) := by decide +kernel
theorem d_ini3_47 : decode prog_92_method_1_code 47 = .ok (.if_icmp .ge 43, 3) := by decide +kernel
theorem d_ini3_50 : decode prog_92_method_1_code 50 = .ok (.aload_n 0, 1) := by decide +kernel
theorem d_ini3_51 : decode prog_92_method_1_code 51 = .ok (.aload_n 1, 1) := by decide +kernel
theorem d_ini3_52 : decode prog_92_method_1_code 52 = .ok (.arraylength, 1) := by decide +kernel
theorem d_ini3_53 : decode prog_92_method_1_code 53 = .ok (.newarray .byte, 2) := by decide +kernel
theorem d_ini3_55 : decode prog_92_method_1_code 55 = .ok (.putfield 7, 3) := by decide +kernel
theorem d_ini3_58 : decode prog_92_method_1_code 58 = .ok (.iconst 0, 1) := by decide +kernel
theorem d_ini3_59 : decode prog_92_method_1_code 59 = .ok (.istore_n 3, 1) := by decide +kernel
theorem d_ini3_60 : decode prog_92_method_1_code 60 = .ok (.iload_n 3, 1) := by decide +kernel
theorem d_ini3_61 : decode prog_92_method_1_code 61 = .ok (.aload_n 1, 1) := by decide +kernel
theorem d_ini3_62 : decode prog_92_method_1_code 62 = .ok (.arraylength, 1) := by decide +kernel
theorem d_ini3_63 : decode prog_92_method_1_code 63 = .ok (.if_icmp .ge 19, 3) := by decide +kernel
theorem d_ini3_66 : decode prog_92_method_1_code 66 = .ok (.aload_n 0, 1) := by decide +kernel
theorem d_ini3_67 : decode prog_92_method_1_code 67 = .ok (.getfield 7, 3) := by decide +kernel
theorem d_ini3_70 : decode prog_92_method_1_code 70 = .ok (.iload_n 3, 1) := by decide +kernel
theorem d_ini3_71 : decode prog_92_method_1_code 71 = .ok (.aload_n 1, 1) := by decide +kernel
theorem d_ini3_72 : decode prog_92_method_1_code 72 = .ok (.iload_n 3, 1) := by decide +kernel
theorem d_ini3_73 : decode prog_92_method_1_code 73 = .ok (.iaload, 1) := by decide +kernel
theorem d_ini3_74 : decode prog_92_method_1_code 74 = .ok (.i2b, 1) := by decide +kernel
theorem d_ini3_75 : decode prog_92_method_1_code 75 = .ok (.bastore, 1) := by decide +kernel
theorem d_ini3_76 : decode prog_92_method_1_code 76 = .ok (.iinc 3 1, 3) := by decide +kernel
theorem d_ini3_79 : decode prog_92_method_1_code 79 = .ok (.goto (-19), 3) := by decide +kernel
theorem d_ini3_82 : decode prog_92_method_1_code 82 = .ok (.aload_n 0, 1) := by decide +kernel
theorem d_ini3_83 : decode prog_92_method_1_code 83 = .ok (.aconst_null, 1) := by decide +kernel
theorem d_ini3_84 : decode prog_92_method_1_code 84 = .ok (.putfield 13, 3) := by decide +kernel
theorem d_ini3_87 : decode prog_92_method_1_code 87 = .ok (.goto 19, 3) := by decide +kernel
theorem ef_ini3 (m : MethodId) (x0 : Addr) (x1 : Addr) : entryFrame m #[(.ref x0), (.ref x1)] 7 = mkF m 0 #[.val (.ref x0), .val (.ref x1), .unset, .unset, .unset, .unset, .unset] [] := by first | (simp [entryFrame, mkF, argsToLocals, Value.category]; done) | rfl
def Q_ini3 (Z : State) (a i : Addr) (ki : ClassId) (x y z : Int32) (h0 : Heap) (n0 : Nat) (v : Option Value) (h : Heap) (L : List Loc) : Prop := v = none ∧ Fr n0 L ∧ Keep h0 h [a] ∧ ∃ b, h0.size ≤ b ∧ own_ST Z h a b (3 : Int32) [x, y, z]
set_option maxRecDepth 65536 in
set_option maxHeartbeats 40000000 in
theorem rm_ini3 (l : Launch) (Z : State) (a0 : Array Value) (hw : ∀ d ∈ tables_1, d.before a0 Z = true) (ws : List Jvm.Cond) (a i : Addr) (ki : ClassId) (x y z : Int32) (h0 : Heap) (n0 : Nat) (Z0 : n0 ≤ h0.size) (ga : n0 ≤ a) (E0 : Exa Z h0 a "com/example/fair_witness/fairwitness/model/State") (FS : Fld Z h0 a "com/example/fair_witness/fairwitness/model/State" "smallIndices" "[B" .null) (FV : Fld Z h0 a "com/example/fair_witness/fairwitness/model/State" "valueIndices" "[I" .null) (EI : Exa Z h0 i "[I") (V1 : Arv Z h0 i ki .int (3 : Int32) [(.int x), (.int y), (.int z)] (.int (0 : Int32))) (hib : i ≠ a) :
    MetFree l (⟨"com/example/fair_witness/fairwitness/model/State", "<init>", "([I)V"⟩ : MethodName) (head1 (Jvm.Cond.code (⟨"com/example/fair_witness/fairwitness/model/State", "<init>", "([I)V"⟩ : MethodName) prog_92_method_1_code 7 none :: ws) ({ frames := 1, cells := 1, slots := 3, locals := 15 } : Room)) (fun a_ U => a_ = #[(.ref a), (.ref i)] ∧ Z.Warmed39 U.vm ∧ U.heap = h0) (fun _ _ _ _ _ => True) (fun _ U o U' => ∃ v L, o = .returned v ∧ Q_ini3 Z a i ki x y z h0 n0 v U'.heap L ∧ FrameEnd U o U' L ({ frames := 1, cells := 1, slots := 3, locals := 15 } : Room).cells ({ frames := 1, cells := 1, slots := 3, locals := 15 } : Room).slots) := by
  refine MetFree.of_bodySF (plainFor_of_name pn_com_example_fair_witness_fairwitness_model_State) hisR ?_
  intro p e s m args below meth c s₁ Bd hml0 hP hK
  obtain ⟨rfl, hZ, hh⟩ := hP
  have hx := Bd.exec
  have hby := Bd.bytes
  have hml : c.maxLocals = 7 := hml0
  have hown : s.vm.findClass "com/example/fair_witness/fairwitness/model/State" = some m.cls := findClass_of_methodNamed Bd.named
  have hnm := (name_of_methodNamed Bd.named Bd.method).1
  have X0 : Stand p l e ({ frames := 1, cells := 1, slots := 3, locals := 15 } : Room) s m #[(.ref a), (.ref i)] below meth c s₁ [] 0 0 := Stand.of_body Bd
  have e0 : s₁.heap = h0 := by rw [← hh, Bd.state]; rfl
  have N0 := Fr.nil n0
  have hlk := Bd.notSynchronized
  have hret := Bd.returns
  show OGo p e below (OEnd s (Q_ini3 Z a i ki x y z h0 n0) ({ frames := 1, cells := 1, slots := 3, locals := 15 } : Room).cells ({ frames := 1, cells := 1, slots := 3, locals := 15 } : Room).slots) (s₁.setTop (entryFrame m #[(.ref a), (.ref i)] 7))
  rw [ef_ini3]
  show OGo p e below _ (s₁.setTop (mkF m 0 #[.val (.ref a), .val (.ref i), .unset, .unset, .unset, .unset, .unset] []))
  refine OGo.by_ (fun t k => XS.aloadN X0.here hx rfl (hb hby d_ini3_0) rfl rfl k) ?_
  show OGo p e below _ (s₁.setTop (mkF m 1 #[.val (.ref a), .val (.ref i), .unset, .unset, .unset, .unset, .unset] [(.ref a)]))
  obtain ⟨T1, X1, e1, st1⟩ := initO X0 hx hZ hown (hw _ (List.mem_of_getElem? (i := 11) rfl)) (hw _ (List.mem_of_getElem? (i := 12) rfl)) (hw _ (List.mem_of_getElem? (i := 13) rfl)) e0 (g := (mkF m 1 #[.val (.ref a), .val (.ref i), .unset, .unset, .unset, .unset, .unset] [(.ref a)])) rfl (by rw [hml]; rfl) rfl (hb hby d_ini3_1) (by decide) (W := 0) (by show 2 * 0 + _ ≤ _; exact Nat.le_of_eq rfl) (by decide)
  refine OGo.by_ st1 ?_
  show OGo p e below _ (T1.setTop (mkF m 4 #[.val (.ref a), .val (.ref i), .unset, .unset, .unset, .unset, .unset] []))
  refine OGo.by_ (fun t k => XS.iconst X1.here hx rfl (hb hby d_ini3_4) k) ?_
  show OGo p e below _ (T1.setTop (mkF m 5 #[.val (.ref a), .val (.ref i), .unset, .unset, .unset, .unset, .unset] [(.int (0 : Int32))]))
  refine OGo.by_ (fun t k => XS.istoreN X1.here hx rfl (hb hby d_ini3_5) rfl (l' := #[.val (.ref a), .val (.ref i), .val (.int (0 : Int32)), .unset, .unset, .unset, .unset]) rfl k) ?_
  show OGo p e below _ (T1.setTop (mkF m 6 #[.val (.ref a), .val (.ref i), .val (.int (0 : Int32)), .unset, .unset, .unset, .unset] []))
  refine OGo.by_ (fun t k => XS.aloadN X1.here hx rfl (hb hby d_ini3_6) rfl rfl k) ?_
  show OGo p e below _ (T1.setTop (mkF m 7 #[.val (.ref a), .val (.ref i), .val (.int (0 : Int32)), .unset, .unset, .unset, .unset] [(.ref i)]))
  refine OGo.by_ (fun t k => XS.astoreN X1.here hx rfl (hb hby d_ini3_7) rfl rfl (l' := #[.val (.ref a), .val (.ref i), .val (.int (0 : Int32)), .val (.ref i), .unset, .unset, .unset]) rfl k) ?_
  show OGo p e below _ (T1.setTop (mkF m 8 #[.val (.ref a), .val (.ref i), .val (.int (0 : Int32)), .val (.ref i), .unset, .unset, .unset] []))
  refine OGo.by_ (fun t k => XS.aloadN X1.here hx rfl (hb hby d_ini3_8) rfl rfl k) ?_
  show OGo p e below _ (T1.setTop (mkF m 9 #[.val (.ref a), .val (.ref i), .val (.int (0 : Int32)), .val (.ref i), .unset, .unset, .unset] [(.ref i)]))
  obtain ⟨cl2, Ar2, q2, S2, Nn2, H2, G2⟩ := id V1
  refine OGo.by_ (X1.arraylength hx (by rw [e1]; exact Ar2.1) (State.isArrayOf_alike hZ.alike Ar2.2.1) (g := (mkF m 9 #[.val (.ref a), .val (.ref i), .val (.int (0 : Int32)), .val (.ref i), .unset, .unset, .unset] [(.ref i)])) rfl rfl (hb hby d_ini3_9)) ?_
  rw [len_of S2 Nn2]
  show OGo p e below _ (T1.setTop (mkF m 10 #[.val (.ref a), .val (.ref i), .val (.int (0 : Int32)), .val (.ref i), .unset, .unset, .unset] [(.int (3 : Int32))]))
  refine OGo.by_ (fun t k => XS.istore X1.here hx rfl (hb hby d_ini3_10) rfl (l' := #[.val (.ref a), .val (.ref i), .val (.int (0 : Int32)), .val (.ref i), .val (.int (3 : Int32)), .unset, .unset]) rfl k) ?_
  show OGo p e below _ (T1.setTop (mkF m 12 #[.val (.ref a), .val (.ref i), .val (.int (0 : Int32)), .val (.ref i), .val (.int (3 : Int32)), .unset, .unset] []))
  refine OGo.by_ (fun t k => XS.iconst X1.here hx rfl (hb hby d_ini3_12) k) ?_
  show OGo p e below _ (T1.setTop (mkF m 13 #[.val (.ref a), .val (.ref i), .val (.int (0 : Int32)), .val (.ref i), .val (.int (3 : Int32)), .unset, .unset] [(.int (0 : Int32))]))
  refine OGo.by_ (fun t k => XS.istore X1.here hx rfl (hb hby d_ini3_13) rfl (l' := #[.val (.ref a), .val (.ref i), .val (.int (0 : Int32)), .val (.ref i), .val (.int (3 : Int32)), .val (.int (0 : Int32)), .unset]) rfl k) ?_
  show OGo p e below _ (T1.setTop (mkF m 15 #[.val (.ref a), .val (.ref i), .val (.int (0 : Int32)), .val (.ref i), .val (.int (3 : Int32)), .val (.int (0 : Int32)), .unset] []))
  refine OGo.by_ (fun t k => XS.iload X1.here hx rfl (hb hby d_ini3_15) rfl k) ?_
  show OGo p e below _ (T1.setTop (mkF m 17 #[.val (.ref a), .val (.ref i), .val (.int (0 : Int32)), .val (.ref i), .val (.int (3 : Int32)), .val (.int (0 : Int32)), .unset] [(.int (0 : Int32))]))
  refine OGo.by_ (fun t k => XS.iload X1.here hx rfl (hb hby d_ini3_17) rfl k) ?_
  show OGo p e below _ (T1.setTop (mkF m 19 #[.val (.ref a), .val (.ref i), .val (.int (0 : Int32)), .val (.ref i), .val (.int (3 : Int32)), .val (.int (0 : Int32)), .unset] [(.int (3 : Int32)), (.int (0 : Int32))]))
  refine OGo.by_ (fun t k => XS.icmpNo X1.here hx rfl (hb hby d_ini3_19) rfl (tlt (by decide)).2.1 k) ?_
  show OGo p e below _ (T1.setTop (mkF m 22 #[.val (.ref a), .val (.ref i), .val (.int (0 : Int32)), .val (.ref i), .val (.int (3 : Int32)), .val (.int (0 : Int32)), .unset] []))
  refine OGo.by_ (fun t k => XS.aloadN X1.here hx rfl (hb hby d_ini3_22) rfl rfl k) ?_
  show OGo p e below _ (T1.setTop (mkF m 23 #[.val (.ref a), .val (.ref i), .val (.int (0 : Int32)), .val (.ref i), .val (.int (3 : Int32)), .val (.int (0 : Int32)), .unset] [(.ref i)]))
  refine OGo.by_ (fun t k => XS.iload X1.here hx rfl (hb hby d_ini3_23) rfl k) ?_
  show OGo p e below _ (T1.setTop (mkF m 25 #[.val (.ref a), .val (.ref i), .val (.int (0 : Int32)), .val (.ref i), .val (.int (3 : Int32)), .val (.int (0 : Int32)), .unset] [(.int (0 : Int32)), (.ref i)]))
  obtain ⟨cl3, Ar3, q3, S3, Nn3, H3, G3⟩ := id V1
  have in3 := inb_of S3 ⟨(by decide : ¬ (0 : Int32) < 0), (by decide : (0 : Int32) < (3 : Int32))⟩
  refine OGo.by_ (fun t kk => X1.iaload hx (j := (0 : Int32)) (v := (.int x)) (by rw [e1]; exact Ar3.1) (State.isArrayOf_alike hZ.alike Ar3.2.1) Ar3.2.2 in3 (H3.at in3 (rfl)) (g := (mkF m 25 #[.val (.ref a), .val (.ref i), .val (.int (0 : Int32)), .val (.ref i), .val (.int (3 : Int32)), .val (.int (0 : Int32)), .unset] [(.int (0 : Int32)), (.ref i)])) rfl rfl (hb hby d_ini3_25) _ kk) ?_
  show OGo p e below _ (T1.setTop (mkF m 26 #[.val (.ref a), .val (.ref i), .val (.int (0 : Int32)), .val (.ref i), .val (.int (3 : Int32)), .val (.int (0 : Int32)), .unset] [(.int x)]))
  refine OGo.by_ (fun t k => XS.istore X1.here hx rfl (hb hby d_ini3_26) rfl (l' := #[.val (.ref a), .val (.ref i), .val (.int (0 : Int32)), .val (.ref i), .val (.int (3 : Int32)), .val (.int (0 : Int32)), .val (.int x)]) rfl k) ?_
  show OGo p e below _ (T1.setTop (mkF m 28 #[.val (.ref a), .val (.ref i), .val (.int (0 : Int32)), .val (.ref i), .val (.int (3 : Int32)), .val (.int (0 : Int32)), .val (.int x)] []))
  refine OGo.by_ (fun t k => XS.iloadN X1.here hx rfl (hb hby d_ini3_28) rfl k) ?_
  show OGo p e below _ (T1.setTop (mkF m 29 #[.val (.ref a), .val (.ref i), .val (.int (0 : Int32)), .val (.ref i), .val (.int (3 : Int32)), .val (.int (0 : Int32)), .val (.int x)] [(.int (0 : Int32))]))
  refine OGo.by_ (fun t k => XS.iload X1.here hx rfl (hb hby d_ini3_29) rfl k) ?_
  show OGo p e below _ (T1.setTop (mkF m 31 #[.val (.ref a), .val (.ref i), .val (.int (0 : Int32)), .val (.ref i), .val (.int (3 : Int32)), .val (.int (0 : Int32)), .val (.int x)] [(.int x), (.int (0 : Int32))]))
  refine OGo.by_ (fun t k => XS.ior X1.here hx rfl (hb hby d_ini3_31) rfl k) ?_
  show OGo p e below _ (T1.setTop (mkF m 32 #[.val (.ref a), .val (.ref i), .val (.int (0 : Int32)), .val (.ref i), .val (.int (3 : Int32)), .val (.int (0 : Int32)), .val (.int x)] [(.int ((0 : Int32) ||| x))]))
  refine OGo.by_ (fun t k => XS.istoreN X1.here hx rfl (hb hby d_ini3_32) rfl (l' := #[.val (.ref a), .val (.ref i), .val (.int ((0 : Int32) ||| x)), .val (.ref i), .val (.int (3 : Int32)), .val (.int (0 : Int32)), .val (.int x)]) rfl k) ?_
  show OGo p e below _ (T1.setTop (mkF m 33 #[.val (.ref a), .val (.ref i), .val (.int ((0 : Int32) ||| x)), .val (.ref i), .val (.int (3 : Int32)), .val (.int (0 : Int32)), .val (.int x)] []))
  refine OGo.by_ (fun t k => XS.iinc X1.here hx rfl (hb hby d_ini3_33) rfl (l' := #[.val (.ref a), .val (.ref i), .val (.int ((0 : Int32) ||| x)), .val (.ref i), .val (.int (3 : Int32)), .val (.int (1 : Int32)), .val (.int x)]) rfl k) ?_
  show OGo p e below _ (T1.setTop (mkF m 36 #[.val (.ref a), .val (.ref i), .val (.int ((0 : Int32) ||| x)), .val (.ref i), .val (.int (3 : Int32)), .val (.int (1 : Int32)), .val (.int x)] []))
  refine OGo.by_ (fun t k => XS.goto X1.here hx rfl (pc0 := 36) (pc' := 15) rfl (hb hby d_ini3_36) (by decide) (by decide) k) ?_
  show OGo p e below _ (T1.setTop (mkF m 15 #[.val (.ref a), .val (.ref i), .val (.int ((0 : Int32) ||| x)), .val (.ref i), .val (.int (3 : Int32)), .val (.int (1 : Int32)), .val (.int x)] []))
  refine OGo.by_ (fun t k => XS.iload X1.here hx rfl (hb hby d_ini3_15) rfl k) ?_
  show OGo p e below _ (T1.setTop (mkF m 17 #[.val (.ref a), .val (.ref i), .val (.int ((0 : Int32) ||| x)), .val (.ref i), .val (.int (3 : Int32)), .val (.int (1 : Int32)), .val (.int x)] [(.int (1 : Int32))]))
  refine OGo.by_ (fun t k => XS.iload X1.here hx rfl (hb hby d_ini3_17) rfl k) ?_
  show OGo p e below _ (T1.setTop (mkF m 19 #[.val (.ref a), .val (.ref i), .val (.int ((0 : Int32) ||| x)), .val (.ref i), .val (.int (3 : Int32)), .val (.int (1 : Int32)), .val (.int x)] [(.int (3 : Int32)), (.int (1 : Int32))]))
  refine OGo.by_ (fun t k => XS.icmpNo X1.here hx rfl (hb hby d_ini3_19) rfl (tlt (by decide)).2.1 k) ?_
  show OGo p e below _ (T1.setTop (mkF m 22 #[.val (.ref a), .val (.ref i), .val (.int ((0 : Int32) ||| x)), .val (.ref i), .val (.int (3 : Int32)), .val (.int (1 : Int32)), .val (.int x)] []))
  refine OGo.by_ (fun t k => XS.aloadN X1.here hx rfl (hb hby d_ini3_22) rfl rfl k) ?_
  show OGo p e below _ (T1.setTop (mkF m 23 #[.val (.ref a), .val (.ref i), .val (.int ((0 : Int32) ||| x)), .val (.ref i), .val (.int (3 : Int32)), .val (.int (1 : Int32)), .val (.int x)] [(.ref i)]))
  refine OGo.by_ (fun t k => XS.iload X1.here hx rfl (hb hby d_ini3_23) rfl k) ?_
  show OGo p e below _ (T1.setTop (mkF m 25 #[.val (.ref a), .val (.ref i), .val (.int ((0 : Int32) ||| x)), .val (.ref i), .val (.int (3 : Int32)), .val (.int (1 : Int32)), .val (.int x)] [(.int (1 : Int32)), (.ref i)]))
  obtain ⟨cl4, Ar4, q4, S4, Nn4, H4, G4⟩ := id V1
  have in4 := inb_of S4 ⟨(by decide : ¬ (1 : Int32) < 0), (by decide : (1 : Int32) < (3 : Int32))⟩
  refine OGo.by_ (fun t kk => X1.iaload hx (j := (1 : Int32)) (v := (.int y)) (by rw [e1]; exact Ar4.1) (State.isArrayOf_alike hZ.alike Ar4.2.1) Ar4.2.2 in4 (H4.at in4 (rfl)) (g := (mkF m 25 #[.val (.ref a), .val (.ref i), .val (.int ((0 : Int32) ||| x)), .val (.ref i), .val (.int (3 : Int32)), .val (.int (1 : Int32)), .val (.int x)] [(.int (1 : Int32)), (.ref i)])) rfl rfl (hb hby d_ini3_25) _ kk) ?_
  show OGo p e below _ (T1.setTop (mkF m 26 #[.val (.ref a), .val (.ref i), .val (.int ((0 : Int32) ||| x)), .val (.ref i), .val (.int (3 : Int32)), .val (.int (1 : Int32)), .val (.int x)] [(.int y)]))
  refine OGo.by_ (fun t k => XS.istore X1.here hx rfl (hb hby d_ini3_26) rfl (l' := #[.val (.ref a), .val (.ref i), .val (.int ((0 : Int32) ||| x)), .val (.ref i), .val (.int (3 : Int32)), .val (.int (1 : Int32)), .val (.int y)]) rfl k) ?_
  show OGo p e below _ (T1.setTop (mkF m 28 #[.val (.ref a), .val (.ref i), .val (.int ((0 : Int32) ||| x)), .val (.ref i), .val (.int (3 : Int32)), .val (.int (1 : Int32)), .val (.int y)] []))
  refine OGo.by_ (fun t k => XS.iloadN X1.here hx rfl (hb hby d_ini3_28) rfl k) ?_
  show OGo p e below _ (T1.setTop (mkF m 29 #[.val (.ref a), .val (.ref i), .val (.int ((0 : Int32) ||| x)), .val (.ref i), .val (.int (3 : Int32)), .val (.int (1 : Int32)), .val (.int y)] [(.int ((0 : Int32) ||| x))]))
  refine OGo.by_ (fun t k => XS.iload X1.here hx rfl (hb hby d_ini3_29) rfl k) ?_
  show OGo p e below _ (T1.setTop (mkF m 31 #[.val (.ref a), .val (.ref i), .val (.int ((0 : Int32) ||| x)), .val (.ref i), .val (.int (3 : Int32)), .val (.int (1 : Int32)), .val (.int y)] [(.int y), (.int ((0 : Int32) ||| x))]))
  refine OGo.by_ (fun t k => XS.ior X1.here hx rfl (hb hby d_ini3_31) rfl k) ?_
  show OGo p e below _ (T1.setTop (mkF m 32 #[.val (.ref a), .val (.ref i), .val (.int ((0 : Int32) ||| x)), .val (.ref i), .val (.int (3 : Int32)), .val (.int (1 : Int32)), .val (.int y)] [(.int (((0 : Int32) ||| x) ||| y))]))
  refine OGo.by_ (fun t k => XS.istoreN X1.here hx rfl (hb hby d_ini3_32) rfl (l' := #[.val (.ref a), .val (.ref i), .val (.int (((0 : Int32) ||| x) ||| y)), .val (.ref i), .val (.int (3 : Int32)), .val (.int (1 : Int32)), .val (.int y)]) rfl k) ?_
  show OGo p e below _ (T1.setTop (mkF m 33 #[.val (.ref a), .val (.ref i), .val (.int (((0 : Int32) ||| x) ||| y)), .val (.ref i), .val (.int (3 : Int32)), .val (.int (1 : Int32)), .val (.int y)] []))
  refine OGo.by_ (fun t k => XS.iinc X1.here hx rfl (hb hby d_ini3_33) rfl (l' := #[.val (.ref a), .val (.ref i), .val (.int (((0 : Int32) ||| x) ||| y)), .val (.ref i), .val (.int (3 : Int32)), .val (.int (2 : Int32)), .val (.int y)]) rfl k) ?_
  show OGo p e below _ (T1.setTop (mkF m 36 #[.val (.ref a), .val (.ref i), .val (.int (((0 : Int32) ||| x) ||| y)), .val (.ref i), .val (.int (3 : Int32)), .val (.int (2 : Int32)), .val (.int y)] []))
  refine OGo.by_ (fun t k => XS.goto X1.here hx rfl (pc0 := 36) (pc' := 15) rfl (hb hby d_ini3_36) (by decide) (by decide) k) ?_
  show OGo p e below _ (T1.setTop (mkF m 15 #[.val (.ref a), .val (.ref i), .val (.int (((0 : Int32) ||| x) ||| y)), .val (.ref i), .val (.int (3 : Int32)), .val (.int (2 : Int32)), .val (.int y)] []))
  refine OGo.by_ (fun t k => XS.iload X1.here hx rfl (hb hby d_ini3_15) rfl k) ?_
  show OGo p e below _ (T1.setTop (mkF m 17 #[.val (.ref a), .val (.ref i), .val (.int (((0 : Int32) ||| x) ||| y)), .val (.ref i), .val (.int (3 : Int32)), .val (.int (2 : Int32)), .val (.int y)] [(.int (2 : Int32))]))
  refine OGo.by_ (fun t k => XS.iload X1.here hx rfl (hb hby d_ini3_17) rfl k) ?_
  show OGo p e below _ (T1.setTop (mkF m 19 #[.val (.ref a), .val (.ref i), .val (.int (((0 : Int32) ||| x) ||| y)), .val (.ref i), .val (.int (3 : Int32)), .val (.int (2 : Int32)), .val (.int y)] [(.int (3 : Int32)), (.int (2 : Int32))]))
  refine OGo.by_ (fun t k => XS.icmpNo X1.here hx rfl (hb hby d_ini3_19) rfl (tlt (by decide)).2.1 k) ?_
  show OGo p e below _ (T1.setTop (mkF m 22 #[.val (.ref a), .val (.ref i), .val (.int (((0 : Int32) ||| x) ||| y)), .val (.ref i), .val (.int (3 : Int32)), .val (.int (2 : Int32)), .val (.int y)] []))
  refine OGo.by_ (fun t k => XS.aloadN X1.here hx rfl (hb hby d_ini3_22) rfl rfl k) ?_
  show OGo p e below _ (T1.setTop (mkF m 23 #[.val (.ref a), .val (.ref i), .val (.int (((0 : Int32) ||| x) ||| y)), .val (.ref i), .val (.int (3 : Int32)), .val (.int (2 : Int32)), .val (.int y)] [(.ref i)]))
  refine OGo.by_ (fun t k => XS.iload X1.here hx rfl (hb hby d_ini3_23) rfl k) ?_
  show OGo p e below _ (T1.setTop (mkF m 25 #[.val (.ref a), .val (.ref i), .val (.int (((0 : Int32) ||| x) ||| y)), .val (.ref i), .val (.int (3 : Int32)), .val (.int (2 : Int32)), .val (.int y)] [(.int (2 : Int32)), (.ref i)]))
  obtain ⟨cl5, Ar5, q5, S5, Nn5, H5, G5⟩ := id V1
  have in5 := inb_of S5 ⟨(by decide : ¬ (2 : Int32) < 0), (by decide : (2 : Int32) < (3 : Int32))⟩
  refine OGo.by_ (fun t kk => X1.iaload hx (j := (2 : Int32)) (v := (.int z)) (by rw [e1]; exact Ar5.1) (State.isArrayOf_alike hZ.alike Ar5.2.1) Ar5.2.2 in5 (H5.at in5 (rfl)) (g := (mkF m 25 #[.val (.ref a), .val (.ref i), .val (.int (((0 : Int32) ||| x) ||| y)), .val (.ref i), .val (.int (3 : Int32)), .val (.int (2 : Int32)), .val (.int y)] [(.int (2 : Int32)), (.ref i)])) rfl rfl (hb hby d_ini3_25) _ kk) ?_
  show OGo p e below _ (T1.setTop (mkF m 26 #[.val (.ref a), .val (.ref i), .val (.int (((0 : Int32) ||| x) ||| y)), .val (.ref i), .val (.int (3 : Int32)), .val (.int (2 : Int32)), .val (.int y)] [(.int z)]))
  refine OGo.by_ (fun t k => XS.istore X1.here hx rfl (hb hby d_ini3_26) rfl (l' := #[.val (.ref a), .val (.ref i), .val (.int (((0 : Int32) ||| x) ||| y)), .val (.ref i), .val (.int (3 : Int32)), .val (.int (2 : Int32)), .val (.int z)]) rfl k) ?_
  show OGo p e below _ (T1.setTop (mkF m 28 #[.val (.ref a), .val (.ref i), .val (.int (((0 : Int32) ||| x) ||| y)), .val (.ref i), .val (.int (3 : Int32)), .val (.int (2 : Int32)), .val (.int z)] []))
  refine OGo.by_ (fun t k => XS.iloadN X1.here hx rfl (hb hby d_ini3_28) rfl k) ?_
  show OGo p e below _ (T1.setTop (mkF m 29 #[.val (.ref a), .val (.ref i), .val (.int (((0 : Int32) ||| x) ||| y)), .val (.ref i), .val (.int (3 : Int32)), .val (.int (2 : Int32)), .val (.int z)] [(.int (((0 : Int32) ||| x) ||| y))]))
  refine OGo.by_ (fun t k => XS.iload X1.here hx rfl (hb hby d_ini3_29) rfl k) ?_
  show OGo p e below _ (T1.setTop (mkF m 31 #[.val (.ref a), .val (.ref i), .val (.int (((0 : Int32) ||| x) ||| y)), .val (.ref i), .val (.int (3 : Int32)), .val (.int (2 : Int32)), .val (.int z)] [(.int z), (.int (((0 : Int32) ||| x) ||| y))]))
  refine OGo.by_ (fun t k => XS.ior X1.here hx rfl (hb hby d_ini3_31) rfl k) ?_
  show OGo p e below _ (T1.setTop (mkF m 32 #[.val (.ref a), .val (.ref i), .val (.int (((0 : Int32) ||| x) ||| y)), .val (.ref i), .val (.int (3 : Int32)), .val (.int (2 : Int32)), .val (.int z)] [(.int ((((0 : Int32) ||| x) ||| y) ||| z))]))
  refine OGo.by_ (fun t k => XS.istoreN X1.here hx rfl (hb hby d_ini3_32) rfl (l' := #[.val (.ref a), .val (.ref i), .val (.int ((((0 : Int32) ||| x) ||| y) ||| z)), .val (.ref i), .val (.int (3 : Int32)), .val (.int (2 : Int32)), .val (.int z)]) rfl k) ?_
  show OGo p e below _ (T1.setTop (mkF m 33 #[.val (.ref a), .val (.ref i), .val (.int ((((0 : Int32) ||| x) ||| y) ||| z)), .val (.ref i), .val (.int (3 : Int32)), .val (.int (2 : Int32)), .val (.int z)] []))
  refine OGo.by_ (fun t k => XS.iinc X1.here hx rfl (hb hby d_ini3_33) rfl (l' := #[.val (.ref a), .val (.ref i), .val (.int ((((0 : Int32) ||| x) ||| y) ||| z)), .val (.ref i), .val (.int (3 : Int32)), .val (.int (3 : Int32)), .val (.int z)]) rfl k) ?_
  show OGo p e below _ (T1.setTop (mkF m 36 #[.val (.ref a), .val (.ref i), .val (.int ((((0 : Int32) ||| x) ||| y) ||| z)), .val (.ref i), .val (.int (3 : Int32)), .val (.int (3 : Int32)), .val (.int z)] []))
  refine OGo.by_ (fun t k => XS.goto X1.here hx rfl (pc0 := 36) (pc' := 15) rfl (hb hby d_ini3_36) (by decide) (by decide) k) ?_
  show OGo p e below _ (T1.setTop (mkF m 15 #[.val (.ref a), .val (.ref i), .val (.int ((((0 : Int32) ||| x) ||| y) ||| z)), .val (.ref i), .val (.int (3 : Int32)), .val (.int (3 : Int32)), .val (.int z)] []))
  refine OGo.by_ (fun t k => XS.iload X1.here hx rfl (hb hby d_ini3_15) rfl k) ?_
  show OGo p e below _ (T1.setTop (mkF m 17 #[.val (.ref a), .val (.ref i), .val (.int ((((0 : Int32) ||| x) ||| y) ||| z)), .val (.ref i), .val (.int (3 : Int32)), .val (.int (3 : Int32)), .val (.int z)] [(.int (3 : Int32))]))
  refine OGo.by_ (fun t k => XS.iload X1.here hx rfl (hb hby d_ini3_17) rfl k) ?_
  show OGo p e below _ (T1.setTop (mkF m 19 #[.val (.ref a), .val (.ref i), .val (.int ((((0 : Int32) ||| x) ||| y) ||| z)), .val (.ref i), .val (.int (3 : Int32)), .val (.int (3 : Int32)), .val (.int z)] [(.int (3 : Int32)), (.int (3 : Int32))]))
  refine OGo.by_ (fun t k => XS.icmpYes X1.here hx rfl (pc0 := 19) (pc' := 39) rfl (hb hby d_ini3_19) rfl (flt (by decide)).2.1 (by decide) (by decide) k) ?_
  show OGo p e below _ (T1.setTop (mkF m 39 #[.val (.ref a), .val (.ref i), .val (.int ((((0 : Int32) ||| x) ||| y) ||| z)), .val (.ref i), .val (.int (3 : Int32)), .val (.int (3 : Int32)), .val (.int z)] []))
  refine OGo.by_ (fun t k => XS.iloadN X1.here hx rfl (hb hby d_ini3_39) rfl k) ?_
  show OGo p e below _ (T1.setTop (mkF m 40 #[.val (.ref a), .val (.ref i), .val (.int ((((0 : Int32) ||| x) ||| y) ||| z)), .val (.ref i), .val (.int (3 : Int32)), .val (.int (3 : Int32)), .val (.int z)] [(.int ((((0 : Int32) ||| x) ||| y) ||| z))]))
  by_cases hc40 : ((((0 : Int32) ||| x) ||| y) ||| z) < (0 : Int32)
  · refine OGo.by_ (fun t k => XS.ifYes X1.here hx rfl (pc0 := 40) (pc' := 90) rfl (hb hby d_ini3_40) rfl ((if0 _ _).trans (tlt hc40).1) (by decide) (by decide) k) ?_
    show OGo p e below _ (T1.setTop (mkF m 90 #[.val (.ref a), .val (.ref i), .val (.int ((((0 : Int32) ||| x) ||| y) ||| z)), .val (.ref i), .val (.int (3 : Int32)), .val (.int (3 : Int32)), .val (.int z)] []))
    refine OGo.by_ (fun t k => XS.aloadN X1.here hx rfl (hb hby d_ini3_90) rfl rfl k) ?_
    show OGo p e below _ (T1.setTop (mkF m 91 #[.val (.ref a), .val (.ref i), .val (.int ((((0 : Int32) ||| x) ||| y) ||| z)), .val (.ref i), .val (.int (3 : Int32)), .val (.int (3 : Int32)), .val (.int z)] [(.ref a)]))
    refine OGo.by_ (fun t k => XS.aconstNull X1.here hx rfl (hb hby d_ini3_91) k) ?_
    show OGo p e below _ (T1.setTop (mkF m 92 #[.val (.ref a), .val (.ref i), .val (.int ((((0 : Int32) ||| x) ||| y) ||| z)), .val (.ref i), .val (.int (3 : Int32)), .val (.int (3 : Int32)), .val (.int z)] [.null, (.ref a)]))
    obtain ⟨T6, h6, X6, e6, W6, st6⟩ := putF X1 hx hZ hown (host := "") (Or.inl (hw _ (List.mem_of_getElem? (i := 15) rfl))) Via.refl e1 FS E0 (Or.inr ⟨(hw _ (List.mem_of_getElem? (i := 16) rfl)), rfl, hnm⟩) (hw _ (List.mem_of_getElem? (i := 6) rfl)) (ty := (.array .byte)) (by decide) rfl rfl (g := (mkF m 92 #[.val (.ref a), .val (.ref i), .val (.int ((((0 : Int32) ||| x) ||| y) ||| z)), .val (.ref i), .val (.int (3 : Int32)), .val (.int (3 : Int32)), .val (.int z)] [.null, (.ref a)])) rfl rfl (hb hby d_ini3_92)
    refine OGo.by_ st6 ?_
    show OGo p e below _ (T6.setTop (mkF m 95 #[.val (.ref a), .val (.ref i), .val (.int ((((0 : Int32) ||| x) ||| y) ||| z)), .val (.ref i), .val (.int (3 : Int32)), .val (.int (3 : Int32)), .val (.int z)] []))
    have N6 := Fr.snoc X6 N0 ga
    have E1 := E0.wr W6
    have FS1 := FS.same W6
    have FV1 := FV.other W6 (Or.inr (slot_ne (C := "com/example/fair_witness/fairwitness/model/State") (Or.inr (hw _ (List.mem_of_getElem? (i := 18) rfl))) (Or.inr (hw _ (List.mem_of_getElem? (i := 16) rfl))) (by decide) (t := (.array .int)) (t' := (.array .byte)) (by decide) (by decide)))
    have V1b := V1.other W6 hib
    have X1b := EI.wr W6
    refine OGo.by_ (fun t k => XS.aloadN X6.here hx rfl (hb hby d_ini3_95) rfl rfl k) ?_
    show OGo p e below _ (T6.setTop (mkF m 96 #[.val (.ref a), .val (.ref i), .val (.int ((((0 : Int32) ||| x) ||| y) ||| z)), .val (.ref i), .val (.int (3 : Int32)), .val (.int (3 : Int32)), .val (.int z)] [(.ref a)]))
    refine OGo.by_ (fun t k => XS.aloadN X6.here hx rfl (hb hby d_ini3_96) rfl rfl k) ?_
    show OGo p e below _ (T6.setTop (mkF m 97 #[.val (.ref a), .val (.ref i), .val (.int ((((0 : Int32) ||| x) ||| y) ||| z)), .val (.ref i), .val (.int (3 : Int32)), .val (.int (3 : Int32)), .val (.int z)] [(.ref i), (.ref a)]))
    obtain ⟨T7, h7, X7, e7, E7, Va7, Ea7, st7⟩ := cloneH X6 hx hZ hown (hw _ (List.mem_of_getElem? (i := 27) rfl)) (hw _ (List.mem_of_getElem? (i := 28) rfl)) (hw _ (List.mem_of_getElem? (i := 32) rfl)) (hw _ (List.mem_of_getElem? (i := 30) rfl)) (hw _ (List.mem_of_getElem? (i := 31) rfl)) (hw _ (List.mem_of_getElem? (i := 33) rfl)) e6 (Arv.arh V1b) X1b (g := (mkF m 97 #[.val (.ref a), .val (.ref i), .val (.int ((((0 : Int32) ||| x) ||| y) ||| z)), .val (.ref i), .val (.int (3 : Int32)), .val (.int (3 : Int32)), .val (.int z)] [(.ref i), (.ref a)])) rfl (by rw [hml]; rfl) rfl (hb hby d_ini3_97) (by decide) (W := 1) (by show 2 * 0 + _ ≤ _; exact Nat.le_of_eq rfl) (by decide) (cap := 3) (by decide) (by decide) (by decide)
    obtain ⟨b, g_b⟩ : ∃ z, z = h6.size := ⟨_, rfl⟩
    rw [← g_b] at Va7 Ea7 st7
    refine OGo.by_ st7 ?_
    show OGo p e below _ (T7.setTop (mkF m 100 #[.val (.ref a), .val (.ref i), .val (.int ((((0 : Int32) ||| x) ||| y) ||| z)), .val (.ref i), .val (.int (3 : Int32)), .val (.int (3 : Int32)), .val (.int z)] [(.ref b), (.ref a)]))
    obtain ⟨T8, X8, e8, st8⟩ := castY X7 hx hZ hown (hw _ (List.mem_of_getElem? (i := 34) rfl)) e7 (Ins.self Ea7) (g := (mkF m 100 #[.val (.ref a), .val (.ref i), .val (.int ((((0 : Int32) ||| x) ||| y) ||| z)), .val (.ref i), .val (.int (3 : Int32)), .val (.int (3 : Int32)), .val (.int z)] [(.ref b), (.ref a)])) rfl rfl (hb hby d_ini3_100)
    refine OGo.by_ st8 ?_
    show OGo p e below _ (T8.setTop (mkF m 103 #[.val (.ref a), .val (.ref i), .val (.int ((((0 : Int32) ||| x) ||| y) ||| z)), .val (.ref i), .val (.int (3 : Int32)), .val (.int (3 : Int32)), .val (.int z)] [(.ref b), (.ref a)]))
    have lta : h6.size > a := E1.lt
    have hab : b ≠ a := own_ne' (by omega)
    obtain ⟨T9, h9, X9, e9, W9, st9⟩ := putF X8 hx hZ hown (host := "") (Or.inl (hw _ (List.mem_of_getElem? (i := 17) rfl))) Via.refl e8 (FV1.ext E7) (E1.ext E7) (Or.inr ⟨(hw _ (List.mem_of_getElem? (i := 18) rfl)), rfl, hnm⟩) (hw _ (List.mem_of_getElem? (i := 6) rfl)) (ty := (.array .int)) (by decide) rfl rfl (g := (mkF m 103 #[.val (.ref a), .val (.ref i), .val (.int ((((0 : Int32) ||| x) ||| y) ||| z)), .val (.ref i), .val (.int (3 : Int32)), .val (.int (3 : Int32)), .val (.int z)] [(.ref b), (.ref a)])) rfl rfl (hb hby d_ini3_103)
    refine OGo.by_ st9 ?_
    show OGo p e below _ (T9.setTop (mkF m 106 #[.val (.ref a), .val (.ref i), .val (.int ((((0 : Int32) ||| x) ||| y) ||| z)), .val (.ref i), .val (.int (3 : Int32)), .val (.int (3 : Int32)), .val (.int z)] []))
    have N9 := Fr.snoc X9 N6 ga
    have KK : Keep h0 h9 [a] := (((Keep.refl h0 [a]).wr W6 (Or.inl (List.mem_singleton.mpr rfl))).ext E7).wr W9 (Or.inl (List.mem_singleton.mpr rfl))
    have hsz := W6.size
    have Vc : Arv Z h9 b ki .int (3 : Int32) ([x, y, z].map .int) (.int (0 : Int32)) := Arv.other (show Arv Z h7 b ki .int (3 : Int32) [(.int x), (.int y), (.int z)] (.int (0 : Int32)) from Va7) W9 hab
    exact own_ret X9 hx hlk hret (hb hby d_ini3_106) (by decide) (by decide) (by rw [e9]; exact ⟨rfl, N9, KK, b, by omega, (E1.ext E7).wr W9, Or.inr ⟨(FS1.ext E7).other W9 (Or.inr (slot_ne (C := "com/example/fair_witness/fairwitness/model/State") (Or.inr (hw _ (List.mem_of_getElem? (i := 16) rfl))) (Or.inr (hw _ (List.mem_of_getElem? (i := 18) rfl))) (by decide) (t := (.array .byte)) (t' := (.array .int)) (by decide) (by decide))), (FV1.ext E7).same W9, Ea7.wr W9, ki, Vc⟩⟩)
  · refine OGo.by_ (fun t k => XS.ifNo X1.here hx rfl (hb hby d_ini3_40) rfl ((if0 _ _).trans (flt hc40).1) k) ?_
    show OGo p e below _ (T1.setTop (mkF m 43 #[.val (.ref a), .val (.ref i), .val (.int ((((0 : Int32) ||| x) ||| y) ||| z)), .val (.ref i), .val (.int (3 : Int32)), .val (.int (3 : Int32)), .val (.int z)] []))
    refine OGo.by_ (fun t k => XS.iloadN X1.here hx rfl (hb hby d_ini3_43) rfl k) ?_
    show OGo p e below _ (T1.setTop (mkF m 44 #[.val (.ref a), .val (.ref i), .val (.int ((((0 : Int32) ||| x) ||| y) ||| z)), .val (.ref i), .val (.int (3 : Int32)), .val (.int (3 : Int32)), .val (.int z)] [(.int ((((0 : Int32) ||| x) ||| y) ||| z))]))
    refine OGo.by_ (fun t k => XS.sipush X1.here hx rfl (hb hby d_ini3_44) k) ?_
    show OGo p e below _ (T1.setTop (mkF m 47 #[.val (.ref a), .val (.ref i), .val (.int ((((0 : Int32) ||| x) ||| y) ||| z)), .val (.ref i), .val (.int (3 : Int32)), .val (.int (3 : Int32)), .val (.int z)] [(.int (256 : Int32)), (.int ((((0 : Int32) ||| x) ||| y) ||| z))]))
    by_cases hc47 : ((((0 : Int32) ||| x) ||| y) ||| z) < (256 : Int32)
    · refine OGo.by_ (fun t k => XS.icmpNo X1.here hx rfl (hb hby d_ini3_47) rfl (tlt hc47).2.1 k) ?_
      show OGo p e below _ (T1.setTop (mkF m 50 #[.val (.ref a), .val (.ref i), .val (.int ((((0 : Int32) ||| x) ||| y) ||| z)), .val (.ref i), .val (.int (3 : Int32)), .val (.int (3 : Int32)), .val (.int z)] []))
      refine OGo.by_ (fun t k => XS.aloadN X1.here hx rfl (hb hby d_ini3_50) rfl rfl k) ?_
      show OGo p e below _ (T1.setTop (mkF m 51 #[.val (.ref a), .val (.ref i), .val (.int ((((0 : Int32) ||| x) ||| y) ||| z)), .val (.ref i), .val (.int (3 : Int32)), .val (.int (3 : Int32)), .val (.int z)] [(.ref a)]))
      refine OGo.by_ (fun t k => XS.aloadN X1.here hx rfl (hb hby d_ini3_51) rfl rfl k) ?_
      show OGo p e below _ (T1.setTop (mkF m 52 #[.val (.ref a), .val (.ref i), .val (.int ((((0 : Int32) ||| x) ||| y) ||| z)), .val (.ref i), .val (.int (3 : Int32)), .val (.int (3 : Int32)), .val (.int z)] [(.ref i), (.ref a)]))
      obtain ⟨cl10, Ar10, q10, S10, Nn10, H10, G10⟩ := id V1
      refine OGo.by_ (X1.arraylength hx (by rw [e1]; exact Ar10.1) (State.isArrayOf_alike hZ.alike Ar10.2.1) (g := (mkF m 52 #[.val (.ref a), .val (.ref i), .val (.int ((((0 : Int32) ||| x) ||| y) ||| z)), .val (.ref i), .val (.int (3 : Int32)), .val (.int (3 : Int32)), .val (.int z)] [(.ref i), (.ref a)])) rfl rfl (hb hby d_ini3_52)) ?_
      rw [len_of S10 Nn10]
      show OGo p e below _ (T1.setTop (mkF m 53 #[.val (.ref a), .val (.ref i), .val (.int ((((0 : Int32) ||| x) ||| y) ||| z)), .val (.ref i), .val (.int (3 : Int32)), .val (.int (3 : Int32)), .val (.int z)] [(.int (3 : Int32)), (.ref a)]))
      obtain ⟨T11, h11, k11, X11, e11, E11, A11, st11⟩ := newP X1 hx hZ (hw _ (List.mem_of_getElem? (i := 14) rfl)) e1 (g := (mkF m 53 #[.val (.ref a), .val (.ref i), .val (.int ((((0 : Int32) ||| x) ||| y) ||| z)), .val (.ref i), .val (.int (3 : Int32)), .val (.int (3 : Int32)), .val (.int z)] [(.int (3 : Int32)), (.ref a)])) rfl (hb hby d_ini3_53) rfl (by decide) (cap := 3) (by decide) (by decide) (by decide) (by decide)
      obtain ⟨b, g_b⟩ : ∃ z, z = h0.size := ⟨_, rfl⟩
      rw [← g_b] at A11 st11
      have V_b := Arv.new A11 (by decide)
      have lt_b := own_lt V_b.lt
      refine OGo.by_ st11 ?_
      show OGo p e below _ (T11.setTop (mkF m 55 #[.val (.ref a), .val (.ref i), .val (.int ((((0 : Int32) ||| x) ||| y) ||| z)), .val (.ref i), .val (.int (3 : Int32)), .val (.int (3 : Int32)), .val (.int z)] [(.ref b), (.ref a)]))
      have lta : h0.size > a := E0.lt
      have lti : h0.size > i := V1.lt
      have hab : a ≠ b := own_ne (by omega)
      have hibb : i ≠ b := own_ne (by omega)
      have gb : n0 ≤ b := by omega
      obtain ⟨T12, h12, X12, e12, W12, st12⟩ := putF X11 hx hZ hown (host := "") (Or.inl (hw _ (List.mem_of_getElem? (i := 15) rfl))) Via.refl e11 (FS.ext E11) (E0.ext E11) (Or.inr ⟨(hw _ (List.mem_of_getElem? (i := 16) rfl)), rfl, hnm⟩) (hw _ (List.mem_of_getElem? (i := 6) rfl)) (ty := (.array .byte)) (by decide) rfl rfl (g := (mkF m 55 #[.val (.ref a), .val (.ref i), .val (.int ((((0 : Int32) ||| x) ||| y) ||| z)), .val (.ref i), .val (.int (3 : Int32)), .val (.int (3 : Int32)), .val (.int z)] [(.ref b), (.ref a)])) rfl rfl (hb hby d_ini3_55)
      refine OGo.by_ st12 ?_
      show OGo p e below _ (T12.setTop (mkF m 58 #[.val (.ref a), .val (.ref i), .val (.int ((((0 : Int32) ||| x) ||| y) ||| z)), .val (.ref i), .val (.int (3 : Int32)), .val (.int (3 : Int32)), .val (.int z)] []))
      have N12 := Fr.snoc X12 N0 ga
      have E1 := (E0.ext E11).wr W12
      have FS1 := (FS.ext E11).same W12
      have FV1 := (FV.ext E11).other W12 (Or.inr (slot_ne (C := "com/example/fair_witness/fairwitness/model/State") (Or.inr (hw _ (List.mem_of_getElem? (i := 18) rfl))) (Or.inr (hw _ (List.mem_of_getElem? (i := 16) rfl))) (by decide) (t := (.array .int)) (t' := (.array .byte)) (by decide) (by decide)))
      have U0 := V_b.other W12 hab.symm
      have I0 := (V1.ext E11).other W12 hib
      have K0_ : Keep h0 h12 [a] := ((Keep.refl h0 [a]).ext E11).wr W12 (Or.inl (List.mem_singleton.mpr rfl))
      have U0' : Arv Z h12 b k11 .byte (3 : Int32) [(.int (0 : Int32)), (.int (0 : Int32)), (.int (0 : Int32))] (.int (0 : Int32)) := U0.pad (pad_rep [] _ 3)
      refine OGo.by_ (fun t k => XS.iconst X12.here hx rfl (hb hby d_ini3_58) k) ?_
      show OGo p e below _ (T12.setTop (mkF m 59 #[.val (.ref a), .val (.ref i), .val (.int ((((0 : Int32) ||| x) ||| y) ||| z)), .val (.ref i), .val (.int (3 : Int32)), .val (.int (3 : Int32)), .val (.int z)] [(.int (0 : Int32))]))
      refine OGo.by_ (fun t k => XS.istoreN X12.here hx rfl (hb hby d_ini3_59) rfl (l' := #[.val (.ref a), .val (.ref i), .val (.int ((((0 : Int32) ||| x) ||| y) ||| z)), .val (.int (0 : Int32)), .val (.int (3 : Int32)), .val (.int (3 : Int32)), .val (.int z)]) rfl k) ?_
      show OGo p e below _ (T12.setTop (mkF m 60 #[.val (.ref a), .val (.ref i), .val (.int ((((0 : Int32) ||| x) ||| y) ||| z)), .val (.int (0 : Int32)), .val (.int (3 : Int32)), .val (.int (3 : Int32)), .val (.int z)] []))
      refine OGo.by_ (fun t k => XS.iloadN X12.here hx rfl (hb hby d_ini3_60) rfl k) ?_
      show OGo p e below _ (T12.setTop (mkF m 61 #[.val (.ref a), .val (.ref i), .val (.int ((((0 : Int32) ||| x) ||| y) ||| z)), .val (.int (0 : Int32)), .val (.int (3 : Int32)), .val (.int (3 : Int32)), .val (.int z)] [(.int (0 : Int32))]))
      refine OGo.by_ (fun t k => XS.aloadN X12.here hx rfl (hb hby d_ini3_61) rfl rfl k) ?_
      show OGo p e below _ (T12.setTop (mkF m 62 #[.val (.ref a), .val (.ref i), .val (.int ((((0 : Int32) ||| x) ||| y) ||| z)), .val (.int (0 : Int32)), .val (.int (3 : Int32)), .val (.int (3 : Int32)), .val (.int z)] [(.ref i), (.int (0 : Int32))]))
      obtain ⟨cl13, Ar13, q13, S13, Nn13, H13, G13⟩ := id I0
      refine OGo.by_ (X12.arraylength hx (by rw [e12]; exact Ar13.1) (State.isArrayOf_alike hZ.alike Ar13.2.1) (g := (mkF m 62 #[.val (.ref a), .val (.ref i), .val (.int ((((0 : Int32) ||| x) ||| y) ||| z)), .val (.int (0 : Int32)), .val (.int (3 : Int32)), .val (.int (3 : Int32)), .val (.int z)] [(.ref i), (.int (0 : Int32))])) rfl rfl (hb hby d_ini3_62)) ?_
      rw [len_of S13 Nn13]
      show OGo p e below _ (T12.setTop (mkF m 63 #[.val (.ref a), .val (.ref i), .val (.int ((((0 : Int32) ||| x) ||| y) ||| z)), .val (.int (0 : Int32)), .val (.int (3 : Int32)), .val (.int (3 : Int32)), .val (.int z)] [(.int (3 : Int32)), (.int (0 : Int32))]))
      refine OGo.by_ (fun t k => XS.icmpNo X12.here hx rfl (hb hby d_ini3_63) rfl (tlt (by decide)).2.1 k) ?_
      show OGo p e below _ (T12.setTop (mkF m 66 #[.val (.ref a), .val (.ref i), .val (.int ((((0 : Int32) ||| x) ||| y) ||| z)), .val (.int (0 : Int32)), .val (.int (3 : Int32)), .val (.int (3 : Int32)), .val (.int z)] []))
      refine OGo.by_ (fun t k => XS.aloadN X12.here hx rfl (hb hby d_ini3_66) rfl rfl k) ?_
      show OGo p e below _ (T12.setTop (mkF m 67 #[.val (.ref a), .val (.ref i), .val (.int ((((0 : Int32) ||| x) ||| y) ||| z)), .val (.int (0 : Int32)), .val (.int (3 : Int32)), .val (.int (3 : Int32)), .val (.int z)] [(.ref a)]))
      obtain ⟨T14, X14, e14, st14⟩ := getF X12 hx hZ hown (host := "") (Or.inl (hw _ (List.mem_of_getElem? (i := 15) rfl))) Via.refl e12 FS1 (g := (mkF m 67 #[.val (.ref a), .val (.ref i), .val (.int ((((0 : Int32) ||| x) ||| y) ||| z)), .val (.int (0 : Int32)), .val (.int (3 : Int32)), .val (.int (3 : Int32)), .val (.int z)] [(.ref a)])) rfl rfl (hb hby d_ini3_67)
      refine OGo.by_ st14 ?_
      show OGo p e below _ (T14.setTop (mkF m 70 #[.val (.ref a), .val (.ref i), .val (.int ((((0 : Int32) ||| x) ||| y) ||| z)), .val (.int (0 : Int32)), .val (.int (3 : Int32)), .val (.int (3 : Int32)), .val (.int z)] [(.ref b)]))
      refine OGo.by_ (fun t k => XS.iloadN X14.here hx rfl (hb hby d_ini3_70) rfl k) ?_
      show OGo p e below _ (T14.setTop (mkF m 71 #[.val (.ref a), .val (.ref i), .val (.int ((((0 : Int32) ||| x) ||| y) ||| z)), .val (.int (0 : Int32)), .val (.int (3 : Int32)), .val (.int (3 : Int32)), .val (.int z)] [(.int (0 : Int32)), (.ref b)]))
      refine OGo.by_ (fun t k => XS.aloadN X14.here hx rfl (hb hby d_ini3_71) rfl rfl k) ?_
      show OGo p e below _ (T14.setTop (mkF m 72 #[.val (.ref a), .val (.ref i), .val (.int ((((0 : Int32) ||| x) ||| y) ||| z)), .val (.int (0 : Int32)), .val (.int (3 : Int32)), .val (.int (3 : Int32)), .val (.int z)] [(.ref i), (.int (0 : Int32)), (.ref b)]))
      refine OGo.by_ (fun t k => XS.iloadN X14.here hx rfl (hb hby d_ini3_72) rfl k) ?_
      show OGo p e below _ (T14.setTop (mkF m 73 #[.val (.ref a), .val (.ref i), .val (.int ((((0 : Int32) ||| x) ||| y) ||| z)), .val (.int (0 : Int32)), .val (.int (3 : Int32)), .val (.int (3 : Int32)), .val (.int z)] [(.int (0 : Int32)), (.ref i), (.int (0 : Int32)), (.ref b)]))
      obtain ⟨cl15, Ar15, q15, S15, Nn15, H15, G15⟩ := id I0
      have in15 := inb_of S15 ⟨(by decide : ¬ (0 : Int32) < 0), (by decide : (0 : Int32) < (3 : Int32))⟩
      refine OGo.by_ (fun t kk => X14.iaload hx (j := (0 : Int32)) (v := (.int x)) (by rw [e14]; exact Ar15.1) (State.isArrayOf_alike hZ.alike Ar15.2.1) Ar15.2.2 in15 (H15.at in15 (rfl)) (g := (mkF m 73 #[.val (.ref a), .val (.ref i), .val (.int ((((0 : Int32) ||| x) ||| y) ||| z)), .val (.int (0 : Int32)), .val (.int (3 : Int32)), .val (.int (3 : Int32)), .val (.int z)] [(.int (0 : Int32)), (.ref i), (.int (0 : Int32)), (.ref b)])) rfl rfl (hb hby d_ini3_73) _ kk) ?_
      show OGo p e below _ (T14.setTop (mkF m 74 #[.val (.ref a), .val (.ref i), .val (.int ((((0 : Int32) ||| x) ||| y) ||| z)), .val (.int (0 : Int32)), .val (.int (3 : Int32)), .val (.int (3 : Int32)), .val (.int z)] [(.int x), (.int (0 : Int32)), (.ref b)]))
      refine OGo.by_ (fun t k => XS.i2b X14.here hx rfl (hb hby d_ini3_74) rfl k) ?_
      show OGo p e below _ (T14.setTop (mkF m 75 #[.val (.ref a), .val (.ref i), .val (.int ((((0 : Int32) ||| x) ||| y) ||| z)), .val (.int (0 : Int32)), .val (.int (3 : Int32)), .val (.int (3 : Int32)), .val (.int z)] [(.int (x.toInt8.toInt32)), (.int (0 : Int32)), (.ref b)]))
      obtain ⟨cl16, Ar16, q16, S16, Nn16, H16, G16⟩ := id U0'
      obtain ⟨T17, h17, X17, e17, W17, st17⟩ := stB X14 hx hZ e14 Ar16 (j := (0 : Int32)) (inb_of S16 ⟨(by decide : ¬ (0 : Int32) < 0), (by decide : (0 : Int32) < (3 : Int32))⟩) (g := (mkF m 75 #[.val (.ref a), .val (.ref i), .val (.int ((((0 : Int32) ||| x) ||| y) ||| z)), .val (.int (0 : Int32)), .val (.int (3 : Int32)), .val (.int (3 : Int32)), .val (.int z)] [(.int (x.toInt8.toInt32)), (.int (0 : Int32)), (.ref b)])) rfl rfl (hb hby d_ini3_75)
      refine OGo.by_ st17 ?_
      show OGo p e below _ (T17.setTop (mkF m 76 #[.val (.ref a), .val (.ref i), .val (.int ((((0 : Int32) ||| x) ||| y) ||| z)), .val (.int (0 : Int32)), .val (.int (3 : Int32)), .val (.int (3 : Int32)), .val (.int z)] []))
      have N17 := Fr.snoc X17 N12 gb
      rw [own_nb8] at W17
      have U1 := Arv.set Ar16 q16 S16 Nn16 H16 G16 (fits_nar_byte _) W17 0 (by decide) (Nat.le_of_ble_eq_true rfl)
      have E0_ := E1.wr W17
      have FS0_ := FS1.other W17 (Or.inl hab)
      have FV0_ := FV1.other W17 (Or.inl hab)
      have I0_ := I0.other W17 hibb
      have K0_' := Keep.wr K0_ W17 (Or.inr (Nat.le_of_eq g_b.symm))
      refine OGo.by_ (fun t k => XS.iinc X17.here hx rfl (hb hby d_ini3_76) rfl (l' := #[.val (.ref a), .val (.ref i), .val (.int ((((0 : Int32) ||| x) ||| y) ||| z)), .val (.int (1 : Int32)), .val (.int (3 : Int32)), .val (.int (3 : Int32)), .val (.int z)]) rfl k) ?_
      show OGo p e below _ (T17.setTop (mkF m 79 #[.val (.ref a), .val (.ref i), .val (.int ((((0 : Int32) ||| x) ||| y) ||| z)), .val (.int (1 : Int32)), .val (.int (3 : Int32)), .val (.int (3 : Int32)), .val (.int z)] []))
      refine OGo.by_ (fun t k => XS.goto X17.here hx rfl (pc0 := 79) (pc' := 60) rfl (hb hby d_ini3_79) (by decide) (by decide) k) ?_
      show OGo p e below _ (T17.setTop (mkF m 60 #[.val (.ref a), .val (.ref i), .val (.int ((((0 : Int32) ||| x) ||| y) ||| z)), .val (.int (1 : Int32)), .val (.int (3 : Int32)), .val (.int (3 : Int32)), .val (.int z)] []))
      refine OGo.by_ (fun t k => XS.iloadN X17.here hx rfl (hb hby d_ini3_60) rfl k) ?_
      show OGo p e below _ (T17.setTop (mkF m 61 #[.val (.ref a), .val (.ref i), .val (.int ((((0 : Int32) ||| x) ||| y) ||| z)), .val (.int (1 : Int32)), .val (.int (3 : Int32)), .val (.int (3 : Int32)), .val (.int z)] [(.int (1 : Int32))]))
      refine OGo.by_ (fun t k => XS.aloadN X17.here hx rfl (hb hby d_ini3_61) rfl rfl k) ?_
      show OGo p e below _ (T17.setTop (mkF m 62 #[.val (.ref a), .val (.ref i), .val (.int ((((0 : Int32) ||| x) ||| y) ||| z)), .val (.int (1 : Int32)), .val (.int (3 : Int32)), .val (.int (3 : Int32)), .val (.int z)] [(.ref i), (.int (1 : Int32))]))
      obtain ⟨cl18, Ar18, q18, S18, Nn18, H18, G18⟩ := id I0_
      refine OGo.by_ (X17.arraylength hx (by rw [e17]; exact Ar18.1) (State.isArrayOf_alike hZ.alike Ar18.2.1) (g := (mkF m 62 #[.val (.ref a), .val (.ref i), .val (.int ((((0 : Int32) ||| x) ||| y) ||| z)), .val (.int (1 : Int32)), .val (.int (3 : Int32)), .val (.int (3 : Int32)), .val (.int z)] [(.ref i), (.int (1 : Int32))])) rfl rfl (hb hby d_ini3_62)) ?_
      rw [len_of S18 Nn18]
      show OGo p e below _ (T17.setTop (mkF m 63 #[.val (.ref a), .val (.ref i), .val (.int ((((0 : Int32) ||| x) ||| y) ||| z)), .val (.int (1 : Int32)), .val (.int (3 : Int32)), .val (.int (3 : Int32)), .val (.int z)] [(.int (3 : Int32)), (.int (1 : Int32))]))
      refine OGo.by_ (fun t k => XS.icmpNo X17.here hx rfl (hb hby d_ini3_63) rfl (tlt (by decide)).2.1 k) ?_
      show OGo p e below _ (T17.setTop (mkF m 66 #[.val (.ref a), .val (.ref i), .val (.int ((((0 : Int32) ||| x) ||| y) ||| z)), .val (.int (1 : Int32)), .val (.int (3 : Int32)), .val (.int (3 : Int32)), .val (.int z)] []))
      refine OGo.by_ (fun t k => XS.aloadN X17.here hx rfl (hb hby d_ini3_66) rfl rfl k) ?_
      show OGo p e below _ (T17.setTop (mkF m 67 #[.val (.ref a), .val (.ref i), .val (.int ((((0 : Int32) ||| x) ||| y) ||| z)), .val (.int (1 : Int32)), .val (.int (3 : Int32)), .val (.int (3 : Int32)), .val (.int z)] [(.ref a)]))
      obtain ⟨T19, X19, e19, st19⟩ := getF X17 hx hZ hown (host := "") (Or.inl (hw _ (List.mem_of_getElem? (i := 15) rfl))) Via.refl e17 FS0_ (g := (mkF m 67 #[.val (.ref a), .val (.ref i), .val (.int ((((0 : Int32) ||| x) ||| y) ||| z)), .val (.int (1 : Int32)), .val (.int (3 : Int32)), .val (.int (3 : Int32)), .val (.int z)] [(.ref a)])) rfl rfl (hb hby d_ini3_67)
      refine OGo.by_ st19 ?_
      show OGo p e below _ (T19.setTop (mkF m 70 #[.val (.ref a), .val (.ref i), .val (.int ((((0 : Int32) ||| x) ||| y) ||| z)), .val (.int (1 : Int32)), .val (.int (3 : Int32)), .val (.int (3 : Int32)), .val (.int z)] [(.ref b)]))
      refine OGo.by_ (fun t k => XS.iloadN X19.here hx rfl (hb hby d_ini3_70) rfl k) ?_
      show OGo p e below _ (T19.setTop (mkF m 71 #[.val (.ref a), .val (.ref i), .val (.int ((((0 : Int32) ||| x) ||| y) ||| z)), .val (.int (1 : Int32)), .val (.int (3 : Int32)), .val (.int (3 : Int32)), .val (.int z)] [(.int (1 : Int32)), (.ref b)]))
      refine OGo.by_ (fun t k => XS.aloadN X19.here hx rfl (hb hby d_ini3_71) rfl rfl k) ?_
      show OGo p e below _ (T19.setTop (mkF m 72 #[.val (.ref a), .val (.ref i), .val (.int ((((0 : Int32) ||| x) ||| y) ||| z)), .val (.int (1 : Int32)), .val (.int (3 : Int32)), .val (.int (3 : Int32)), .val (.int z)] [(.ref i), (.int (1 : Int32)), (.ref b)]))
      refine OGo.by_ (fun t k => XS.iloadN X19.here hx rfl (hb hby d_ini3_72) rfl k) ?_
      show OGo p e below _ (T19.setTop (mkF m 73 #[.val (.ref a), .val (.ref i), .val (.int ((((0 : Int32) ||| x) ||| y) ||| z)), .val (.int (1 : Int32)), .val (.int (3 : Int32)), .val (.int (3 : Int32)), .val (.int z)] [(.int (1 : Int32)), (.ref i), (.int (1 : Int32)), (.ref b)]))
      obtain ⟨cl20, Ar20, q20, S20, Nn20, H20, G20⟩ := id I0_
      have in20 := inb_of S20 ⟨(by decide : ¬ (1 : Int32) < 0), (by decide : (1 : Int32) < (3 : Int32))⟩
      refine OGo.by_ (fun t kk => X19.iaload hx (j := (1 : Int32)) (v := (.int y)) (by rw [e19]; exact Ar20.1) (State.isArrayOf_alike hZ.alike Ar20.2.1) Ar20.2.2 in20 (H20.at in20 (rfl)) (g := (mkF m 73 #[.val (.ref a), .val (.ref i), .val (.int ((((0 : Int32) ||| x) ||| y) ||| z)), .val (.int (1 : Int32)), .val (.int (3 : Int32)), .val (.int (3 : Int32)), .val (.int z)] [(.int (1 : Int32)), (.ref i), (.int (1 : Int32)), (.ref b)])) rfl rfl (hb hby d_ini3_73) _ kk) ?_
      show OGo p e below _ (T19.setTop (mkF m 74 #[.val (.ref a), .val (.ref i), .val (.int ((((0 : Int32) ||| x) ||| y) ||| z)), .val (.int (1 : Int32)), .val (.int (3 : Int32)), .val (.int (3 : Int32)), .val (.int z)] [(.int y), (.int (1 : Int32)), (.ref b)]))
      refine OGo.by_ (fun t k => XS.i2b X19.here hx rfl (hb hby d_ini3_74) rfl k) ?_
      show OGo p e below _ (T19.setTop (mkF m 75 #[.val (.ref a), .val (.ref i), .val (.int ((((0 : Int32) ||| x) ||| y) ||| z)), .val (.int (1 : Int32)), .val (.int (3 : Int32)), .val (.int (3 : Int32)), .val (.int z)] [(.int (y.toInt8.toInt32)), (.int (1 : Int32)), (.ref b)]))
      obtain ⟨cl21, Ar21, q21, S21, Nn21, H21, G21⟩ := id U1
      obtain ⟨T22, h22, X22, e22, W22, st22⟩ := stB X19 hx hZ e19 Ar21 (j := (1 : Int32)) (inb_of S21 ⟨(by decide : ¬ (1 : Int32) < 0), (by decide : (1 : Int32) < (3 : Int32))⟩) (g := (mkF m 75 #[.val (.ref a), .val (.ref i), .val (.int ((((0 : Int32) ||| x) ||| y) ||| z)), .val (.int (1 : Int32)), .val (.int (3 : Int32)), .val (.int (3 : Int32)), .val (.int z)] [(.int (y.toInt8.toInt32)), (.int (1 : Int32)), (.ref b)])) rfl rfl (hb hby d_ini3_75)
      refine OGo.by_ st22 ?_
      show OGo p e below _ (T22.setTop (mkF m 76 #[.val (.ref a), .val (.ref i), .val (.int ((((0 : Int32) ||| x) ||| y) ||| z)), .val (.int (1 : Int32)), .val (.int (3 : Int32)), .val (.int (3 : Int32)), .val (.int z)] []))
      have N22 := Fr.snoc X22 N17 gb
      rw [own_nb8] at W22
      have U2 := Arv.set Ar21 q21 S21 Nn21 H21 G21 (fits_nar_byte _) W22 1 (by decide) (Nat.le_of_ble_eq_true rfl)
      have E1_ := E0_.wr W22
      have FS1_ := FS0_.other W22 (Or.inl hab)
      have FV1_ := FV0_.other W22 (Or.inl hab)
      have I1_ := I0_.other W22 hibb
      have K1_' := Keep.wr K0_' W22 (Or.inr (Nat.le_of_eq g_b.symm))
      refine OGo.by_ (fun t k => XS.iinc X22.here hx rfl (hb hby d_ini3_76) rfl (l' := #[.val (.ref a), .val (.ref i), .val (.int ((((0 : Int32) ||| x) ||| y) ||| z)), .val (.int (2 : Int32)), .val (.int (3 : Int32)), .val (.int (3 : Int32)), .val (.int z)]) rfl k) ?_
      show OGo p e below _ (T22.setTop (mkF m 79 #[.val (.ref a), .val (.ref i), .val (.int ((((0 : Int32) ||| x) ||| y) ||| z)), .val (.int (2 : Int32)), .val (.int (3 : Int32)), .val (.int (3 : Int32)), .val (.int z)] []))
      refine OGo.by_ (fun t k => XS.goto X22.here hx rfl (pc0 := 79) (pc' := 60) rfl (hb hby d_ini3_79) (by decide) (by decide) k) ?_
      show OGo p e below _ (T22.setTop (mkF m 60 #[.val (.ref a), .val (.ref i), .val (.int ((((0 : Int32) ||| x) ||| y) ||| z)), .val (.int (2 : Int32)), .val (.int (3 : Int32)), .val (.int (3 : Int32)), .val (.int z)] []))
      refine OGo.by_ (fun t k => XS.iloadN X22.here hx rfl (hb hby d_ini3_60) rfl k) ?_
      show OGo p e below _ (T22.setTop (mkF m 61 #[.val (.ref a), .val (.ref i), .val (.int ((((0 : Int32) ||| x) ||| y) ||| z)), .val (.int (2 : Int32)), .val (.int (3 : Int32)), .val (.int (3 : Int32)), .val (.int z)] [(.int (2 : Int32))]))
      refine OGo.by_ (fun t k => XS.aloadN X22.here hx rfl (hb hby d_ini3_61) rfl rfl k) ?_
      show OGo p e below _ (T22.setTop (mkF m 62 #[.val (.ref a), .val (.ref i), .val (.int ((((0 : Int32) ||| x) ||| y) ||| z)), .val (.int (2 : Int32)), .val (.int (3 : Int32)), .val (.int (3 : Int32)), .val (.int z)] [(.ref i), (.int (2 : Int32))]))
      obtain ⟨cl23, Ar23, q23, S23, Nn23, H23, G23⟩ := id I1_
      refine OGo.by_ (X22.arraylength hx (by rw [e22]; exact Ar23.1) (State.isArrayOf_alike hZ.alike Ar23.2.1) (g := (mkF m 62 #[.val (.ref a), .val (.ref i), .val (.int ((((0 : Int32) ||| x) ||| y) ||| z)), .val (.int (2 : Int32)), .val (.int (3 : Int32)), .val (.int (3 : Int32)), .val (.int z)] [(.ref i), (.int (2 : Int32))])) rfl rfl (hb hby d_ini3_62)) ?_
      rw [len_of S23 Nn23]
      show OGo p e below _ (T22.setTop (mkF m 63 #[.val (.ref a), .val (.ref i), .val (.int ((((0 : Int32) ||| x) ||| y) ||| z)), .val (.int (2 : Int32)), .val (.int (3 : Int32)), .val (.int (3 : Int32)), .val (.int z)] [(.int (3 : Int32)), (.int (2 : Int32))]))
      refine OGo.by_ (fun t k => XS.icmpNo X22.here hx rfl (hb hby d_ini3_63) rfl (tlt (by decide)).2.1 k) ?_
      show OGo p e below _ (T22.setTop (mkF m 66 #[.val (.ref a), .val (.ref i), .val (.int ((((0 : Int32) ||| x) ||| y) ||| z)), .val (.int (2 : Int32)), .val (.int (3 : Int32)), .val (.int (3 : Int32)), .val (.int z)] []))
      refine OGo.by_ (fun t k => XS.aloadN X22.here hx rfl (hb hby d_ini3_66) rfl rfl k) ?_
      show OGo p e below _ (T22.setTop (mkF m 67 #[.val (.ref a), .val (.ref i), .val (.int ((((0 : Int32) ||| x) ||| y) ||| z)), .val (.int (2 : Int32)), .val (.int (3 : Int32)), .val (.int (3 : Int32)), .val (.int z)] [(.ref a)]))
      obtain ⟨T24, X24, e24, st24⟩ := getF X22 hx hZ hown (host := "") (Or.inl (hw _ (List.mem_of_getElem? (i := 15) rfl))) Via.refl e22 FS1_ (g := (mkF m 67 #[.val (.ref a), .val (.ref i), .val (.int ((((0 : Int32) ||| x) ||| y) ||| z)), .val (.int (2 : Int32)), .val (.int (3 : Int32)), .val (.int (3 : Int32)), .val (.int z)] [(.ref a)])) rfl rfl (hb hby d_ini3_67)
      refine OGo.by_ st24 ?_
      show OGo p e below _ (T24.setTop (mkF m 70 #[.val (.ref a), .val (.ref i), .val (.int ((((0 : Int32) ||| x) ||| y) ||| z)), .val (.int (2 : Int32)), .val (.int (3 : Int32)), .val (.int (3 : Int32)), .val (.int z)] [(.ref b)]))
      refine OGo.by_ (fun t k => XS.iloadN X24.here hx rfl (hb hby d_ini3_70) rfl k) ?_
      show OGo p e below _ (T24.setTop (mkF m 71 #[.val (.ref a), .val (.ref i), .val (.int ((((0 : Int32) ||| x) ||| y) ||| z)), .val (.int (2 : Int32)), .val (.int (3 : Int32)), .val (.int (3 : Int32)), .val (.int z)] [(.int (2 : Int32)), (.ref b)]))
      refine OGo.by_ (fun t k => XS.aloadN X24.here hx rfl (hb hby d_ini3_71) rfl rfl k) ?_
      show OGo p e below _ (T24.setTop (mkF m 72 #[.val (.ref a), .val (.ref i), .val (.int ((((0 : Int32) ||| x) ||| y) ||| z)), .val (.int (2 : Int32)), .val (.int (3 : Int32)), .val (.int (3 : Int32)), .val (.int z)] [(.ref i), (.int (2 : Int32)), (.ref b)]))
      refine OGo.by_ (fun t k => XS.iloadN X24.here hx rfl (hb hby d_ini3_72) rfl k) ?_
      show OGo p e below _ (T24.setTop (mkF m 73 #[.val (.ref a), .val (.ref i), .val (.int ((((0 : Int32) ||| x) ||| y) ||| z)), .val (.int (2 : Int32)), .val (.int (3 : Int32)), .val (.int (3 : Int32)), .val (.int z)] [(.int (2 : Int32)), (.ref i), (.int (2 : Int32)), (.ref b)]))
      obtain ⟨cl25, Ar25, q25, S25, Nn25, H25, G25⟩ := id I1_
      have in25 := inb_of S25 ⟨(by decide : ¬ (2 : Int32) < 0), (by decide : (2 : Int32) < (3 : Int32))⟩
      refine OGo.by_ (fun t kk => X24.iaload hx (j := (2 : Int32)) (v := (.int z)) (by rw [e24]; exact Ar25.1) (State.isArrayOf_alike hZ.alike Ar25.2.1) Ar25.2.2 in25 (H25.at in25 (rfl)) (g := (mkF m 73 #[.val (.ref a), .val (.ref i), .val (.int ((((0 : Int32) ||| x) ||| y) ||| z)), .val (.int (2 : Int32)), .val (.int (3 : Int32)), .val (.int (3 : Int32)), .val (.int z)] [(.int (2 : Int32)), (.ref i), (.int (2 : Int32)), (.ref b)])) rfl rfl (hb hby d_ini3_73) _ kk) ?_
      show OGo p e below _ (T24.setTop (mkF m 74 #[.val (.ref a), .val (.ref i), .val (.int ((((0 : Int32) ||| x) ||| y) ||| z)), .val (.int (2 : Int32)), .val (.int (3 : Int32)), .val (.int (3 : Int32)), .val (.int z)] [(.int z), (.int (2 : Int32)), (.ref b)]))
      refine OGo.by_ (fun t k => XS.i2b X24.here hx rfl (hb hby d_ini3_74) rfl k) ?_
      show OGo p e below _ (T24.setTop (mkF m 75 #[.val (.ref a), .val (.ref i), .val (.int ((((0 : Int32) ||| x) ||| y) ||| z)), .val (.int (2 : Int32)), .val (.int (3 : Int32)), .val (.int (3 : Int32)), .val (.int z)] [(.int (z.toInt8.toInt32)), (.int (2 : Int32)), (.ref b)]))
      obtain ⟨cl26, Ar26, q26, S26, Nn26, H26, G26⟩ := id U2
      obtain ⟨T27, h27, X27, e27, W27, st27⟩ := stB X24 hx hZ e24 Ar26 (j := (2 : Int32)) (inb_of S26 ⟨(by decide : ¬ (2 : Int32) < 0), (by decide : (2 : Int32) < (3 : Int32))⟩) (g := (mkF m 75 #[.val (.ref a), .val (.ref i), .val (.int ((((0 : Int32) ||| x) ||| y) ||| z)), .val (.int (2 : Int32)), .val (.int (3 : Int32)), .val (.int (3 : Int32)), .val (.int z)] [(.int (z.toInt8.toInt32)), (.int (2 : Int32)), (.ref b)])) rfl rfl (hb hby d_ini3_75)
      refine OGo.by_ st27 ?_
      show OGo p e below _ (T27.setTop (mkF m 76 #[.val (.ref a), .val (.ref i), .val (.int ((((0 : Int32) ||| x) ||| y) ||| z)), .val (.int (2 : Int32)), .val (.int (3 : Int32)), .val (.int (3 : Int32)), .val (.int z)] []))
      have N27 := Fr.snoc X27 N22 gb
      rw [own_nb8] at W27
      have U3 := Arv.set Ar26 q26 S26 Nn26 H26 G26 (fits_nar_byte _) W27 2 (by decide) (Nat.le_of_ble_eq_true rfl)
      have E2_ := E1_.wr W27
      have FS2_ := FS1_.other W27 (Or.inl hab)
      have FV2_ := FV1_.other W27 (Or.inl hab)
      have I2_ := I1_.other W27 hibb
      have K2_' := Keep.wr K1_' W27 (Or.inr (Nat.le_of_eq g_b.symm))
      refine OGo.by_ (fun t k => XS.iinc X27.here hx rfl (hb hby d_ini3_76) rfl (l' := #[.val (.ref a), .val (.ref i), .val (.int ((((0 : Int32) ||| x) ||| y) ||| z)), .val (.int (3 : Int32)), .val (.int (3 : Int32)), .val (.int (3 : Int32)), .val (.int z)]) rfl k) ?_
      show OGo p e below _ (T27.setTop (mkF m 79 #[.val (.ref a), .val (.ref i), .val (.int ((((0 : Int32) ||| x) ||| y) ||| z)), .val (.int (3 : Int32)), .val (.int (3 : Int32)), .val (.int (3 : Int32)), .val (.int z)] []))
      refine OGo.by_ (fun t k => XS.goto X27.here hx rfl (pc0 := 79) (pc' := 60) rfl (hb hby d_ini3_79) (by decide) (by decide) k) ?_
      show OGo p e below _ (T27.setTop (mkF m 60 #[.val (.ref a), .val (.ref i), .val (.int ((((0 : Int32) ||| x) ||| y) ||| z)), .val (.int (3 : Int32)), .val (.int (3 : Int32)), .val (.int (3 : Int32)), .val (.int z)] []))
      refine OGo.by_ (fun t k => XS.iloadN X27.here hx rfl (hb hby d_ini3_60) rfl k) ?_
      show OGo p e below _ (T27.setTop (mkF m 61 #[.val (.ref a), .val (.ref i), .val (.int ((((0 : Int32) ||| x) ||| y) ||| z)), .val (.int (3 : Int32)), .val (.int (3 : Int32)), .val (.int (3 : Int32)), .val (.int z)] [(.int (3 : Int32))]))
      refine OGo.by_ (fun t k => XS.aloadN X27.here hx rfl (hb hby d_ini3_61) rfl rfl k) ?_
      show OGo p e below _ (T27.setTop (mkF m 62 #[.val (.ref a), .val (.ref i), .val (.int ((((0 : Int32) ||| x) ||| y) ||| z)), .val (.int (3 : Int32)), .val (.int (3 : Int32)), .val (.int (3 : Int32)), .val (.int z)] [(.ref i), (.int (3 : Int32))]))
      obtain ⟨cl28, Ar28, q28, S28, Nn28, H28, G28⟩ := id I2_
      refine OGo.by_ (X27.arraylength hx (by rw [e27]; exact Ar28.1) (State.isArrayOf_alike hZ.alike Ar28.2.1) (g := (mkF m 62 #[.val (.ref a), .val (.ref i), .val (.int ((((0 : Int32) ||| x) ||| y) ||| z)), .val (.int (3 : Int32)), .val (.int (3 : Int32)), .val (.int (3 : Int32)), .val (.int z)] [(.ref i), (.int (3 : Int32))])) rfl rfl (hb hby d_ini3_62)) ?_
      rw [len_of S28 Nn28]
      show OGo p e below _ (T27.setTop (mkF m 63 #[.val (.ref a), .val (.ref i), .val (.int ((((0 : Int32) ||| x) ||| y) ||| z)), .val (.int (3 : Int32)), .val (.int (3 : Int32)), .val (.int (3 : Int32)), .val (.int z)] [(.int (3 : Int32)), (.int (3 : Int32))]))
      refine OGo.by_ (fun t k => XS.icmpYes X27.here hx rfl (pc0 := 63) (pc' := 82) rfl (hb hby d_ini3_63) rfl (flt (by decide)).2.1 (by decide) (by decide) k) ?_
      show OGo p e below _ (T27.setTop (mkF m 82 #[.val (.ref a), .val (.ref i), .val (.int ((((0 : Int32) ||| x) ||| y) ||| z)), .val (.int (3 : Int32)), .val (.int (3 : Int32)), .val (.int (3 : Int32)), .val (.int z)] []))
      refine OGo.by_ (fun t k => XS.aloadN X27.here hx rfl (hb hby d_ini3_82) rfl rfl k) ?_
      show OGo p e below _ (T27.setTop (mkF m 83 #[.val (.ref a), .val (.ref i), .val (.int ((((0 : Int32) ||| x) ||| y) ||| z)), .val (.int (3 : Int32)), .val (.int (3 : Int32)), .val (.int (3 : Int32)), .val (.int z)] [(.ref a)]))
      refine OGo.by_ (fun t k => XS.aconstNull X27.here hx rfl (hb hby d_ini3_83) k) ?_
      show OGo p e below _ (T27.setTop (mkF m 84 #[.val (.ref a), .val (.ref i), .val (.int ((((0 : Int32) ||| x) ||| y) ||| z)), .val (.int (3 : Int32)), .val (.int (3 : Int32)), .val (.int (3 : Int32)), .val (.int z)] [.null, (.ref a)]))
      obtain ⟨T29, h29, X29, e29, W29, st29⟩ := putF X27 hx hZ hown (host := "") (Or.inl (hw _ (List.mem_of_getElem? (i := 17) rfl))) Via.refl e27 FV2_ E2_ (Or.inr ⟨(hw _ (List.mem_of_getElem? (i := 18) rfl)), rfl, hnm⟩) (hw _ (List.mem_of_getElem? (i := 6) rfl)) (ty := (.array .int)) (by decide) rfl rfl (g := (mkF m 84 #[.val (.ref a), .val (.ref i), .val (.int ((((0 : Int32) ||| x) ||| y) ||| z)), .val (.int (3 : Int32)), .val (.int (3 : Int32)), .val (.int (3 : Int32)), .val (.int z)] [.null, (.ref a)])) rfl rfl (hb hby d_ini3_84)
      refine OGo.by_ st29 ?_
      show OGo p e below _ (T29.setTop (mkF m 87 #[.val (.ref a), .val (.ref i), .val (.int ((((0 : Int32) ||| x) ||| y) ||| z)), .val (.int (3 : Int32)), .val (.int (3 : Int32)), .val (.int (3 : Int32)), .val (.int z)] []))
      have N29 := Fr.snoc X29 N27 ga
      have KK := Keep.wr K2_' W29 (Or.inl (List.mem_singleton.mpr rfl))
      have Uf : Arv Z h29 b k11 .byte (3 : Int32) ([x, y, z].map fun x => .int x.toInt8.toInt32) (.int (0 : Int32)) := Arv.other (show Arv Z _ b k11 .byte (3 : Int32) [(.int x.toInt8.toInt32), (.int y.toInt8.toInt32), (.int z.toInt8.toInt32)] (.int (0 : Int32)) from U3) W29 hab.symm
      refine OGo.by_ (fun t k => XS.goto X29.here hx rfl (pc0 := 87) (pc' := 106) rfl (hb hby d_ini3_87) (by decide) (by decide) k) ?_
      show OGo p e below _ (T29.setTop (mkF m 106 #[.val (.ref a), .val (.ref i), .val (.int ((((0 : Int32) ||| x) ||| y) ||| z)), .val (.int (3 : Int32)), .val (.int (3 : Int32)), .val (.int (3 : Int32)), .val (.int z)] []))
      exact own_ret X29 hx hlk hret (hb hby d_ini3_106) (by decide) (by decide) (by rw [e29]; exact ⟨rfl, N29, KK, b, by omega, E2_.wr W29, Or.inl ⟨FS2_.other W29 (Or.inr (slot_ne (C := "com/example/fair_witness/fairwitness/model/State") (Or.inr (hw _ (List.mem_of_getElem? (i := 16) rfl))) (Or.inr (hw _ (List.mem_of_getElem? (i := 18) rfl))) (by decide) (t := (.array .byte)) (t' := (.array .int)) (by decide) (by decide))), FV2_.same W29, ⟨k11, Uf⟩, own_sm3 hc40 hc47⟩⟩)
    · refine OGo.by_ (fun t k => XS.icmpYes X1.here hx rfl (pc0 := 47) (pc' := 90) rfl (hb hby d_ini3_47) rfl (flt hc47).2.1 (by decide) (by decide) k) ?_
      show OGo p e below _ (T1.setTop (mkF m 90 #[.val (.ref a), .val (.ref i), .val (.int ((((0 : Int32) ||| x) ||| y) ||| z)), .val (.ref i), .val (.int (3 : Int32)), .val (.int (3 : Int32)), .val (.int z)] []))
      refine OGo.by_ (fun t k => XS.aloadN X1.here hx rfl (hb hby d_ini3_90) rfl rfl k) ?_
      show OGo p e below _ (T1.setTop (mkF m 91 #[.val (.ref a), .val (.ref i), .val (.int ((((0 : Int32) ||| x) ||| y) ||| z)), .val (.ref i), .val (.int (3 : Int32)), .val (.int (3 : Int32)), .val (.int z)] [(.ref a)]))
      refine OGo.by_ (fun t k => XS.aconstNull X1.here hx rfl (hb hby d_ini3_91) k) ?_
      show OGo p e below _ (T1.setTop (mkF m 92 #[.val (.ref a), .val (.ref i), .val (.int ((((0 : Int32) ||| x) ||| y) ||| z)), .val (.ref i), .val (.int (3 : Int32)), .val (.int (3 : Int32)), .val (.int z)] [.null, (.ref a)]))
      obtain ⟨T30, h30, X30, e30, W30, st30⟩ := putF X1 hx hZ hown (host := "") (Or.inl (hw _ (List.mem_of_getElem? (i := 15) rfl))) Via.refl e1 FS E0 (Or.inr ⟨(hw _ (List.mem_of_getElem? (i := 16) rfl)), rfl, hnm⟩) (hw _ (List.mem_of_getElem? (i := 6) rfl)) (ty := (.array .byte)) (by decide) rfl rfl (g := (mkF m 92 #[.val (.ref a), .val (.ref i), .val (.int ((((0 : Int32) ||| x) ||| y) ||| z)), .val (.ref i), .val (.int (3 : Int32)), .val (.int (3 : Int32)), .val (.int z)] [.null, (.ref a)])) rfl rfl (hb hby d_ini3_92)
      refine OGo.by_ st30 ?_
      show OGo p e below _ (T30.setTop (mkF m 95 #[.val (.ref a), .val (.ref i), .val (.int ((((0 : Int32) ||| x) ||| y) ||| z)), .val (.ref i), .val (.int (3 : Int32)), .val (.int (3 : Int32)), .val (.int z)] []))
      have N30 := Fr.snoc X30 N0 ga
      have E1 := E0.wr W30
      have FS1 := FS.same W30
      have FV1 := FV.other W30 (Or.inr (slot_ne (C := "com/example/fair_witness/fairwitness/model/State") (Or.inr (hw _ (List.mem_of_getElem? (i := 18) rfl))) (Or.inr (hw _ (List.mem_of_getElem? (i := 16) rfl))) (by decide) (t := (.array .int)) (t' := (.array .byte)) (by decide) (by decide)))
      have V1b := V1.other W30 hib
      have X1b := EI.wr W30
      refine OGo.by_ (fun t k => XS.aloadN X30.here hx rfl (hb hby d_ini3_95) rfl rfl k) ?_
      show OGo p e below _ (T30.setTop (mkF m 96 #[.val (.ref a), .val (.ref i), .val (.int ((((0 : Int32) ||| x) ||| y) ||| z)), .val (.ref i), .val (.int (3 : Int32)), .val (.int (3 : Int32)), .val (.int z)] [(.ref a)]))
      refine OGo.by_ (fun t k => XS.aloadN X30.here hx rfl (hb hby d_ini3_96) rfl rfl k) ?_
      show OGo p e below _ (T30.setTop (mkF m 97 #[.val (.ref a), .val (.ref i), .val (.int ((((0 : Int32) ||| x) ||| y) ||| z)), .val (.ref i), .val (.int (3 : Int32)), .val (.int (3 : Int32)), .val (.int z)] [(.ref i), (.ref a)]))
      obtain ⟨T31, h31, X31, e31, E31, Va31, Ea31, st31⟩ := cloneH X30 hx hZ hown (hw _ (List.mem_of_getElem? (i := 27) rfl)) (hw _ (List.mem_of_getElem? (i := 28) rfl)) (hw _ (List.mem_of_getElem? (i := 32) rfl)) (hw _ (List.mem_of_getElem? (i := 30) rfl)) (hw _ (List.mem_of_getElem? (i := 31) rfl)) (hw _ (List.mem_of_getElem? (i := 33) rfl)) e30 (Arv.arh V1b) X1b (g := (mkF m 97 #[.val (.ref a), .val (.ref i), .val (.int ((((0 : Int32) ||| x) ||| y) ||| z)), .val (.ref i), .val (.int (3 : Int32)), .val (.int (3 : Int32)), .val (.int z)] [(.ref i), (.ref a)])) rfl (by rw [hml]; rfl) rfl (hb hby d_ini3_97) (by decide) (W := 1) (by show 2 * 0 + _ ≤ _; exact Nat.le_of_eq rfl) (by decide) (cap := 3) (by decide) (by decide) (by decide)
      obtain ⟨b, g_b⟩ : ∃ z, z = h30.size := ⟨_, rfl⟩
      rw [← g_b] at Va31 Ea31 st31
      refine OGo.by_ st31 ?_
      show OGo p e below _ (T31.setTop (mkF m 100 #[.val (.ref a), .val (.ref i), .val (.int ((((0 : Int32) ||| x) ||| y) ||| z)), .val (.ref i), .val (.int (3 : Int32)), .val (.int (3 : Int32)), .val (.int z)] [(.ref b), (.ref a)]))
      obtain ⟨T32, X32, e32, st32⟩ := castY X31 hx hZ hown (hw _ (List.mem_of_getElem? (i := 34) rfl)) e31 (Ins.self Ea31) (g := (mkF m 100 #[.val (.ref a), .val (.ref i), .val (.int ((((0 : Int32) ||| x) ||| y) ||| z)), .val (.ref i), .val (.int (3 : Int32)), .val (.int (3 : Int32)), .val (.int z)] [(.ref b), (.ref a)])) rfl rfl (hb hby d_ini3_100)
      refine OGo.by_ st32 ?_
      show OGo p e below _ (T32.setTop (mkF m 103 #[.val (.ref a), .val (.ref i), .val (.int ((((0 : Int32) ||| x) ||| y) ||| z)), .val (.ref i), .val (.int (3 : Int32)), .val (.int (3 : Int32)), .val (.int z)] [(.ref b), (.ref a)]))
      have lta : h30.size > a := E1.lt
      have hab : b ≠ a := own_ne' (by omega)
      obtain ⟨T33, h33, X33, e33, W33, st33⟩ := putF X32 hx hZ hown (host := "") (Or.inl (hw _ (List.mem_of_getElem? (i := 17) rfl))) Via.refl e32 (FV1.ext E31) (E1.ext E31) (Or.inr ⟨(hw _ (List.mem_of_getElem? (i := 18) rfl)), rfl, hnm⟩) (hw _ (List.mem_of_getElem? (i := 6) rfl)) (ty := (.array .int)) (by decide) rfl rfl (g := (mkF m 103 #[.val (.ref a), .val (.ref i), .val (.int ((((0 : Int32) ||| x) ||| y) ||| z)), .val (.ref i), .val (.int (3 : Int32)), .val (.int (3 : Int32)), .val (.int z)] [(.ref b), (.ref a)])) rfl rfl (hb hby d_ini3_103)
      refine OGo.by_ st33 ?_
      show OGo p e below _ (T33.setTop (mkF m 106 #[.val (.ref a), .val (.ref i), .val (.int ((((0 : Int32) ||| x) ||| y) ||| z)), .val (.ref i), .val (.int (3 : Int32)), .val (.int (3 : Int32)), .val (.int z)] []))
      have N33 := Fr.snoc X33 N30 ga
      have KK : Keep h0 h33 [a] := (((Keep.refl h0 [a]).wr W30 (Or.inl (List.mem_singleton.mpr rfl))).ext E31).wr W33 (Or.inl (List.mem_singleton.mpr rfl))
      have hsz := W30.size
      have Vc : Arv Z h33 b ki .int (3 : Int32) ([x, y, z].map .int) (.int (0 : Int32)) := Arv.other (show Arv Z h31 b ki .int (3 : Int32) [(.int x), (.int y), (.int z)] (.int (0 : Int32)) from Va31) W33 hab
      exact own_ret X33 hx hlk hret (hb hby d_ini3_106) (by decide) (by decide) (by rw [e33]; exact ⟨rfl, N33, KK, b, by omega, (E1.ext E31).wr W33, Or.inr ⟨(FS1.ext E31).other W33 (Or.inr (slot_ne (C := "com/example/fair_witness/fairwitness/model/State") (Or.inr (hw _ (List.mem_of_getElem? (i := 16) rfl))) (Or.inr (hw _ (List.mem_of_getElem? (i := 18) rfl))) (by decide) (t := (.array .byte)) (t' := (.array .int)) (by decide) (by decide))), (FV1.ext E31).same W33, Ea31.wr W33, ki, Vc⟩⟩)
theorem d_vi0_0 : decode prog_92_method_3_code 0 = .ok (.aload_n 0, 1) := by decide +kernel
theorem d_vi0_1 : decode prog_92_method_3_code 1 = .ok (.getfield 7, 3) := by decide +kernel
theorem d_vi0_4 : decode prog_92_method_3_code 4 = .ok (.ifnull 41, 3) := by decide +kernel
theorem d_vi0_7 : decode prog_92_method_3_code 7 = .ok (.aload_n 0, 1) := by decide +kernel
theorem d_vi0_8 : decode prog_92_method_3_code 8 = .ok (.getfield 7, 3) := by decide +kernel
theorem d_vi0_11 : decode prog_92_method_3_code 11 = .ok (.arraylength, 1) := by decide +kernel
theorem d_vi0_12 : decode prog_92_method_3_code 12 = .ok (.newarray .int, 2) := by decide +kernel
theorem d_vi0_14 : decode prog_92_method_3_code 14 = .ok (.astore_n 1, 1) := by decide +kernel
theorem d_vi0_15 : decode prog_92_method_3_code 15 = .ok (.iconst 0, 1) := by decide +kernel
theorem d_vi0_16 : decode prog_92_method_3_code 16 = .ok (.istore_n 2, 1) := by decide +kernel
theorem d_vi0_17 : decode prog_92_method_3_code 17 = .ok (.iload_n 2, 1) := by decide +kernel
theorem d_vi0_18 : decode prog_92_method_3_code 18 = .ok (.aload_n 1, 1) := by decide +kernel
theorem d_vi0_19 : decode prog_92_method_3_code 19 = .ok (.arraylength, 1) := by decide +kernel
theorem d_vi0_20 : decode prog_92_method_3_code 20 = .ok (.if_icmp .ge 22, 3) := by decide +kernel
theorem d_vi0_42 : decode prog_92_method_3_code 42 = .ok (.goto 14, 3) := by decide +kernel
theorem d_vi0_56 : decode prog_92_method_3_code 56 = .ok (.aload_n 1, 1) := by decide +kernel
theorem d_vi0_57 : decode prog_92_method_3_code 57 = .ok (.areturn, 1) := by decide +kernel
theorem d_vi0_45 : decode prog_92_method_3_code 45 = .ok (.aload_n 0, 1) := by decide +kernel
theorem d_vi0_46 : decode prog_92_method_3_code 46 = .ok (.getfield 13, 3) := by decide +kernel
theorem d_vi0_49 : decode prog_92_method_3_code 49 = .ok (.invokevirtual 17, 3) := by decide +kernel
theorem d_vi0_52 : decode prog_92_method_3_code 52 = .ok (.checkcast 18, 3) := by decide +kernel
theorem d_vi0_55 : decode prog_92_method_3_code 55 = .ok (.astore_n 1, 1) := by decide +kernel
theorem ef_vi0 (m : MethodId) (x0 : Addr) : entryFrame m #[(.ref x0)] 3 = mkF m 0 #[.val (.ref x0), .unset, .unset] [] := by first | (simp [entryFrame, mkF, argsToLocals, Value.category]; done) | rfl
def Q_vi0 (Z : State) (a b : Addr) (x y z : Int32) (h0 : Heap) (n0 : Nat) (v : Option Value) (h : Heap) (L : List Loc) : Prop := v = some (.ref h0.size) ∧ Fr n0 L ∧ Keep h0 h [] ∧ ∃ k, Arv Z h h0.size k .int (0 : Int32) [] (.int (0 : Int32))
set_option maxRecDepth 65536 in
set_option maxHeartbeats 40000000 in
theorem rm_vi0 (l : Launch) (Z : State) (a0 : Array Value) (hw : ∀ d ∈ tables_1, d.before a0 Z = true) (ws : List Jvm.Cond) (a b : Addr) (x y z : Int32) (h0 : Heap) (n0 : Nat) (Z0 : n0 ≤ h0.size) (ST : own_ST Z h0 a b (0 : Int32) []) :
    MetFree l (⟨"com/example/fair_witness/fairwitness/model/State", "valueIndices", "()[I"⟩ : MethodName) (head1 (Jvm.Cond.code (⟨"com/example/fair_witness/fairwitness/model/State", "valueIndices", "()[I"⟩ : MethodName) prog_92_method_3_code 3 (some (.array .int)) :: ws) ({ frames := 1, cells := 1, slots := 3, locals := 14 } : Room)) (fun a_ U => a_ = #[(.ref a)] ∧ Z.Warmed39 U.vm ∧ U.heap = h0) (fun _ _ _ _ _ => True) (fun _ U o U' => ∃ v L, o = .returned v ∧ Q_vi0 Z a b x y z h0 n0 v U'.heap L ∧ FrameEnd U o U' L ({ frames := 1, cells := 1, slots := 3, locals := 14 } : Room).cells ({ frames := 1, cells := 1, slots := 3, locals := 14 } : Room).slots) := by
  refine MetFree.of_bodySF (plainFor_of_name pn_com_example_fair_witness_fairwitness_model_State) hisR ?_
  intro p e s m args below meth c s₁ Bd hml0 hP hK
  obtain ⟨rfl, hZ, hh⟩ := hP
  have hx := Bd.exec
  have hby := Bd.bytes
  have hml : c.maxLocals = 3 := hml0
  have hown : s.vm.findClass "com/example/fair_witness/fairwitness/model/State" = some m.cls := findClass_of_methodNamed Bd.named
  have hnm := (name_of_methodNamed Bd.named Bd.method).1
  have X0 : Stand p l e ({ frames := 1, cells := 1, slots := 3, locals := 14 } : Room) s m #[(.ref a)] below meth c s₁ [] 0 0 := Stand.of_body Bd
  have e0 : s₁.heap = h0 := by rw [← hh, Bd.state]; rfl
  have N0 := Fr.nil n0
  have hlk := Bd.notSynchronized
  have hret := Bd.returns
  show OGo p e below (OEnd s (Q_vi0 Z a b x y z h0 n0) ({ frames := 1, cells := 1, slots := 3, locals := 14 } : Room).cells ({ frames := 1, cells := 1, slots := 3, locals := 14 } : Room).slots) (s₁.setTop (entryFrame m #[(.ref a)] 3))
  rw [ef_vi0]
  show OGo p e below _ (s₁.setTop (mkF m 0 #[.val (.ref a), .unset, .unset] []))
  obtain ⟨E0, ⟨FS, FV, ⟨kb, Vb⟩, hsm⟩ | ⟨FS, FV, EB, kb, Vb⟩⟩ := ST
  · refine OGo.by_ (fun t k => XS.aloadN X0.here hx rfl (hb hby d_vi0_0) rfl rfl k) ?_
    show OGo p e below _ (s₁.setTop (mkF m 1 #[.val (.ref a), .unset, .unset] [(.ref a)]))
    obtain ⟨T1, X1, e1, st1⟩ := getF X0 hx hZ hown (host := "") (Or.inl (hw _ (List.mem_of_getElem? (i := 15) rfl))) Via.refl e0 FS (g := (mkF m 1 #[.val (.ref a), .unset, .unset] [(.ref a)])) rfl rfl (hb hby d_vi0_1)
    refine OGo.by_ st1 ?_
    show OGo p e below _ (T1.setTop (mkF m 4 #[.val (.ref a), .unset, .unset] [(.ref b)]))
    refine OGo.by_ (fun t k => XS.ifnullNo X1.here hx rfl (hb hby d_vi0_4) rfl k) ?_
    show OGo p e below _ (T1.setTop (mkF m 7 #[.val (.ref a), .unset, .unset] []))
    refine OGo.by_ (fun t k => XS.aloadN X1.here hx rfl (hb hby d_vi0_7) rfl rfl k) ?_
    show OGo p e below _ (T1.setTop (mkF m 8 #[.val (.ref a), .unset, .unset] [(.ref a)]))
    obtain ⟨T2, X2, e2, st2⟩ := getF X1 hx hZ hown (host := "") (Or.inl (hw _ (List.mem_of_getElem? (i := 15) rfl))) Via.refl e1 FS (g := (mkF m 8 #[.val (.ref a), .unset, .unset] [(.ref a)])) rfl rfl (hb hby d_vi0_8)
    refine OGo.by_ st2 ?_
    show OGo p e below _ (T2.setTop (mkF m 11 #[.val (.ref a), .unset, .unset] [(.ref b)]))
    obtain ⟨cl3, Ar3, q3, S3, Nn3, H3, G3⟩ := id Vb
    refine OGo.by_ (X2.arraylength hx (by rw [e2]; exact Ar3.1) (State.isArrayOf_alike hZ.alike Ar3.2.1) (g := (mkF m 11 #[.val (.ref a), .unset, .unset] [(.ref b)])) rfl rfl (hb hby d_vi0_11)) ?_
    rw [len_of S3 Nn3]
    show OGo p e below _ (T2.setTop (mkF m 12 #[.val (.ref a), .unset, .unset] [(.int (0 : Int32))]))
    obtain ⟨T4, h4, k4, X4, e4, E4, A4, st4⟩ := newP X2 hx hZ (hw _ (List.mem_of_getElem? (i := 4) rfl)) e2 (g := (mkF m 12 #[.val (.ref a), .unset, .unset] [(.int (0 : Int32))])) rfl (hb hby d_vi0_12) rfl (by decide) (cap := 3) (by decide) (by decide) (by decide) (by decide)
    obtain ⟨r, g_r⟩ : ∃ z, z = h0.size := ⟨_, rfl⟩
    rw [← g_r] at A4 st4
    have V_r := Arv.new A4 (by decide)
    have lt_r := own_lt V_r.lt
    refine OGo.by_ st4 ?_
    show OGo p e below _ (T4.setTop (mkF m 14 #[.val (.ref a), .unset, .unset] [(.ref r)]))
    have ltb : h0.size > b := Vb.lt
    have lta : h0.size > a := E0.lt
    have hbr : b ≠ r := own_ne (by omega)
    have har : a ≠ r := own_ne (by omega)
    have gr : n0 ≤ r := by omega
    have K0_ : Keep h0 h4 [] := own_ext_keep E4
    have FS0 := FS.ext E4
    have B0 := Vb.ext E4
    refine OGo.by_ (fun t k => XS.astoreN X4.here hx rfl (hb hby d_vi0_14) rfl rfl (l' := #[.val (.ref a), .val (.ref r), .unset]) rfl k) ?_
    show OGo p e below _ (T4.setTop (mkF m 15 #[.val (.ref a), .val (.ref r), .unset] []))
    refine OGo.by_ (fun t k => XS.iconst X4.here hx rfl (hb hby d_vi0_15) k) ?_
    show OGo p e below _ (T4.setTop (mkF m 16 #[.val (.ref a), .val (.ref r), .unset] [(.int (0 : Int32))]))
    refine OGo.by_ (fun t k => XS.istoreN X4.here hx rfl (hb hby d_vi0_16) rfl (l' := #[.val (.ref a), .val (.ref r), .val (.int (0 : Int32))]) rfl k) ?_
    show OGo p e below _ (T4.setTop (mkF m 17 #[.val (.ref a), .val (.ref r), .val (.int (0 : Int32))] []))
    refine OGo.by_ (fun t k => XS.iloadN X4.here hx rfl (hb hby d_vi0_17) rfl k) ?_
    show OGo p e below _ (T4.setTop (mkF m 18 #[.val (.ref a), .val (.ref r), .val (.int (0 : Int32))] [(.int (0 : Int32))]))
    refine OGo.by_ (fun t k => XS.aloadN X4.here hx rfl (hb hby d_vi0_18) rfl rfl k) ?_
    show OGo p e below _ (T4.setTop (mkF m 19 #[.val (.ref a), .val (.ref r), .val (.int (0 : Int32))] [(.ref r), (.int (0 : Int32))]))
    obtain ⟨cl5, Ar5, q5, S5, Nn5, H5, G5⟩ := id V_r
    refine OGo.by_ (X4.arraylength hx (by rw [e4]; exact Ar5.1) (State.isArrayOf_alike hZ.alike Ar5.2.1) (g := (mkF m 19 #[.val (.ref a), .val (.ref r), .val (.int (0 : Int32))] [(.ref r), (.int (0 : Int32))])) rfl rfl (hb hby d_vi0_19)) ?_
    rw [len_of S5 Nn5]
    show OGo p e below _ (T4.setTop (mkF m 20 #[.val (.ref a), .val (.ref r), .val (.int (0 : Int32))] [(.int (0 : Int32)), (.int (0 : Int32))]))
    refine OGo.by_ (fun t k => XS.icmpYes X4.here hx rfl (pc0 := 20) (pc' := 42) rfl (hb hby d_vi0_20) rfl (flt (by decide)).2.1 (by decide) (by decide) k) ?_
    show OGo p e below _ (T4.setTop (mkF m 42 #[.val (.ref a), .val (.ref r), .val (.int (0 : Int32))] []))
    refine OGo.by_ (fun t k => XS.goto X4.here hx rfl (pc0 := 42) (pc' := 56) rfl (hb hby d_vi0_42) (by decide) (by decide) k) ?_
    show OGo p e below _ (T4.setTop (mkF m 56 #[.val (.ref a), .val (.ref r), .val (.int (0 : Int32))] []))
    refine OGo.by_ (fun t k => XS.aloadN X4.here hx rfl (hb hby d_vi0_56) rfl rfl k) ?_
    show OGo p e below _ (T4.setTop (mkF m 57 #[.val (.ref a), .val (.ref r), .val (.int (0 : Int32))] [(.ref r)]))
    exact own_retA X4 hx hlk hret rfl rfl (hb hby d_vi0_57) (by decide) (by decide) (by rw [e4]; exact ⟨congrArg (fun z => some (Value.ref z)) g_r, N0, K0_, k4, g_r ▸ V_r⟩)
  · refine OGo.by_ (fun t k => XS.aloadN X0.here hx rfl (hb hby d_vi0_0) rfl rfl k) ?_
    show OGo p e below _ (s₁.setTop (mkF m 1 #[.val (.ref a), .unset, .unset] [(.ref a)]))
    obtain ⟨T6, X6, e6, st6⟩ := getF X0 hx hZ hown (host := "") (Or.inl (hw _ (List.mem_of_getElem? (i := 15) rfl))) Via.refl e0 FS (g := (mkF m 1 #[.val (.ref a), .unset, .unset] [(.ref a)])) rfl rfl (hb hby d_vi0_1)
    refine OGo.by_ st6 ?_
    show OGo p e below _ (T6.setTop (mkF m 4 #[.val (.ref a), .unset, .unset] [.null]))
    refine OGo.by_ (fun t k => XS.ifnullYes X6.here hx rfl (pc0 := 4) (pc' := 45) rfl (hb hby d_vi0_4) rfl (by decide) (by decide) k) ?_
    show OGo p e below _ (T6.setTop (mkF m 45 #[.val (.ref a), .unset, .unset] []))
    refine OGo.by_ (fun t k => XS.aloadN X6.here hx rfl (hb hby d_vi0_45) rfl rfl k) ?_
    show OGo p e below _ (T6.setTop (mkF m 46 #[.val (.ref a), .unset, .unset] [(.ref a)]))
    obtain ⟨T7, X7, e7, st7⟩ := getF X6 hx hZ hown (host := "") (Or.inl (hw _ (List.mem_of_getElem? (i := 17) rfl))) Via.refl e6 FV (g := (mkF m 46 #[.val (.ref a), .unset, .unset] [(.ref a)])) rfl rfl (hb hby d_vi0_46)
    refine OGo.by_ st7 ?_
    show OGo p e below _ (T7.setTop (mkF m 49 #[.val (.ref a), .unset, .unset] [(.ref b)]))
    obtain ⟨T8, h8, X8, e8, E8, Va8, Ea8, st8⟩ := cloneH X7 hx hZ hown (hw _ (List.mem_of_getElem? (i := 27) rfl)) (hw _ (List.mem_of_getElem? (i := 28) rfl)) (hw _ (List.mem_of_getElem? (i := 32) rfl)) (hw _ (List.mem_of_getElem? (i := 30) rfl)) (hw _ (List.mem_of_getElem? (i := 31) rfl)) (hw _ (List.mem_of_getElem? (i := 33) rfl)) e7 (Arv.arh Vb) EB (g := (mkF m 49 #[.val (.ref a), .unset, .unset] [(.ref b)])) rfl (by rw [hml]; rfl) rfl (hb hby d_vi0_49) (by decide) (W := 0) (by show 2 * 0 + _ ≤ _; exact Nat.le_of_eq rfl) (by decide) (cap := 3) (by decide) (by decide) (by decide)
    obtain ⟨r, g_r⟩ : ∃ z, z = h0.size := ⟨_, rfl⟩
    rw [← g_r] at Va8 Ea8 st8
    refine OGo.by_ st8 ?_
    show OGo p e below _ (T8.setTop (mkF m 52 #[.val (.ref a), .unset, .unset] [(.ref r)]))
    obtain ⟨T9, X9, e9, st9⟩ := castY X8 hx hZ hown (hw _ (List.mem_of_getElem? (i := 34) rfl)) e8 (Ins.self Ea8) (g := (mkF m 52 #[.val (.ref a), .unset, .unset] [(.ref r)])) rfl rfl (hb hby d_vi0_52)
    refine OGo.by_ st9 ?_
    show OGo p e below _ (T9.setTop (mkF m 55 #[.val (.ref a), .unset, .unset] [(.ref r)]))
    refine OGo.by_ (fun t k => XS.astoreN X9.here hx rfl (hb hby d_vi0_55) rfl rfl (l' := #[.val (.ref a), .val (.ref r), .unset]) rfl k) ?_
    show OGo p e below _ (T9.setTop (mkF m 56 #[.val (.ref a), .val (.ref r), .unset] []))
    refine OGo.by_ (fun t k => XS.aloadN X9.here hx rfl (hb hby d_vi0_56) rfl rfl k) ?_
    show OGo p e below _ (T9.setTop (mkF m 57 #[.val (.ref a), .val (.ref r), .unset] [(.ref r)]))
    exact own_retA X9 hx hlk hret rfl rfl (hb hby d_vi0_57) (by decide) (by decide) (by rw [e9]; exact ⟨congrArg (fun z => some (Value.ref z)) g_r, N0, own_ext_keep E8, kb, g_r ▸ Va8⟩)
theorem d_vi1_0 : decode prog_92_method_3_code 0 = .ok (.aload_n 0, 1) := by decide +kernel
theorem d_vi1_1 : decode prog_92_method_3_code 1 = .ok (.getfield 7, 3) := by decide +kernel
theorem d_vi1_4 : decode prog_92_method_3_code 4 = .ok (.ifnull 41, 3) := by decide +kernel
theorem d_vi1_7 : decode prog_92_method_3_code 7 = .ok (.aload_n 0, 1) := by decide +kernel
theorem d_vi1_8 : decode prog_92_method_3_code 8 = .ok (.getfield 7, 3) := by decide +kernel
theorem d_vi1_11 : decode prog_92_method_3_code 11 = .ok (.arraylength, 1) := by decide +kernel
theorem d_vi1_12 : decode prog_92_method_3_code 12 = .ok (.newarray .int, 2) := by decide +kernel
theorem d_vi1_14 : decode prog_92_method_3_code 14 = .ok (.astore_n 1, 1) := by decide +kernel
theorem d_vi1_15 : decode prog_92_method_3_code 15 = .ok (.iconst 0, 1) := by decide +kernel
theorem d_vi1_16 : decode prog_92_method_3_code 16 = .ok (.istore_n 2, 1) := by decide +kernel
theorem d_vi1_17 : decode prog_92_method_3_code 17 = .ok (.iload_n 2, 1) := by decide +kernel
theorem d_vi1_18 : decode prog_92_method_3_code 18 = .ok (.aload_n 1, 1) := by decide +kernel
theorem d_vi1_19 : decode prog_92_method_3_code 19 = .ok (.arraylength, 1) := by decide +kernel
theorem d_vi1_20 : decode prog_92_method_3_code 20 = .ok (.if_icmp .ge 22, 3) := by decide +kernel
theorem d_vi1_23 : decode prog_92_method_3_code 23 = .ok (.aload_n 1, 1) := by decide +kernel
theorem d_vi1_24 : decode prog_92_method_3_code 24 = .ok (.iload_n 2, 1) := by decide +kernel
theorem d_vi1_25 : decode prog_92_method_3_code 25 = .ok (.aload_n 0, 1) := by decide +kernel
theorem d_vi1_26 : decode prog_92_method_3_code 26 = .ok (.getfield 7, 3) := by decide +kernel
theorem d_vi1_29 : decode prog_92_method_3_code 29 = .ok (.iload_n 2, 1) := by decide +kernel
theorem d_vi1_30 : decode prog_92_method_3_code 30 = .ok (.baload, 1) := by decide +kernel
theorem d_vi1_31 : decode prog_92_method_3_code 31 = .ok (.sipush 255, 3) := by decide +kernel
theorem d_vi1_34 : decode prog_92_method_3_code 34 = .ok (.iand, 1) := by decide +kernel
theorem d_vi1_35 : decode prog_92_method_3_code 35 = .ok (.iastore, 1) := by decide +kernel
theorem d_vi1_36 : decode prog_92_method_3_code 36 = .ok (.iinc 2 1, 3) := by decide +kernel
theorem d_vi1_39 : decode prog_92_method_3_code 39 = .ok (.goto (-22), 3) := by decide +kernel
theorem d_vi1_42 : decode prog_92_method_3_code 42 = .ok (.goto 14, 3) := by decide +kernel
theorem d_vi1_56 : decode prog_92_method_3_code 56 = .ok (.aload_n 1, 1) := by decide +kernel
theorem d_vi1_57 : decode prog_92_method_3_code 57 = .ok (.areturn, 1) := by decide +kernel
theorem d_vi1_45 : decode prog_92_method_3_code 45 = .ok (.aload_n 0, 1) := by decide +kernel
theorem d_vi1_46 : decode prog_92_method_3_code 46 = .ok (.getfield 13, 3) := by decide +kernel
theorem d_vi1_49 : decode prog_92_method_3_code 49 = .ok (.invokevirtual 17, 3) := by decide +kernel
theorem d_vi1_52 : decode prog_92_method_3_code 52 = .ok (.checkcast 18, 3) := by decide +kernel
theorem d_vi1_55 : decode prog_92_method_3_code 55 = .ok (.astore_n 1, 1) := by decide +kernel
theorem ef_vi1 (m : MethodId) (x0 : Addr) : entryFrame m #[(.ref x0)] 3 = mkF m 0 #[.val (.ref x0), .unset, .unset] [] := by first | (simp [entryFrame, mkF, argsToLocals, Value.category]; done) | rfl
def Q_vi1 (Z : State) (a b : Addr) (x y z : Int32) (h0 : Heap) (n0 : Nat) (v : Option Value) (h : Heap) (L : List Loc) : Prop := v = some (.ref h0.size) ∧ Fr n0 L ∧ Keep h0 h [] ∧ ∃ k, Arv Z h h0.size k .int (1 : Int32) [(.int x)] (.int (0 : Int32))
set_option maxRecDepth 65536 in
set_option maxHeartbeats 40000000 in
theorem rm_vi1 (l : Launch) (Z : State) (a0 : Array Value) (hw : ∀ d ∈ tables_1, d.before a0 Z = true) (ws : List Jvm.Cond) (a b : Addr) (x y z : Int32) (h0 : Heap) (n0 : Nat) (Z0 : n0 ≤ h0.size) (ST : own_ST Z h0 a b (1 : Int32) [x]) :
    MetFree l (⟨"com/example/fair_witness/fairwitness/model/State", "valueIndices", "()[I"⟩ : MethodName) (head1 (Jvm.Cond.code (⟨"com/example/fair_witness/fairwitness/model/State", "valueIndices", "()[I"⟩ : MethodName) prog_92_method_3_code 3 (some (.array .int)) :: ws) ({ frames := 1, cells := 1, slots := 3, locals := 14 } : Room)) (fun a_ U => a_ = #[(.ref a)] ∧ Z.Warmed39 U.vm ∧ U.heap = h0) (fun _ _ _ _ _ => True) (fun _ U o U' => ∃ v L, o = .returned v ∧ Q_vi1 Z a b x y z h0 n0 v U'.heap L ∧ FrameEnd U o U' L ({ frames := 1, cells := 1, slots := 3, locals := 14 } : Room).cells ({ frames := 1, cells := 1, slots := 3, locals := 14 } : Room).slots) := by
  refine MetFree.of_bodySF (plainFor_of_name pn_com_example_fair_witness_fairwitness_model_State) hisR ?_
  intro p e s m args below meth c s₁ Bd hml0 hP hK
  obtain ⟨rfl, hZ, hh⟩ := hP
  have hx := Bd.exec
  have hby := Bd.bytes
  have hml : c.maxLocals = 3 := hml0
  have hown : s.vm.findClass "com/example/fair_witness/fairwitness/model/State" = some m.cls := findClass_of_methodNamed Bd.named
  have hnm := (name_of_methodNamed Bd.named Bd.method).1
  have X0 : Stand p l e ({ frames := 1, cells := 1, slots := 3, locals := 14 } : Room) s m #[(.ref a)] below meth c s₁ [] 0 0 := Stand.of_body Bd
  have e0 : s₁.heap = h0 := by rw [← hh, Bd.state]; rfl
  have N0 := Fr.nil n0
  have hlk := Bd.notSynchronized
  have hret := Bd.returns
  show OGo p e below (OEnd s (Q_vi1 Z a b x y z h0 n0) ({ frames := 1, cells := 1, slots := 3, locals := 14 } : Room).cells ({ frames := 1, cells := 1, slots := 3, locals := 14 } : Room).slots) (s₁.setTop (entryFrame m #[(.ref a)] 3))
  rw [ef_vi1]
  show OGo p e below _ (s₁.setTop (mkF m 0 #[.val (.ref a), .unset, .unset] []))
  obtain ⟨E0, ⟨FS, FV, ⟨kb, Vb⟩, hsm⟩ | ⟨FS, FV, EB, kb, Vb⟩⟩ := ST
  · refine OGo.by_ (fun t k => XS.aloadN X0.here hx rfl (hb hby d_vi1_0) rfl rfl k) ?_
    show OGo p e below _ (s₁.setTop (mkF m 1 #[.val (.ref a), .unset, .unset] [(.ref a)]))
    obtain ⟨T1, X1, e1, st1⟩ := getF X0 hx hZ hown (host := "") (Or.inl (hw _ (List.mem_of_getElem? (i := 15) rfl))) Via.refl e0 FS (g := (mkF m 1 #[.val (.ref a), .unset, .unset] [(.ref a)])) rfl rfl (hb hby d_vi1_1)
    refine OGo.by_ st1 ?_
    show OGo p e below _ (T1.setTop (mkF m 4 #[.val (.ref a), .unset, .unset] [(.ref b)]))
    refine OGo.by_ (fun t k => XS.ifnullNo X1.here hx rfl (hb hby d_vi1_4) rfl k) ?_
    show OGo p e below _ (T1.setTop (mkF m 7 #[.val (.ref a), .unset, .unset] []))
    refine OGo.by_ (fun t k => XS.aloadN X1.here hx rfl (hb hby d_vi1_7) rfl rfl k) ?_
    show OGo p e below _ (T1.setTop (mkF m 8 #[.val (.ref a), .unset, .unset] [(.ref a)]))
    obtain ⟨T2, X2, e2, st2⟩ := getF X1 hx hZ hown (host := "") (Or.inl (hw _ (List.mem_of_getElem? (i := 15) rfl))) Via.refl e1 FS (g := (mkF m 8 #[.val (.ref a), .unset, .unset] [(.ref a)])) rfl rfl (hb hby d_vi1_8)
    refine OGo.by_ st2 ?_
    show OGo p e below _ (T2.setTop (mkF m 11 #[.val (.ref a), .unset, .unset] [(.ref b)]))
    obtain ⟨cl3, Ar3, q3, S3, Nn3, H3, G3⟩ := id Vb
    refine OGo.by_ (X2.arraylength hx (by rw [e2]; exact Ar3.1) (State.isArrayOf_alike hZ.alike Ar3.2.1) (g := (mkF m 11 #[.val (.ref a), .unset, .unset] [(.ref b)])) rfl rfl (hb hby d_vi1_11)) ?_
    rw [len_of S3 Nn3]
    show OGo p e below _ (T2.setTop (mkF m 12 #[.val (.ref a), .unset, .unset] [(.int (1 : Int32))]))
    obtain ⟨T4, h4, k4, X4, e4, E4, A4, st4⟩ := newP X2 hx hZ (hw _ (List.mem_of_getElem? (i := 4) rfl)) e2 (g := (mkF m 12 #[.val (.ref a), .unset, .unset] [(.int (1 : Int32))])) rfl (hb hby d_vi1_12) rfl (by decide) (cap := 3) (by decide) (by decide) (by decide) (by decide)
    obtain ⟨r, g_r⟩ : ∃ z, z = h0.size := ⟨_, rfl⟩
    rw [← g_r] at A4 st4
    have V_r := Arv.new A4 (by decide)
    have lt_r := own_lt V_r.lt
    refine OGo.by_ st4 ?_
    show OGo p e below _ (T4.setTop (mkF m 14 #[.val (.ref a), .unset, .unset] [(.ref r)]))
    have ltb : h0.size > b := Vb.lt
    have lta : h0.size > a := E0.lt
    have hbr : b ≠ r := own_ne (by omega)
    have har : a ≠ r := own_ne (by omega)
    have gr : n0 ≤ r := by omega
    have K0_ : Keep h0 h4 [] := own_ext_keep E4
    have FS0 := FS.ext E4
    have B0 := Vb.ext E4
    have U0' : Arv Z h4 r k4 .int (1 : Int32) [(.int (0 : Int32))] (.int (0 : Int32)) := V_r.pad (pad_rep [] _ 1)
    refine OGo.by_ (fun t k => XS.astoreN X4.here hx rfl (hb hby d_vi1_14) rfl rfl (l' := #[.val (.ref a), .val (.ref r), .unset]) rfl k) ?_
    show OGo p e below _ (T4.setTop (mkF m 15 #[.val (.ref a), .val (.ref r), .unset] []))
    refine OGo.by_ (fun t k => XS.iconst X4.here hx rfl (hb hby d_vi1_15) k) ?_
    show OGo p e below _ (T4.setTop (mkF m 16 #[.val (.ref a), .val (.ref r), .unset] [(.int (0 : Int32))]))
    refine OGo.by_ (fun t k => XS.istoreN X4.here hx rfl (hb hby d_vi1_16) rfl (l' := #[.val (.ref a), .val (.ref r), .val (.int (0 : Int32))]) rfl k) ?_
    show OGo p e below _ (T4.setTop (mkF m 17 #[.val (.ref a), .val (.ref r), .val (.int (0 : Int32))] []))
    refine OGo.by_ (fun t k => XS.iloadN X4.here hx rfl (hb hby d_vi1_17) rfl k) ?_
    show OGo p e below _ (T4.setTop (mkF m 18 #[.val (.ref a), .val (.ref r), .val (.int (0 : Int32))] [(.int (0 : Int32))]))
    refine OGo.by_ (fun t k => XS.aloadN X4.here hx rfl (hb hby d_vi1_18) rfl rfl k) ?_
    show OGo p e below _ (T4.setTop (mkF m 19 #[.val (.ref a), .val (.ref r), .val (.int (0 : Int32))] [(.ref r), (.int (0 : Int32))]))
    obtain ⟨cl5, Ar5, q5, S5, Nn5, H5, G5⟩ := id U0'
    refine OGo.by_ (X4.arraylength hx (by rw [e4]; exact Ar5.1) (State.isArrayOf_alike hZ.alike Ar5.2.1) (g := (mkF m 19 #[.val (.ref a), .val (.ref r), .val (.int (0 : Int32))] [(.ref r), (.int (0 : Int32))])) rfl rfl (hb hby d_vi1_19)) ?_
    rw [len_of S5 Nn5]
    show OGo p e below _ (T4.setTop (mkF m 20 #[.val (.ref a), .val (.ref r), .val (.int (0 : Int32))] [(.int (1 : Int32)), (.int (0 : Int32))]))
    refine OGo.by_ (fun t k => XS.icmpNo X4.here hx rfl (hb hby d_vi1_20) rfl (tlt (by decide)).2.1 k) ?_
    show OGo p e below _ (T4.setTop (mkF m 23 #[.val (.ref a), .val (.ref r), .val (.int (0 : Int32))] []))
    refine OGo.by_ (fun t k => XS.aloadN X4.here hx rfl (hb hby d_vi1_23) rfl rfl k) ?_
    show OGo p e below _ (T4.setTop (mkF m 24 #[.val (.ref a), .val (.ref r), .val (.int (0 : Int32))] [(.ref r)]))
    refine OGo.by_ (fun t k => XS.iloadN X4.here hx rfl (hb hby d_vi1_24) rfl k) ?_
    show OGo p e below _ (T4.setTop (mkF m 25 #[.val (.ref a), .val (.ref r), .val (.int (0 : Int32))] [(.int (0 : Int32)), (.ref r)]))
    refine OGo.by_ (fun t k => XS.aloadN X4.here hx rfl (hb hby d_vi1_25) rfl rfl k) ?_
    show OGo p e below _ (T4.setTop (mkF m 26 #[.val (.ref a), .val (.ref r), .val (.int (0 : Int32))] [(.ref a), (.int (0 : Int32)), (.ref r)]))
    obtain ⟨T6, X6, e6, st6⟩ := getF X4 hx hZ hown (host := "") (Or.inl (hw _ (List.mem_of_getElem? (i := 15) rfl))) Via.refl e4 FS0 (g := (mkF m 26 #[.val (.ref a), .val (.ref r), .val (.int (0 : Int32))] [(.ref a), (.int (0 : Int32)), (.ref r)])) rfl rfl (hb hby d_vi1_26)
    refine OGo.by_ st6 ?_
    show OGo p e below _ (T6.setTop (mkF m 29 #[.val (.ref a), .val (.ref r), .val (.int (0 : Int32))] [(.ref b), (.int (0 : Int32)), (.ref r)]))
    refine OGo.by_ (fun t k => XS.iloadN X6.here hx rfl (hb hby d_vi1_29) rfl k) ?_
    show OGo p e below _ (T6.setTop (mkF m 30 #[.val (.ref a), .val (.ref r), .val (.int (0 : Int32))] [(.int (0 : Int32)), (.ref b), (.int (0 : Int32)), (.ref r)]))
    obtain ⟨cl7, Ar7, q7, S7, Nn7, H7, G7⟩ := id B0
    have in7 := inb_of S7 ⟨(by decide : ¬ (0 : Int32) < 0), (by decide : (0 : Int32) < (1 : Int32))⟩
    refine OGo.by_ (fun t kk => X6.baloadBytes hx (j := (0 : Int32)) (v := (.int (x.toInt8.toInt32))) (by rw [e6]; exact Ar7.1) (State.isArrayOf_alike hZ.alike Ar7.2.1) Ar7.2.2 in7 (H7.at in7 (rfl)) (g := (mkF m 30 #[.val (.ref a), .val (.ref r), .val (.int (0 : Int32))] [(.int (0 : Int32)), (.ref b), (.int (0 : Int32)), (.ref r)])) rfl rfl (hb hby d_vi1_30) _ kk) ?_
    show OGo p e below _ (T6.setTop (mkF m 31 #[.val (.ref a), .val (.ref r), .val (.int (0 : Int32))] [(.int (x.toInt8.toInt32)), (.int (0 : Int32)), (.ref r)]))
    refine OGo.by_ (fun t k => XS.sipush X6.here hx rfl (hb hby d_vi1_31) k) ?_
    show OGo p e below _ (T6.setTop (mkF m 34 #[.val (.ref a), .val (.ref r), .val (.int (0 : Int32))] [(.int (255 : Int32)), (.int (x.toInt8.toInt32)), (.int (0 : Int32)), (.ref r)]))
    refine OGo.by_ (fun t k => XS.iand X6.here hx rfl (hb hby d_vi1_34) rfl k) ?_
    show OGo p e below _ (T6.setTop (mkF m 35 #[.val (.ref a), .val (.ref r), .val (.int (0 : Int32))] [(.int ((x.toInt8.toInt32) &&& (255 : Int32))), (.int (0 : Int32)), (.ref r)]))
    rw [show ((x.toInt8.toInt32) &&& (255 : Int32)) = x from hsm _ (List.mem_of_getElem? (i := 0) rfl)]
    show OGo p e below _ (T6.setTop (mkF m 35 #[.val (.ref a), .val (.ref r), .val (.int (0 : Int32))] [(.int x), (.int (0 : Int32)), (.ref r)]))
    obtain ⟨cl8, Ar8, q8, S8, Nn8, H8, G8⟩ := id U0'
    obtain ⟨T9, h9, X9, e9, W9, st9⟩ := stI X6 hx hZ e6 Ar8 (j := (0 : Int32)) (inb_of S8 ⟨(by decide : ¬ (0 : Int32) < 0), (by decide : (0 : Int32) < (1 : Int32))⟩) (g := (mkF m 35 #[.val (.ref a), .val (.ref r), .val (.int (0 : Int32))] [(.int x), (.int (0 : Int32)), (.ref r)])) rfl rfl (hb hby d_vi1_35)
    refine OGo.by_ st9 ?_
    show OGo p e below _ (T9.setTop (mkF m 36 #[.val (.ref a), .val (.ref r), .val (.int (0 : Int32))] []))
    have N9 := Fr.snoc X9 N0 gr
    have U1 := Arv.set Ar8 q8 S8 Nn8 H8 G8 (v := .int x) rfl W9 0 (by decide) (Nat.le_of_ble_eq_true rfl)
    have FS0_ := FS0.other W9 (Or.inl har)
    have B0_ := B0.other W9 hbr
    have K0_' := Keep.wr K0_ W9 (Or.inr (Nat.le_of_eq g_r.symm))
    refine OGo.by_ (fun t k => XS.iinc X9.here hx rfl (hb hby d_vi1_36) rfl (l' := #[.val (.ref a), .val (.ref r), .val (.int (1 : Int32))]) rfl k) ?_
    show OGo p e below _ (T9.setTop (mkF m 39 #[.val (.ref a), .val (.ref r), .val (.int (1 : Int32))] []))
    refine OGo.by_ (fun t k => XS.goto X9.here hx rfl (pc0 := 39) (pc' := 17) rfl (hb hby d_vi1_39) (by decide) (by decide) k) ?_
    show OGo p e below _ (T9.setTop (mkF m 17 #[.val (.ref a), .val (.ref r), .val (.int (1 : Int32))] []))
    refine OGo.by_ (fun t k => XS.iloadN X9.here hx rfl (hb hby d_vi1_17) rfl k) ?_
    show OGo p e below _ (T9.setTop (mkF m 18 #[.val (.ref a), .val (.ref r), .val (.int (1 : Int32))] [(.int (1 : Int32))]))
    refine OGo.by_ (fun t k => XS.aloadN X9.here hx rfl (hb hby d_vi1_18) rfl rfl k) ?_
    show OGo p e below _ (T9.setTop (mkF m 19 #[.val (.ref a), .val (.ref r), .val (.int (1 : Int32))] [(.ref r), (.int (1 : Int32))]))
    obtain ⟨cl10, Ar10, q10, S10, Nn10, H10, G10⟩ := id U1
    refine OGo.by_ (X9.arraylength hx (by rw [e9]; exact Ar10.1) (State.isArrayOf_alike hZ.alike Ar10.2.1) (g := (mkF m 19 #[.val (.ref a), .val (.ref r), .val (.int (1 : Int32))] [(.ref r), (.int (1 : Int32))])) rfl rfl (hb hby d_vi1_19)) ?_
    rw [len_of S10 Nn10]
    show OGo p e below _ (T9.setTop (mkF m 20 #[.val (.ref a), .val (.ref r), .val (.int (1 : Int32))] [(.int (1 : Int32)), (.int (1 : Int32))]))
    refine OGo.by_ (fun t k => XS.icmpYes X9.here hx rfl (pc0 := 20) (pc' := 42) rfl (hb hby d_vi1_20) rfl (flt (by decide)).2.1 (by decide) (by decide) k) ?_
    show OGo p e below _ (T9.setTop (mkF m 42 #[.val (.ref a), .val (.ref r), .val (.int (1 : Int32))] []))
    refine OGo.by_ (fun t k => XS.goto X9.here hx rfl (pc0 := 42) (pc' := 56) rfl (hb hby d_vi1_42) (by decide) (by decide) k) ?_
    show OGo p e below _ (T9.setTop (mkF m 56 #[.val (.ref a), .val (.ref r), .val (.int (1 : Int32))] []))
    refine OGo.by_ (fun t k => XS.aloadN X9.here hx rfl (hb hby d_vi1_56) rfl rfl k) ?_
    show OGo p e below _ (T9.setTop (mkF m 57 #[.val (.ref a), .val (.ref r), .val (.int (1 : Int32))] [(.ref r)]))
    exact own_retA X9 hx hlk hret rfl rfl (hb hby d_vi1_57) (by decide) (by decide) (by rw [e9]; exact ⟨congrArg (fun z => some (Value.ref z)) g_r, N9, K0_', k4, g_r ▸ U1⟩)
  · refine OGo.by_ (fun t k => XS.aloadN X0.here hx rfl (hb hby d_vi1_0) rfl rfl k) ?_
    show OGo p e below _ (s₁.setTop (mkF m 1 #[.val (.ref a), .unset, .unset] [(.ref a)]))
    obtain ⟨T11, X11, e11, st11⟩ := getF X0 hx hZ hown (host := "") (Or.inl (hw _ (List.mem_of_getElem? (i := 15) rfl))) Via.refl e0 FS (g := (mkF m 1 #[.val (.ref a), .unset, .unset] [(.ref a)])) rfl rfl (hb hby d_vi1_1)
    refine OGo.by_ st11 ?_
    show OGo p e below _ (T11.setTop (mkF m 4 #[.val (.ref a), .unset, .unset] [.null]))
    refine OGo.by_ (fun t k => XS.ifnullYes X11.here hx rfl (pc0 := 4) (pc' := 45) rfl (hb hby d_vi1_4) rfl (by decide) (by decide) k) ?_
    show OGo p e below _ (T11.setTop (mkF m 45 #[.val (.ref a), .unset, .unset] []))
    refine OGo.by_ (fun t k => XS.aloadN X11.here hx rfl (hb hby d_vi1_45) rfl rfl k) ?_
    show OGo p e below _ (T11.setTop (mkF m 46 #[.val (.ref a), .unset, .unset] [(.ref a)]))
    obtain ⟨T12, X12, e12, st12⟩ := getF X11 hx hZ hown (host := "") (Or.inl (hw _ (List.mem_of_getElem? (i := 17) rfl))) Via.refl e11 FV (g := (mkF m 46 #[.val (.ref a), .unset, .unset] [(.ref a)])) rfl rfl (hb hby d_vi1_46)
    refine OGo.by_ st12 ?_
    show OGo p e below _ (T12.setTop (mkF m 49 #[.val (.ref a), .unset, .unset] [(.ref b)]))
    obtain ⟨T13, h13, X13, e13, E13, Va13, Ea13, st13⟩ := cloneH X12 hx hZ hown (hw _ (List.mem_of_getElem? (i := 27) rfl)) (hw _ (List.mem_of_getElem? (i := 28) rfl)) (hw _ (List.mem_of_getElem? (i := 32) rfl)) (hw _ (List.mem_of_getElem? (i := 30) rfl)) (hw _ (List.mem_of_getElem? (i := 31) rfl)) (hw _ (List.mem_of_getElem? (i := 33) rfl)) e12 (Arv.arh Vb) EB (g := (mkF m 49 #[.val (.ref a), .unset, .unset] [(.ref b)])) rfl (by rw [hml]; rfl) rfl (hb hby d_vi1_49) (by decide) (W := 0) (by show 2 * 0 + _ ≤ _; exact Nat.le_of_eq rfl) (by decide) (cap := 3) (by decide) (by decide) (by decide)
    obtain ⟨r, g_r⟩ : ∃ z, z = h0.size := ⟨_, rfl⟩
    rw [← g_r] at Va13 Ea13 st13
    refine OGo.by_ st13 ?_
    show OGo p e below _ (T13.setTop (mkF m 52 #[.val (.ref a), .unset, .unset] [(.ref r)]))
    obtain ⟨T14, X14, e14, st14⟩ := castY X13 hx hZ hown (hw _ (List.mem_of_getElem? (i := 34) rfl)) e13 (Ins.self Ea13) (g := (mkF m 52 #[.val (.ref a), .unset, .unset] [(.ref r)])) rfl rfl (hb hby d_vi1_52)
    refine OGo.by_ st14 ?_
    show OGo p e below _ (T14.setTop (mkF m 55 #[.val (.ref a), .unset, .unset] [(.ref r)]))
    refine OGo.by_ (fun t k => XS.astoreN X14.here hx rfl (hb hby d_vi1_55) rfl rfl (l' := #[.val (.ref a), .val (.ref r), .unset]) rfl k) ?_
    show OGo p e below _ (T14.setTop (mkF m 56 #[.val (.ref a), .val (.ref r), .unset] []))
    refine OGo.by_ (fun t k => XS.aloadN X14.here hx rfl (hb hby d_vi1_56) rfl rfl k) ?_
    show OGo p e below _ (T14.setTop (mkF m 57 #[.val (.ref a), .val (.ref r), .unset] [(.ref r)]))
    exact own_retA X14 hx hlk hret rfl rfl (hb hby d_vi1_57) (by decide) (by decide) (by rw [e14]; exact ⟨congrArg (fun z => some (Value.ref z)) g_r, N0, own_ext_keep E13, kb, g_r ▸ Va13⟩)
theorem d_vi2_0 : decode prog_92_method_3_code 0 = .ok (.aload_n 0, 1) := by decide +kernel
theorem d_vi2_1 : decode prog_92_method_3_code 1 = .ok (.getfield 7, 3) := by decide +kernel
theorem d_vi2_4 : decode prog_92_method_3_code 4 = .ok (.ifnull 41, 3) := by decide +kernel
theorem d_vi2_7 : decode prog_92_method_3_code 7 = .ok (.aload_n 0, 1) := by decide +kernel
theorem d_vi2_8 : decode prog_92_method_3_code 8 = .ok (.getfield 7, 3) := by decide +kernel
theorem d_vi2_11 : decode prog_92_method_3_code 11 = .ok (.arraylength, 1) := by decide +kernel
theorem d_vi2_12 : decode prog_92_method_3_code 12 = .ok (.newarray .int, 2) := by decide +kernel
theorem d_vi2_14 : decode prog_92_method_3_code 14 = .ok (.astore_n 1, 1) := by decide +kernel
theorem d_vi2_15 : decode prog_92_method_3_code 15 = .ok (.iconst 0, 1) := by decide +kernel
theorem d_vi2_16 : decode prog_92_method_3_code 16 = .ok (.istore_n 2, 1) := by decide +kernel
theorem d_vi2_17 : decode prog_92_method_3_code 17 = .ok (.iload_n 2, 1) := by decide +kernel
theorem d_vi2_18 : decode prog_92_method_3_code 18 = .ok (.aload_n 1, 1) := by decide +kernel
theorem d_vi2_19 : decode prog_92_method_3_code 19 = .ok (.arraylength, 1) := by decide +kernel
theorem d_vi2_20 : decode prog_92_method_3_code 20 = .ok (.if_icmp .ge 22, 3) := by decide +kernel
theorem d_vi2_23 : decode prog_92_method_3_code 23 = .ok (.aload_n 1, 1) := by decide +kernel
theorem d_vi2_24 : decode prog_92_method_3_code 24 = .ok (.iload_n 2, 1) := by decide +kernel
theorem d_vi2_25 : decode prog_92_method_3_code 25 = .ok (.aload_n 0, 1) := by decide +kernel
theorem d_vi2_26 : decode prog_92_method_3_code 26 = .ok (.getfield 7, 3) := by decide +kernel
theorem d_vi2_29 : decode prog_92_method_3_code 29 = .ok (.iload_n 2, 1) := by decide +kernel
theorem d_vi2_30 : decode prog_92_method_3_code 30 = .ok (.baload, 1) := by decide +kernel
theorem d_vi2_31 : decode prog_92_method_3_code 31 = .ok (.sipush 255, 3) := by decide +kernel
theorem d_vi2_34 : decode prog_92_method_3_code 34 = .ok (.iand, 1) := by decide +kernel
theorem d_vi2_35 : decode prog_92_method_3_code 35 = .ok (.iastore, 1) := by decide +kernel
theorem d_vi2_36 : decode prog_92_method_3_code 36 = .ok (.iinc 2 1, 3) := by decide +kernel
theorem d_vi2_39 : decode prog_92_method_3_code 39 = .ok (.goto (-22), 3) := by decide +kernel
theorem d_vi2_42 : decode prog_92_method_3_code 42 = .ok (.goto 14, 3) := by decide +kernel
theorem d_vi2_56 : decode prog_92_method_3_code 56 = .ok (.aload_n 1, 1) := by decide +kernel
theorem d_vi2_57 : decode prog_92_method_3_code 57 = .ok (.areturn, 1) := by decide +kernel
theorem d_vi2_45 : decode prog_92_method_3_code 45 = .ok (.aload_n 0, 1) := by decide +kernel
theorem d_vi2_46 : decode prog_92_method_3_code 46 = .ok (.getfield 13, 3) := by decide +kernel
theorem d_vi2_49 : decode prog_92_method_3_code 49 = .ok (.invokevirtual 17, 3) := by decide +kernel
theorem d_vi2_52 : decode prog_92_method_3_code 52 = .ok (.checkcast 18, 3) := by decide +kernel
theorem d_vi2_55 : decode prog_92_method_3_code 55 = .ok (.astore_n 1, 1) := by decide +kernel
theorem ef_vi2 (m : MethodId) (x0 : Addr) : entryFrame m #[(.ref x0)] 3 = mkF m 0 #[.val (.ref x0), .unset, .unset] [] := by first | (simp [entryFrame, mkF, argsToLocals, Value.category]; done) | rfl
def Q_vi2 (Z : State) (a b : Addr) (x y z : Int32) (h0 : Heap) (n0 : Nat) (v : Option Value) (h : Heap) (L : List Loc) : Prop := v = some (.ref h0.size) ∧ Fr n0 L ∧ Keep h0 h [] ∧ ∃ k, Arv Z h h0.size k .int (2 : Int32) [(.int x), (.int y)] (.int (0 : Int32))
set_option maxRecDepth 65536 in
set_option maxHeartbeats 40000000 in
theorem rm_vi2 (l : Launch) (Z : State) (a0 : Array Value) (hw : ∀ d ∈ tables_1, d.before a0 Z = true) (ws : List Jvm.Cond) (a b : Addr) (x y z : Int32) (h0 : Heap) (n0 : Nat) (Z0 : n0 ≤ h0.size) (ST : own_ST Z h0 a b (2 : Int32) [x, y]) :
    MetFree l (⟨"com/example/fair_witness/fairwitness/model/State", "valueIndices", "()[I"⟩ : MethodName) (head1 (Jvm.Cond.code (⟨"com/example/fair_witness/fairwitness/model/State", "valueIndices", "()[I"⟩ : MethodName) prog_92_method_3_code 3 (some (.array .int)) :: ws) ({ frames := 1, cells := 1, slots := 3, locals := 14 } : Room)) (fun a_ U => a_ = #[(.ref a)] ∧ Z.Warmed39 U.vm ∧ U.heap = h0) (fun _ _ _ _ _ => True) (fun _ U o U' => ∃ v L, o = .returned v ∧ Q_vi2 Z a b x y z h0 n0 v U'.heap L ∧ FrameEnd U o U' L ({ frames := 1, cells := 1, slots := 3, locals := 14 } : Room).cells ({ frames := 1, cells := 1, slots := 3, locals := 14 } : Room).slots) := by
  refine MetFree.of_bodySF (plainFor_of_name pn_com_example_fair_witness_fairwitness_model_State) hisR ?_
  intro p e s m args below meth c s₁ Bd hml0 hP hK
  obtain ⟨rfl, hZ, hh⟩ := hP
  have hx := Bd.exec
  have hby := Bd.bytes
  have hml : c.maxLocals = 3 := hml0
  have hown : s.vm.findClass "com/example/fair_witness/fairwitness/model/State" = some m.cls := findClass_of_methodNamed Bd.named
  have hnm := (name_of_methodNamed Bd.named Bd.method).1
  have X0 : Stand p l e ({ frames := 1, cells := 1, slots := 3, locals := 14 } : Room) s m #[(.ref a)] below meth c s₁ [] 0 0 := Stand.of_body Bd
  have e0 : s₁.heap = h0 := by rw [← hh, Bd.state]; rfl
  have N0 := Fr.nil n0
  have hlk := Bd.notSynchronized
  have hret := Bd.returns
  show OGo p e below (OEnd s (Q_vi2 Z a b x y z h0 n0) ({ frames := 1, cells := 1, slots := 3, locals := 14 } : Room).cells ({ frames := 1, cells := 1, slots := 3, locals := 14 } : Room).slots) (s₁.setTop (entryFrame m #[(.ref a)] 3))
  rw [ef_vi2]
  show OGo p e below _ (s₁.setTop (mkF m 0 #[.val (.ref a), .unset, .unset] []))
  obtain ⟨E0, ⟨FS, FV, ⟨kb, Vb⟩, hsm⟩ | ⟨FS, FV, EB, kb, Vb⟩⟩ := ST
  · refine OGo.by_ (fun t k => XS.aloadN X0.here hx rfl (hb hby d_vi2_0) rfl rfl k) ?_
    show OGo p e below _ (s₁.setTop (mkF m 1 #[.val (.ref a), .unset, .unset] [(.ref a)]))
    obtain ⟨T1, X1, e1, st1⟩ := getF X0 hx hZ hown (host := "") (Or.inl (hw _ (List.mem_of_getElem? (i := 15) rfl))) Via.refl e0 FS (g := (mkF m 1 #[.val (.ref a), .unset, .unset] [(.ref a)])) rfl rfl (hb hby d_vi2_1)
    refine OGo.by_ st1 ?_
    show OGo p e below _ (T1.setTop (mkF m 4 #[.val (.ref a), .unset, .unset] [(.ref b)]))
    refine OGo.by_ (fun t k => XS.ifnullNo X1.here hx rfl (hb hby d_vi2_4) rfl k) ?_
    show OGo p e below _ (T1.setTop (mkF m 7 #[.val (.ref a), .unset, .unset] []))
    refine OGo.by_ (fun t k => XS.aloadN X1.here hx rfl (hb hby d_vi2_7) rfl rfl k) ?_
    show OGo p e below _ (T1.setTop (mkF m 8 #[.val (.ref a), .unset, .unset] [(.ref a)]))
    obtain ⟨T2, X2, e2, st2⟩ := getF X1 hx hZ hown (host := "") (Or.inl (hw _ (List.mem_of_getElem? (i := 15) rfl))) Via.refl e1 FS (g := (mkF m 8 #[.val (.ref a), .unset, .unset] [(.ref a)])) rfl rfl (hb hby d_vi2_8)
    refine OGo.by_ st2 ?_
    show OGo p e below _ (T2.setTop (mkF m 11 #[.val (.ref a), .unset, .unset] [(.ref b)]))
    obtain ⟨cl3, Ar3, q3, S3, Nn3, H3, G3⟩ := id Vb
    refine OGo.by_ (X2.arraylength hx (by rw [e2]; exact Ar3.1) (State.isArrayOf_alike hZ.alike Ar3.2.1) (g := (mkF m 11 #[.val (.ref a), .unset, .unset] [(.ref b)])) rfl rfl (hb hby d_vi2_11)) ?_
    rw [len_of S3 Nn3]
    show OGo p e below _ (T2.setTop (mkF m 12 #[.val (.ref a), .unset, .unset] [(.int (2 : Int32))]))
    obtain ⟨T4, h4, k4, X4, e4, E4, A4, st4⟩ := newP X2 hx hZ (hw _ (List.mem_of_getElem? (i := 4) rfl)) e2 (g := (mkF m 12 #[.val (.ref a), .unset, .unset] [(.int (2 : Int32))])) rfl (hb hby d_vi2_12) rfl (by decide) (cap := 3) (by decide) (by decide) (by decide) (by decide)
    obtain ⟨r, g_r⟩ : ∃ z, z = h0.size := ⟨_, rfl⟩
    rw [← g_r] at A4 st4
    have V_r := Arv.new A4 (by decide)
    have lt_r := own_lt V_r.lt
    refine OGo.by_ st4 ?_
    show OGo p e below _ (T4.setTop (mkF m 14 #[.val (.ref a), .unset, .unset] [(.ref r)]))
    have ltb : h0.size > b := Vb.lt
    have lta : h0.size > a := E0.lt
    have hbr : b ≠ r := own_ne (by omega)
    have har : a ≠ r := own_ne (by omega)
    have gr : n0 ≤ r := by omega
    have K0_ : Keep h0 h4 [] := own_ext_keep E4
    have FS0 := FS.ext E4
    have B0 := Vb.ext E4
    have U0' : Arv Z h4 r k4 .int (2 : Int32) [(.int (0 : Int32)), (.int (0 : Int32))] (.int (0 : Int32)) := V_r.pad (pad_rep [] _ 2)
    refine OGo.by_ (fun t k => XS.astoreN X4.here hx rfl (hb hby d_vi2_14) rfl rfl (l' := #[.val (.ref a), .val (.ref r), .unset]) rfl k) ?_
    show OGo p e below _ (T4.setTop (mkF m 15 #[.val (.ref a), .val (.ref r), .unset] []))
    refine OGo.by_ (fun t k => XS.iconst X4.here hx rfl (hb hby d_vi2_15) k) ?_
    show OGo p e below _ (T4.setTop (mkF m 16 #[.val (.ref a), .val (.ref r), .unset] [(.int (0 : Int32))]))
    refine OGo.by_ (fun t k => XS.istoreN X4.here hx rfl (hb hby d_vi2_16) rfl (l' := #[.val (.ref a), .val (.ref r), .val (.int (0 : Int32))]) rfl k) ?_
    show OGo p e below _ (T4.setTop (mkF m 17 #[.val (.ref a), .val (.ref r), .val (.int (0 : Int32))] []))
    refine OGo.by_ (fun t k => XS.iloadN X4.here hx rfl (hb hby d_vi2_17) rfl k) ?_
    show OGo p e below _ (T4.setTop (mkF m 18 #[.val (.ref a), .val (.ref r), .val (.int (0 : Int32))] [(.int (0 : Int32))]))
    refine OGo.by_ (fun t k => XS.aloadN X4.here hx rfl (hb hby d_vi2_18) rfl rfl k) ?_
    show OGo p e below _ (T4.setTop (mkF m 19 #[.val (.ref a), .val (.ref r), .val (.int (0 : Int32))] [(.ref r), (.int (0 : Int32))]))
    obtain ⟨cl5, Ar5, q5, S5, Nn5, H5, G5⟩ := id U0'
    refine OGo.by_ (X4.arraylength hx (by rw [e4]; exact Ar5.1) (State.isArrayOf_alike hZ.alike Ar5.2.1) (g := (mkF m 19 #[.val (.ref a), .val (.ref r), .val (.int (0 : Int32))] [(.ref r), (.int (0 : Int32))])) rfl rfl (hb hby d_vi2_19)) ?_
    rw [len_of S5 Nn5]
    show OGo p e below _ (T4.setTop (mkF m 20 #[.val (.ref a), .val (.ref r), .val (.int (0 : Int32))] [(.int (2 : Int32)), (.int (0 : Int32))]))
    refine OGo.by_ (fun t k => XS.icmpNo X4.here hx rfl (hb hby d_vi2_20) rfl (tlt (by decide)).2.1 k) ?_
    show OGo p e below _ (T4.setTop (mkF m 23 #[.val (.ref a), .val (.ref r), .val (.int (0 : Int32))] []))
    refine OGo.by_ (fun t k => XS.aloadN X4.here hx rfl (hb hby d_vi2_23) rfl rfl k) ?_
    show OGo p e below _ (T4.setTop (mkF m 24 #[.val (.ref a), .val (.ref r), .val (.int (0 : Int32))] [(.ref r)]))
    refine OGo.by_ (fun t k => XS.iloadN X4.here hx rfl (hb hby d_vi2_24) rfl k) ?_
    show OGo p e below _ (T4.setTop (mkF m 25 #[.val (.ref a), .val (.ref r), .val (.int (0 : Int32))] [(.int (0 : Int32)), (.ref r)]))
    refine OGo.by_ (fun t k => XS.aloadN X4.here hx rfl (hb hby d_vi2_25) rfl rfl k) ?_
    show OGo p e below _ (T4.setTop (mkF m 26 #[.val (.ref a), .val (.ref r), .val (.int (0 : Int32))] [(.ref a), (.int (0 : Int32)), (.ref r)]))
    obtain ⟨T6, X6, e6, st6⟩ := getF X4 hx hZ hown (host := "") (Or.inl (hw _ (List.mem_of_getElem? (i := 15) rfl))) Via.refl e4 FS0 (g := (mkF m 26 #[.val (.ref a), .val (.ref r), .val (.int (0 : Int32))] [(.ref a), (.int (0 : Int32)), (.ref r)])) rfl rfl (hb hby d_vi2_26)
    refine OGo.by_ st6 ?_
    show OGo p e below _ (T6.setTop (mkF m 29 #[.val (.ref a), .val (.ref r), .val (.int (0 : Int32))] [(.ref b), (.int (0 : Int32)), (.ref r)]))
    refine OGo.by_ (fun t k => XS.iloadN X6.here hx rfl (hb hby d_vi2_29) rfl k) ?_
    show OGo p e below _ (T6.setTop (mkF m 30 #[.val (.ref a), .val (.ref r), .val (.int (0 : Int32))] [(.int (0 : Int32)), (.ref b), (.int (0 : Int32)), (.ref r)]))
    obtain ⟨cl7, Ar7, q7, S7, Nn7, H7, G7⟩ := id B0
    have in7 := inb_of S7 ⟨(by decide : ¬ (0 : Int32) < 0), (by decide : (0 : Int32) < (2 : Int32))⟩
    refine OGo.by_ (fun t kk => X6.baloadBytes hx (j := (0 : Int32)) (v := (.int (x.toInt8.toInt32))) (by rw [e6]; exact Ar7.1) (State.isArrayOf_alike hZ.alike Ar7.2.1) Ar7.2.2 in7 (H7.at in7 (rfl)) (g := (mkF m 30 #[.val (.ref a), .val (.ref r), .val (.int (0 : Int32))] [(.int (0 : Int32)), (.ref b), (.int (0 : Int32)), (.ref r)])) rfl rfl (hb hby d_vi2_30) _ kk) ?_
    show OGo p e below _ (T6.setTop (mkF m 31 #[.val (.ref a), .val (.ref r), .val (.int (0 : Int32))] [(.int (x.toInt8.toInt32)), (.int (0 : Int32)), (.ref r)]))
    refine OGo.by_ (fun t k => XS.sipush X6.here hx rfl (hb hby d_vi2_31) k) ?_
    show OGo p e below _ (T6.setTop (mkF m 34 #[.val (.ref a), .val (.ref r), .val (.int (0 : Int32))] [(.int (255 : Int32)), (.int (x.toInt8.toInt32)), (.int (0 : Int32)), (.ref r)]))
    refine OGo.by_ (fun t k => XS.iand X6.here hx rfl (hb hby d_vi2_34) rfl k) ?_
    show OGo p e below _ (T6.setTop (mkF m 35 #[.val (.ref a), .val (.ref r), .val (.int (0 : Int32))] [(.int ((x.toInt8.toInt32) &&& (255 : Int32))), (.int (0 : Int32)), (.ref r)]))
    rw [show ((x.toInt8.toInt32) &&& (255 : Int32)) = x from hsm _ (List.mem_of_getElem? (i := 0) rfl)]
    show OGo p e below _ (T6.setTop (mkF m 35 #[.val (.ref a), .val (.ref r), .val (.int (0 : Int32))] [(.int x), (.int (0 : Int32)), (.ref r)]))
    obtain ⟨cl8, Ar8, q8, S8, Nn8, H8, G8⟩ := id U0'
    obtain ⟨T9, h9, X9, e9, W9, st9⟩ := stI X6 hx hZ e6 Ar8 (j := (0 : Int32)) (inb_of S8 ⟨(by decide : ¬ (0 : Int32) < 0), (by decide : (0 : Int32) < (2 : Int32))⟩) (g := (mkF m 35 #[.val (.ref a), .val (.ref r), .val (.int (0 : Int32))] [(.int x), (.int (0 : Int32)), (.ref r)])) rfl rfl (hb hby d_vi2_35)
    refine OGo.by_ st9 ?_
    show OGo p e below _ (T9.setTop (mkF m 36 #[.val (.ref a), .val (.ref r), .val (.int (0 : Int32))] []))
    have N9 := Fr.snoc X9 N0 gr
    have U1 := Arv.set Ar8 q8 S8 Nn8 H8 G8 (v := .int x) rfl W9 0 (by decide) (Nat.le_of_ble_eq_true rfl)
    have FS0_ := FS0.other W9 (Or.inl har)
    have B0_ := B0.other W9 hbr
    have K0_' := Keep.wr K0_ W9 (Or.inr (Nat.le_of_eq g_r.symm))
    refine OGo.by_ (fun t k => XS.iinc X9.here hx rfl (hb hby d_vi2_36) rfl (l' := #[.val (.ref a), .val (.ref r), .val (.int (1 : Int32))]) rfl k) ?_
    show OGo p e below _ (T9.setTop (mkF m 39 #[.val (.ref a), .val (.ref r), .val (.int (1 : Int32))] []))
    refine OGo.by_ (fun t k => XS.goto X9.here hx rfl (pc0 := 39) (pc' := 17) rfl (hb hby d_vi2_39) (by decide) (by decide) k) ?_
    show OGo p e below _ (T9.setTop (mkF m 17 #[.val (.ref a), .val (.ref r), .val (.int (1 : Int32))] []))
    refine OGo.by_ (fun t k => XS.iloadN X9.here hx rfl (hb hby d_vi2_17) rfl k) ?_
    show OGo p e below _ (T9.setTop (mkF m 18 #[.val (.ref a), .val (.ref r), .val (.int (1 : Int32))] [(.int (1 : Int32))]))
    refine OGo.by_ (fun t k => XS.aloadN X9.here hx rfl (hb hby d_vi2_18) rfl rfl k) ?_
    show OGo p e below _ (T9.setTop (mkF m 19 #[.val (.ref a), .val (.ref r), .val (.int (1 : Int32))] [(.ref r), (.int (1 : Int32))]))
    obtain ⟨cl10, Ar10, q10, S10, Nn10, H10, G10⟩ := id U1
    refine OGo.by_ (X9.arraylength hx (by rw [e9]; exact Ar10.1) (State.isArrayOf_alike hZ.alike Ar10.2.1) (g := (mkF m 19 #[.val (.ref a), .val (.ref r), .val (.int (1 : Int32))] [(.ref r), (.int (1 : Int32))])) rfl rfl (hb hby d_vi2_19)) ?_
    rw [len_of S10 Nn10]
    show OGo p e below _ (T9.setTop (mkF m 20 #[.val (.ref a), .val (.ref r), .val (.int (1 : Int32))] [(.int (2 : Int32)), (.int (1 : Int32))]))
    refine OGo.by_ (fun t k => XS.icmpNo X9.here hx rfl (hb hby d_vi2_20) rfl (tlt (by decide)).2.1 k) ?_
    show OGo p e below _ (T9.setTop (mkF m 23 #[.val (.ref a), .val (.ref r), .val (.int (1 : Int32))] []))
    refine OGo.by_ (fun t k => XS.aloadN X9.here hx rfl (hb hby d_vi2_23) rfl rfl k) ?_
    show OGo p e below _ (T9.setTop (mkF m 24 #[.val (.ref a), .val (.ref r), .val (.int (1 : Int32))] [(.ref r)]))
    refine OGo.by_ (fun t k => XS.iloadN X9.here hx rfl (hb hby d_vi2_24) rfl k) ?_
    show OGo p e below _ (T9.setTop (mkF m 25 #[.val (.ref a), .val (.ref r), .val (.int (1 : Int32))] [(.int (1 : Int32)), (.ref r)]))
    refine OGo.by_ (fun t k => XS.aloadN X9.here hx rfl (hb hby d_vi2_25) rfl rfl k) ?_
    show OGo p e below _ (T9.setTop (mkF m 26 #[.val (.ref a), .val (.ref r), .val (.int (1 : Int32))] [(.ref a), (.int (1 : Int32)), (.ref r)]))
    obtain ⟨T11, X11, e11, st11⟩ := getF X9 hx hZ hown (host := "") (Or.inl (hw _ (List.mem_of_getElem? (i := 15) rfl))) Via.refl e9 FS0_ (g := (mkF m 26 #[.val (.ref a), .val (.ref r), .val (.int (1 : Int32))] [(.ref a), (.int (1 : Int32)), (.ref r)])) rfl rfl (hb hby d_vi2_26)
    refine OGo.by_ st11 ?_
    show OGo p e below _ (T11.setTop (mkF m 29 #[.val (.ref a), .val (.ref r), .val (.int (1 : Int32))] [(.ref b), (.int (1 : Int32)), (.ref r)]))
    refine OGo.by_ (fun t k => XS.iloadN X11.here hx rfl (hb hby d_vi2_29) rfl k) ?_
    show OGo p e below _ (T11.setTop (mkF m 30 #[.val (.ref a), .val (.ref r), .val (.int (1 : Int32))] [(.int (1 : Int32)), (.ref b), (.int (1 : Int32)), (.ref r)]))
    obtain ⟨cl12, Ar12, q12, S12, Nn12, H12, G12⟩ := id B0_
    have in12 := inb_of S12 ⟨(by decide : ¬ (1 : Int32) < 0), (by decide : (1 : Int32) < (2 : Int32))⟩
    refine OGo.by_ (fun t kk => X11.baloadBytes hx (j := (1 : Int32)) (v := (.int (y.toInt8.toInt32))) (by rw [e11]; exact Ar12.1) (State.isArrayOf_alike hZ.alike Ar12.2.1) Ar12.2.2 in12 (H12.at in12 (rfl)) (g := (mkF m 30 #[.val (.ref a), .val (.ref r), .val (.int (1 : Int32))] [(.int (1 : Int32)), (.ref b), (.int (1 : Int32)), (.ref r)])) rfl rfl (hb hby d_vi2_30) _ kk) ?_
    show OGo p e below _ (T11.setTop (mkF m 31 #[.val (.ref a), .val (.ref r), .val (.int (1 : Int32))] [(.int (y.toInt8.toInt32)), (.int (1 : Int32)), (.ref r)]))
    refine OGo.by_ (fun t k => XS.sipush X11.here hx rfl (hb hby d_vi2_31) k) ?_
    show OGo p e below _ (T11.setTop (mkF m 34 #[.val (.ref a), .val (.ref r), .val (.int (1 : Int32))] [(.int (255 : Int32)), (.int (y.toInt8.toInt32)), (.int (1 : Int32)), (.ref r)]))
    refine OGo.by_ (fun t k => XS.iand X11.here hx rfl (hb hby d_vi2_34) rfl k) ?_
    show OGo p e below _ (T11.setTop (mkF m 35 #[.val (.ref a), .val (.ref r), .val (.int (1 : Int32))] [(.int ((y.toInt8.toInt32) &&& (255 : Int32))), (.int (1 : Int32)), (.ref r)]))
    rw [show ((y.toInt8.toInt32) &&& (255 : Int32)) = y from hsm _ (List.mem_of_getElem? (i := 1) rfl)]
    show OGo p e below _ (T11.setTop (mkF m 35 #[.val (.ref a), .val (.ref r), .val (.int (1 : Int32))] [(.int y), (.int (1 : Int32)), (.ref r)]))
    obtain ⟨cl13, Ar13, q13, S13, Nn13, H13, G13⟩ := id U1
    obtain ⟨T14, h14, X14, e14, W14, st14⟩ := stI X11 hx hZ e11 Ar13 (j := (1 : Int32)) (inb_of S13 ⟨(by decide : ¬ (1 : Int32) < 0), (by decide : (1 : Int32) < (2 : Int32))⟩) (g := (mkF m 35 #[.val (.ref a), .val (.ref r), .val (.int (1 : Int32))] [(.int y), (.int (1 : Int32)), (.ref r)])) rfl rfl (hb hby d_vi2_35)
    refine OGo.by_ st14 ?_
    show OGo p e below _ (T14.setTop (mkF m 36 #[.val (.ref a), .val (.ref r), .val (.int (1 : Int32))] []))
    have N14 := Fr.snoc X14 N9 gr
    have U2 := Arv.set Ar13 q13 S13 Nn13 H13 G13 (v := .int y) rfl W14 1 (by decide) (Nat.le_of_ble_eq_true rfl)
    have FS1_ := FS0_.other W14 (Or.inl har)
    have B1_ := B0_.other W14 hbr
    have K1_' := Keep.wr K0_' W14 (Or.inr (Nat.le_of_eq g_r.symm))
    refine OGo.by_ (fun t k => XS.iinc X14.here hx rfl (hb hby d_vi2_36) rfl (l' := #[.val (.ref a), .val (.ref r), .val (.int (2 : Int32))]) rfl k) ?_
    show OGo p e below _ (T14.setTop (mkF m 39 #[.val (.ref a), .val (.ref r), .val (.int (2 : Int32))] []))
    refine OGo.by_ (fun t k => XS.goto X14.here hx rfl (pc0 := 39) (pc' := 17) rfl (hb hby d_vi2_39) (by decide) (by decide) k) ?_
    show OGo p e below _ (T14.setTop (mkF m 17 #[.val (.ref a), .val (.ref r), .val (.int (2 : Int32))] []))
    refine OGo.by_ (fun t k => XS.iloadN X14.here hx rfl (hb hby d_vi2_17) rfl k) ?_
    show OGo p e below _ (T14.setTop (mkF m 18 #[.val (.ref a), .val (.ref r), .val (.int (2 : Int32))] [(.int (2 : Int32))]))
    refine OGo.by_ (fun t k => XS.aloadN X14.here hx rfl (hb hby d_vi2_18) rfl rfl k) ?_
    show OGo p e below _ (T14.setTop (mkF m 19 #[.val (.ref a), .val (.ref r), .val (.int (2 : Int32))] [(.ref r), (.int (2 : Int32))]))
    obtain ⟨cl15, Ar15, q15, S15, Nn15, H15, G15⟩ := id U2
    refine OGo.by_ (X14.arraylength hx (by rw [e14]; exact Ar15.1) (State.isArrayOf_alike hZ.alike Ar15.2.1) (g := (mkF m 19 #[.val (.ref a), .val (.ref r), .val (.int (2 : Int32))] [(.ref r), (.int (2 : Int32))])) rfl rfl (hb hby d_vi2_19)) ?_
    rw [len_of S15 Nn15]
    show OGo p e below _ (T14.setTop (mkF m 20 #[.val (.ref a), .val (.ref r), .val (.int (2 : Int32))] [(.int (2 : Int32)), (.int (2 : Int32))]))
    refine OGo.by_ (fun t k => XS.icmpYes X14.here hx rfl (pc0 := 20) (pc' := 42) rfl (hb hby d_vi2_20) rfl (flt (by decide)).2.1 (by decide) (by decide) k) ?_
    show OGo p e below _ (T14.setTop (mkF m 42 #[.val (.ref a), .val (.ref r), .val (.int (2 : Int32))] []))
    refine OGo.by_ (fun t k => XS.goto X14.here hx rfl (pc0 := 42) (pc' := 56) rfl (hb hby d_vi2_42) (by decide) (by decide) k) ?_
    show OGo p e below _ (T14.setTop (mkF m 56 #[.val (.ref a), .val (.ref r), .val (.int (2 : Int32))] []))
    refine OGo.by_ (fun t k => XS.aloadN X14.here hx rfl (hb hby d_vi2_56) rfl rfl k) ?_
    show OGo p e below _ (T14.setTop (mkF m 57 #[.val (.ref a), .val (.ref r), .val (.int (2 : Int32))] [(.ref r)]))
    exact own_retA X14 hx hlk hret rfl rfl (hb hby d_vi2_57) (by decide) (by decide) (by rw [e14]; exact ⟨congrArg (fun z => some (Value.ref z)) g_r, N14, K1_', k4, g_r ▸ U2⟩)
  · refine OGo.by_ (fun t k => XS.aloadN X0.here hx rfl (hb hby d_vi2_0) rfl rfl k) ?_
    show OGo p e below _ (s₁.setTop (mkF m 1 #[.val (.ref a), .unset, .unset] [(.ref a)]))
    obtain ⟨T16, X16, e16, st16⟩ := getF X0 hx hZ hown (host := "") (Or.inl (hw _ (List.mem_of_getElem? (i := 15) rfl))) Via.refl e0 FS (g := (mkF m 1 #[.val (.ref a), .unset, .unset] [(.ref a)])) rfl rfl (hb hby d_vi2_1)
    refine OGo.by_ st16 ?_
    show OGo p e below _ (T16.setTop (mkF m 4 #[.val (.ref a), .unset, .unset] [.null]))
    refine OGo.by_ (fun t k => XS.ifnullYes X16.here hx rfl (pc0 := 4) (pc' := 45) rfl (hb hby d_vi2_4) rfl (by decide) (by decide) k) ?_
    show OGo p e below _ (T16.setTop (mkF m 45 #[.val (.ref a), .unset, .unset] []))
    refine OGo.by_ (fun t k => XS.aloadN X16.here hx rfl (hb hby d_vi2_45) rfl rfl k) ?_
    show OGo p e below _ (T16.setTop (mkF m 46 #[.val (.ref a), .unset, .unset] [(.ref a)]))
    obtain ⟨T17, X17, e17, st17⟩ := getF X16 hx hZ hown (host := "") (Or.inl (hw _ (List.mem_of_getElem? (i := 17) rfl))) Via.refl e16 FV (g := (mkF m 46 #[.val (.ref a), .unset, .unset] [(.ref a)])) rfl rfl (hb hby d_vi2_46)
    refine OGo.by_ st17 ?_
    show OGo p e below _ (T17.setTop (mkF m 49 #[.val (.ref a), .unset, .unset] [(.ref b)]))
    obtain ⟨T18, h18, X18, e18, E18, Va18, Ea18, st18⟩ := cloneH X17 hx hZ hown (hw _ (List.mem_of_getElem? (i := 27) rfl)) (hw _ (List.mem_of_getElem? (i := 28) rfl)) (hw _ (List.mem_of_getElem? (i := 32) rfl)) (hw _ (List.mem_of_getElem? (i := 30) rfl)) (hw _ (List.mem_of_getElem? (i := 31) rfl)) (hw _ (List.mem_of_getElem? (i := 33) rfl)) e17 (Arv.arh Vb) EB (g := (mkF m 49 #[.val (.ref a), .unset, .unset] [(.ref b)])) rfl (by rw [hml]; rfl) rfl (hb hby d_vi2_49) (by decide) (W := 0) (by show 2 * 0 + _ ≤ _; exact Nat.le_of_eq rfl) (by decide) (cap := 3) (by decide) (by decide) (by decide)
    obtain ⟨r, g_r⟩ : ∃ z, z = h0.size := ⟨_, rfl⟩
    rw [← g_r] at Va18 Ea18 st18
    refine OGo.by_ st18 ?_
    show OGo p e below _ (T18.setTop (mkF m 52 #[.val (.ref a), .unset, .unset] [(.ref r)]))
    obtain ⟨T19, X19, e19, st19⟩ := castY X18 hx hZ hown (hw _ (List.mem_of_getElem? (i := 34) rfl)) e18 (Ins.self Ea18) (g := (mkF m 52 #[.val (.ref a), .unset, .unset] [(.ref r)])) rfl rfl (hb hby d_vi2_52)
    refine OGo.by_ st19 ?_
    show OGo p e below _ (T19.setTop (mkF m 55 #[.val (.ref a), .unset, .unset] [(.ref r)]))
    refine OGo.by_ (fun t k => XS.astoreN X19.here hx rfl (hb hby d_vi2_55) rfl rfl (l' := #[.val (.ref a), .val (.ref r), .unset]) rfl k) ?_
    show OGo p e below _ (T19.setTop (mkF m 56 #[.val (.ref a), .val (.ref r), .unset] []))
    refine OGo.by_ (fun t k => XS.aloadN X19.here hx rfl (hb hby d_vi2_56) rfl rfl k) ?_
    show OGo p e below _ (T19.setTop (mkF m 57 #[.val (.ref a), .val (.ref r), .unset] [(.ref r)]))
    exact own_retA X19 hx hlk hret rfl rfl (hb hby d_vi2_57) (by decide) (by decide) (by rw [e19]; exact ⟨congrArg (fun z => some (Value.ref z)) g_r, N0, own_ext_keep E18, kb, g_r ▸ Va18⟩)
theorem d_vi3_0 : decode prog_92_method_3_code 0 = .ok (.aload_n 0, 1) := by decide +kernel
theorem d_vi3_1 : decode prog_92_method_3_code 1 = .ok (.getfield 7, 3) := by decide +kernel
theorem d_vi3_4 : decode prog_92_method_3_code 4 = .ok (.ifnull 41, 3) := by decide +kernel
theorem d_vi3_7 : decode prog_92_method_3_code 7 = .ok (.aload_n 0, 1) := by decide +kernel
theorem d_vi3_8 : decode prog_92_method_3_code 8 = .ok (.getfield 7, 3) := by decide +kernel
theorem d_vi3_11 : decode prog_92_method_3_code 11 = .ok (.arraylength, 1) := by decide +kernel
theorem d_vi3_12 : decode prog_92_method_3_code 12 = .ok (.newarray .int, 2) := by decide +kernel
theorem d_vi3_14 : decode prog_92_method_3_code 14 = .ok (.astore_n 1, 1) := by decide +kernel
theorem d_vi3_15 : decode prog_92_method_3_code 15 = .ok (.iconst 0, 1) := by decide +kernel
theorem d_vi3_16 : decode prog_92_method_3_code 16 = .ok (.istore_n 2, 1) := by decide +kernel
theorem d_vi3_17 : decode prog_92_method_3_code 17 = .ok (.iload_n 2, 1) := by decide +kernel
theorem d_vi3_18 : decode prog_92_method_3_code 18 = .ok (.aload_n 1, 1) := by decide +kernel
theorem d_vi3_19 : decode prog_92_method_3_code 19 = .ok (.arraylength, 1) := by decide +kernel
theorem d_vi3_20 : decode prog_92_method_3_code 20 = .ok (.if_icmp .ge 22, 3) := by decide +kernel
theorem d_vi3_23 : decode prog_92_method_3_code 23 = .ok (.aload_n 1, 1) := by decide +kernel
theorem d_vi3_24 : decode prog_92_method_3_code 24 = .ok (.iload_n 2, 1) := by decide +kernel
theorem d_vi3_25 : decode prog_92_method_3_code 25 = .ok (.aload_n 0, 1) := by decide +kernel
theorem d_vi3_26 : decode prog_92_method_3_code 26 = .ok (.getfield 7, 3) := by decide +kernel
theorem d_vi3_29 : decode prog_92_method_3_code 29 = .ok (.iload_n 2, 1) := by decide +kernel
theorem d_vi3_30 : decode prog_92_method_3_code 30 = .ok (.baload, 1) := by decide +kernel
theorem d_vi3_31 : decode prog_92_method_3_code 31 = .ok (.sipush 255, 3) := by decide +kernel
theorem d_vi3_34 : decode prog_92_method_3_code 34 = .ok (.iand, 1) := by decide +kernel
theorem d_vi3_35 : decode prog_92_method_3_code 35 = .ok (.iastore, 1) := by decide +kernel
theorem d_vi3_36 : decode prog_92_method_3_code 36 = .ok (.iinc 2 1, 3) := by decide +kernel
theorem d_vi3_39 : decode prog_92_method_3_code 39 = .ok (.goto (-22), 3) := by decide +kernel
theorem d_vi3_42 : decode prog_92_method_3_code 42 = .ok (.goto 14, 3) := by decide +kernel
theorem d_vi3_56 : decode prog_92_method_3_code 56 = .ok (.aload_n 1, 1) := by decide +kernel
theorem d_vi3_57 : decode prog_92_method_3_code 57 = .ok (.areturn, 1) := by decide +kernel
theorem d_vi3_45 : decode prog_92_method_3_code 45 = .ok (.aload_n 0, 1) := by decide +kernel
theorem d_vi3_46 : decode prog_92_method_3_code 46 = .ok (.getfield 13, 3) := by decide +kernel
theorem d_vi3_49 : decode prog_92_method_3_code 49 = .ok (.invokevirtual 17, 3) := by decide +kernel
theorem d_vi3_52 : decode prog_92_method_3_code 52 = .ok (.checkcast 18, 3) := by decide +kernel
theorem d_vi3_55 : decode prog_92_method_3_code 55 = .ok (.astore_n 1, 1) := by decide +kernel
theorem ef_vi3 (m : MethodId) (x0 : Addr) : entryFrame m #[(.ref x0)] 3 = mkF m 0 #[.val (.ref x0), .unset, .unset] [] := by first | (simp [entryFrame, mkF, argsToLocals, Value.category]; done) | rfl
def Q_vi3 (Z : State) (a b : Addr) (x y z : Int32) (h0 : Heap) (n0 : Nat) (v : Option Value) (h : Heap) (L : List Loc) : Prop := v = some (.ref h0.size) ∧ Fr n0 L ∧ Keep h0 h [] ∧ ∃ k, Arv Z h h0.size k .int (3 : Int32) [(.int x), (.int y), (.int z)] (.int (0 : Int32))
set_option maxRecDepth 65536 in
set_option maxHeartbeats 40000000 in
theorem rm_vi3 (l : Launch) (Z : State) (a0 : Array Value) (hw : ∀ d ∈ tables_1, d.before a0 Z = true) (ws : List Jvm.Cond) (a b : Addr) (x y z : Int32) (h0 : Heap) (n0 : Nat) (Z0 : n0 ≤ h0.size) (ST : own_ST Z h0 a b (3 : Int32) [x, y, z]) :
    MetFree l (⟨"com/example/fair_witness/fairwitness/model/State", "valueIndices", "()[I"⟩ : MethodName) (head1 (Jvm.Cond.code (⟨"com/example/fair_witness/fairwitness/model/State", "valueIndices", "()[I"⟩ : MethodName) prog_92_method_3_code 3 (some (.array .int)) :: ws) ({ frames := 1, cells := 1, slots := 3, locals := 14 } : Room)) (fun a_ U => a_ = #[(.ref a)] ∧ Z.Warmed39 U.vm ∧ U.heap = h0) (fun _ _ _ _ _ => True) (fun _ U o U' => ∃ v L, o = .returned v ∧ Q_vi3 Z a b x y z h0 n0 v U'.heap L ∧ FrameEnd U o U' L ({ frames := 1, cells := 1, slots := 3, locals := 14 } : Room).cells ({ frames := 1, cells := 1, slots := 3, locals := 14 } : Room).slots) := by
  refine MetFree.of_bodySF (plainFor_of_name pn_com_example_fair_witness_fairwitness_model_State) hisR ?_
  intro p e s m args below meth c s₁ Bd hml0 hP hK
  obtain ⟨rfl, hZ, hh⟩ := hP
  have hx := Bd.exec
  have hby := Bd.bytes
  have hml : c.maxLocals = 3 := hml0
  have hown : s.vm.findClass "com/example/fair_witness/fairwitness/model/State" = some m.cls := findClass_of_methodNamed Bd.named
  have hnm := (name_of_methodNamed Bd.named Bd.method).1
  have X0 : Stand p l e ({ frames := 1, cells := 1, slots := 3, locals := 14 } : Room) s m #[(.ref a)] below meth c s₁ [] 0 0 := Stand.of_body Bd
  have e0 : s₁.heap = h0 := by rw [← hh, Bd.state]; rfl
  have N0 := Fr.nil n0
  have hlk := Bd.notSynchronized
  have hret := Bd.returns
  show OGo p e below (OEnd s (Q_vi3 Z a b x y z h0 n0) ({ frames := 1, cells := 1, slots := 3, locals := 14 } : Room).cells ({ frames := 1, cells := 1, slots := 3, locals := 14 } : Room).slots) (s₁.setTop (entryFrame m #[(.ref a)] 3))
  rw [ef_vi3]
  show OGo p e below _ (s₁.setTop (mkF m 0 #[.val (.ref a), .unset, .unset] []))
  obtain ⟨E0, ⟨FS, FV, ⟨kb, Vb⟩, hsm⟩ | ⟨FS, FV, EB, kb, Vb⟩⟩ := ST
  · refine OGo.by_ (fun t k => XS.aloadN X0.here hx rfl (hb hby d_vi3_0) rfl rfl k) ?_
    show OGo p e below _ (s₁.setTop (mkF m 1 #[.val (.ref a), .unset, .unset] [(.ref a)]))
    obtain ⟨T1, X1, e1, st1⟩ := getF X0 hx hZ hown (host := "") (Or.inl (hw _ (List.mem_of_getElem? (i := 15) rfl))) Via.refl e0 FS (g := (mkF m 1 #[.val (.ref a), .unset, .unset] [(.ref a)])) rfl rfl (hb hby d_vi3_1)
    refine OGo.by_ st1 ?_
    show OGo p e below _ (T1.setTop (mkF m 4 #[.val (.ref a), .unset, .unset] [(.ref b)]))
    refine OGo.by_ (fun t k => XS.ifnullNo X1.here hx rfl (hb hby d_vi3_4) rfl k) ?_
    show OGo p e below _ (T1.setTop (mkF m 7 #[.val (.ref a), .unset, .unset] []))
    refine OGo.by_ (fun t k => XS.aloadN X1.here hx rfl (hb hby d_vi3_7) rfl rfl k) ?_
    show OGo p e below _ (T1.setTop (mkF m 8 #[.val (.ref a), .unset, .unset] [(.ref a)]))
    obtain ⟨T2, X2, e2, st2⟩ := getF X1 hx hZ hown (host := "") (Or.inl (hw _ (List.mem_of_getElem? (i := 15) rfl))) Via.refl e1 FS (g := (mkF m 8 #[.val (.ref a), .unset, .unset] [(.ref a)])) rfl rfl (hb hby d_vi3_8)
    refine OGo.by_ st2 ?_
    show OGo p e below _ (T2.setTop (mkF m 11 #[.val (.ref a), .unset, .unset] [(.ref b)]))
    obtain ⟨cl3, Ar3, q3, S3, Nn3, H3, G3⟩ := id Vb
    refine OGo.by_ (X2.arraylength hx (by rw [e2]; exact Ar3.1) (State.isArrayOf_alike hZ.alike Ar3.2.1) (g := (mkF m 11 #[.val (.ref a), .unset, .unset] [(.ref b)])) rfl rfl (hb hby d_vi3_11)) ?_
    rw [len_of S3 Nn3]
    show OGo p e below _ (T2.setTop (mkF m 12 #[.val (.ref a), .unset, .unset] [(.int (3 : Int32))]))
    obtain ⟨T4, h4, k4, X4, e4, E4, A4, st4⟩ := newP X2 hx hZ (hw _ (List.mem_of_getElem? (i := 4) rfl)) e2 (g := (mkF m 12 #[.val (.ref a), .unset, .unset] [(.int (3 : Int32))])) rfl (hb hby d_vi3_12) rfl (by decide) (cap := 3) (by decide) (by decide) (by decide) (by decide)
    obtain ⟨r, g_r⟩ : ∃ z, z = h0.size := ⟨_, rfl⟩
    rw [← g_r] at A4 st4
    have V_r := Arv.new A4 (by decide)
    have lt_r := own_lt V_r.lt
    refine OGo.by_ st4 ?_
    show OGo p e below _ (T4.setTop (mkF m 14 #[.val (.ref a), .unset, .unset] [(.ref r)]))
    have ltb : h0.size > b := Vb.lt
    have lta : h0.size > a := E0.lt
    have hbr : b ≠ r := own_ne (by omega)
    have har : a ≠ r := own_ne (by omega)
    have gr : n0 ≤ r := by omega
    have K0_ : Keep h0 h4 [] := own_ext_keep E4
    have FS0 := FS.ext E4
    have B0 := Vb.ext E4
    have U0' : Arv Z h4 r k4 .int (3 : Int32) [(.int (0 : Int32)), (.int (0 : Int32)), (.int (0 : Int32))] (.int (0 : Int32)) := V_r.pad (pad_rep [] _ 3)
    refine OGo.by_ (fun t k => XS.astoreN X4.here hx rfl (hb hby d_vi3_14) rfl rfl (l' := #[.val (.ref a), .val (.ref r), .unset]) rfl k) ?_
    show OGo p e below _ (T4.setTop (mkF m 15 #[.val (.ref a), .val (.ref r), .unset] []))
    refine OGo.by_ (fun t k => XS.iconst X4.here hx rfl (hb hby d_vi3_15) k) ?_
    show OGo p e below _ (T4.setTop (mkF m 16 #[.val (.ref a), .val (.ref r), .unset] [(.int (0 : Int32))]))
    refine OGo.by_ (fun t k => XS.istoreN X4.here hx rfl (hb hby d_vi3_16) rfl (l' := #[.val (.ref a), .val (.ref r), .val (.int (0 : Int32))]) rfl k) ?_
    show OGo p e below _ (T4.setTop (mkF m 17 #[.val (.ref a), .val (.ref r), .val (.int (0 : Int32))] []))
    refine OGo.by_ (fun t k => XS.iloadN X4.here hx rfl (hb hby d_vi3_17) rfl k) ?_
    show OGo p e below _ (T4.setTop (mkF m 18 #[.val (.ref a), .val (.ref r), .val (.int (0 : Int32))] [(.int (0 : Int32))]))
    refine OGo.by_ (fun t k => XS.aloadN X4.here hx rfl (hb hby d_vi3_18) rfl rfl k) ?_
    show OGo p e below _ (T4.setTop (mkF m 19 #[.val (.ref a), .val (.ref r), .val (.int (0 : Int32))] [(.ref r), (.int (0 : Int32))]))
    obtain ⟨cl5, Ar5, q5, S5, Nn5, H5, G5⟩ := id U0'
    refine OGo.by_ (X4.arraylength hx (by rw [e4]; exact Ar5.1) (State.isArrayOf_alike hZ.alike Ar5.2.1) (g := (mkF m 19 #[.val (.ref a), .val (.ref r), .val (.int (0 : Int32))] [(.ref r), (.int (0 : Int32))])) rfl rfl (hb hby d_vi3_19)) ?_
    rw [len_of S5 Nn5]
    show OGo p e below _ (T4.setTop (mkF m 20 #[.val (.ref a), .val (.ref r), .val (.int (0 : Int32))] [(.int (3 : Int32)), (.int (0 : Int32))]))
    refine OGo.by_ (fun t k => XS.icmpNo X4.here hx rfl (hb hby d_vi3_20) rfl (tlt (by decide)).2.1 k) ?_
    show OGo p e below _ (T4.setTop (mkF m 23 #[.val (.ref a), .val (.ref r), .val (.int (0 : Int32))] []))
    refine OGo.by_ (fun t k => XS.aloadN X4.here hx rfl (hb hby d_vi3_23) rfl rfl k) ?_
    show OGo p e below _ (T4.setTop (mkF m 24 #[.val (.ref a), .val (.ref r), .val (.int (0 : Int32))] [(.ref r)]))
    refine OGo.by_ (fun t k => XS.iloadN X4.here hx rfl (hb hby d_vi3_24) rfl k) ?_
    show OGo p e below _ (T4.setTop (mkF m 25 #[.val (.ref a), .val (.ref r), .val (.int (0 : Int32))] [(.int (0 : Int32)), (.ref r)]))
    refine OGo.by_ (fun t k => XS.aloadN X4.here hx rfl (hb hby d_vi3_25) rfl rfl k) ?_
    show OGo p e below _ (T4.setTop (mkF m 26 #[.val (.ref a), .val (.ref r), .val (.int (0 : Int32))] [(.ref a), (.int (0 : Int32)), (.ref r)]))
    obtain ⟨T6, X6, e6, st6⟩ := getF X4 hx hZ hown (host := "") (Or.inl (hw _ (List.mem_of_getElem? (i := 15) rfl))) Via.refl e4 FS0 (g := (mkF m 26 #[.val (.ref a), .val (.ref r), .val (.int (0 : Int32))] [(.ref a), (.int (0 : Int32)), (.ref r)])) rfl rfl (hb hby d_vi3_26)
    refine OGo.by_ st6 ?_
    show OGo p e below _ (T6.setTop (mkF m 29 #[.val (.ref a), .val (.ref r), .val (.int (0 : Int32))] [(.ref b), (.int (0 : Int32)), (.ref r)]))
    refine OGo.by_ (fun t k => XS.iloadN X6.here hx rfl (hb hby d_vi3_29) rfl k) ?_
    show OGo p e below _ (T6.setTop (mkF m 30 #[.val (.ref a), .val (.ref r), .val (.int (0 : Int32))] [(.int (0 : Int32)), (.ref b), (.int (0 : Int32)), (.ref r)]))
    obtain ⟨cl7, Ar7, q7, S7, Nn7, H7, G7⟩ := id B0
    have in7 := inb_of S7 ⟨(by decide : ¬ (0 : Int32) < 0), (by decide : (0 : Int32) < (3 : Int32))⟩
    refine OGo.by_ (fun t kk => X6.baloadBytes hx (j := (0 : Int32)) (v := (.int (x.toInt8.toInt32))) (by rw [e6]; exact Ar7.1) (State.isArrayOf_alike hZ.alike Ar7.2.1) Ar7.2.2 in7 (H7.at in7 (rfl)) (g := (mkF m 30 #[.val (.ref a), .val (.ref r), .val (.int (0 : Int32))] [(.int (0 : Int32)), (.ref b), (.int (0 : Int32)), (.ref r)])) rfl rfl (hb hby d_vi3_30) _ kk) ?_
    show OGo p e below _ (T6.setTop (mkF m 31 #[.val (.ref a), .val (.ref r), .val (.int (0 : Int32))] [(.int (x.toInt8.toInt32)), (.int (0 : Int32)), (.ref r)]))
    refine OGo.by_ (fun t k => XS.sipush X6.here hx rfl (hb hby d_vi3_31) k) ?_
    show OGo p e below _ (T6.setTop (mkF m 34 #[.val (.ref a), .val (.ref r), .val (.int (0 : Int32))] [(.int (255 : Int32)), (.int (x.toInt8.toInt32)), (.int (0 : Int32)), (.ref r)]))
    refine OGo.by_ (fun t k => XS.iand X6.here hx rfl (hb hby d_vi3_34) rfl k) ?_
    show OGo p e below _ (T6.setTop (mkF m 35 #[.val (.ref a), .val (.ref r), .val (.int (0 : Int32))] [(.int ((x.toInt8.toInt32) &&& (255 : Int32))), (.int (0 : Int32)), (.ref r)]))
    rw [show ((x.toInt8.toInt32) &&& (255 : Int32)) = x from hsm _ (List.mem_of_getElem? (i := 0) rfl)]
    show OGo p e below _ (T6.setTop (mkF m 35 #[.val (.ref a), .val (.ref r), .val (.int (0 : Int32))] [(.int x), (.int (0 : Int32)), (.ref r)]))
    obtain ⟨cl8, Ar8, q8, S8, Nn8, H8, G8⟩ := id U0'
    obtain ⟨T9, h9, X9, e9, W9, st9⟩ := stI X6 hx hZ e6 Ar8 (j := (0 : Int32)) (inb_of S8 ⟨(by decide : ¬ (0 : Int32) < 0), (by decide : (0 : Int32) < (3 : Int32))⟩) (g := (mkF m 35 #[.val (.ref a), .val (.ref r), .val (.int (0 : Int32))] [(.int x), (.int (0 : Int32)), (.ref r)])) rfl rfl (hb hby d_vi3_35)
    refine OGo.by_ st9 ?_
    show OGo p e below _ (T9.setTop (mkF m 36 #[.val (.ref a), .val (.ref r), .val (.int (0 : Int32))] []))
    have N9 := Fr.snoc X9 N0 gr
    have U1 := Arv.set Ar8 q8 S8 Nn8 H8 G8 (v := .int x) rfl W9 0 (by decide) (Nat.le_of_ble_eq_true rfl)
    have FS0_ := FS0.other W9 (Or.inl har)
    have B0_ := B0.other W9 hbr
    have K0_' := Keep.wr K0_ W9 (Or.inr (Nat.le_of_eq g_r.symm))
    refine OGo.by_ (fun t k => XS.iinc X9.here hx rfl (hb hby d_vi3_36) rfl (l' := #[.val (.ref a), .val (.ref r), .val (.int (1 : Int32))]) rfl k) ?_
    show OGo p e below _ (T9.setTop (mkF m 39 #[.val (.ref a), .val (.ref r), .val (.int (1 : Int32))] []))
    refine OGo.by_ (fun t k => XS.goto X9.here hx rfl (pc0 := 39) (pc' := 17) rfl (hb hby d_vi3_39) (by decide) (by decide) k) ?_
    show OGo p e below _ (T9.setTop (mkF m 17 #[.val (.ref a), .val (.ref r), .val (.int (1 : Int32))] []))
    refine OGo.by_ (fun t k => XS.iloadN X9.here hx rfl (hb hby d_vi3_17) rfl k) ?_
    show OGo p e below _ (T9.setTop (mkF m 18 #[.val (.ref a), .val (.ref r), .val (.int (1 : Int32))] [(.int (1 : Int32))]))
    refine OGo.by_ (fun t k => XS.aloadN X9.here hx rfl (hb hby d_vi3_18) rfl rfl k) ?_
    show OGo p e below _ (T9.setTop (mkF m 19 #[.val (.ref a), .val (.ref r), .val (.int (1 : Int32))] [(.ref r), (.int (1 : Int32))]))
    obtain ⟨cl10, Ar10, q10, S10, Nn10, H10, G10⟩ := id U1
    refine OGo.by_ (X9.arraylength hx (by rw [e9]; exact Ar10.1) (State.isArrayOf_alike hZ.alike Ar10.2.1) (g := (mkF m 19 #[.val (.ref a), .val (.ref r), .val (.int (1 : Int32))] [(.ref r), (.int (1 : Int32))])) rfl rfl (hb hby d_vi3_19)) ?_
    rw [len_of S10 Nn10]
    show OGo p e below _ (T9.setTop (mkF m 20 #[.val (.ref a), .val (.ref r), .val (.int (1 : Int32))] [(.int (3 : Int32)), (.int (1 : Int32))]))
    refine OGo.by_ (fun t k => XS.icmpNo X9.here hx rfl (hb hby d_vi3_20) rfl (tlt (by decide)).2.1 k) ?_
    show OGo p e below _ (T9.setTop (mkF m 23 #[.val (.ref a), .val (.ref r), .val (.int (1 : Int32))] []))
    refine OGo.by_ (fun t k => XS.aloadN X9.here hx rfl (hb hby d_vi3_23) rfl rfl k) ?_
    show OGo p e below _ (T9.setTop (mkF m 24 #[.val (.ref a), .val (.ref r), .val (.int (1 : Int32))] [(.ref r)]))
    refine OGo.by_ (fun t k => XS.iloadN X9.here hx rfl (hb hby d_vi3_24) rfl k) ?_
    show OGo p e below _ (T9.setTop (mkF m 25 #[.val (.ref a), .val (.ref r), .val (.int (1 : Int32))] [(.int (1 : Int32)), (.ref r)]))
    refine OGo.by_ (fun t k => XS.aloadN X9.here hx rfl (hb hby d_vi3_25) rfl rfl k) ?_
    show OGo p e below _ (T9.setTop (mkF m 26 #[.val (.ref a), .val (.ref r), .val (.int (1 : Int32))] [(.ref a), (.int (1 : Int32)), (.ref r)]))
    obtain ⟨T11, X11, e11, st11⟩ := getF X9 hx hZ hown (host := "") (Or.inl (hw _ (List.mem_of_getElem? (i := 15) rfl))) Via.refl e9 FS0_ (g := (mkF m 26 #[.val (.ref a), .val (.ref r), .val (.int (1 : Int32))] [(.ref a), (.int (1 : Int32)), (.ref r)])) rfl rfl (hb hby d_vi3_26)
    refine OGo.by_ st11 ?_
    show OGo p e below _ (T11.setTop (mkF m 29 #[.val (.ref a), .val (.ref r), .val (.int (1 : Int32))] [(.ref b), (.int (1 : Int32)), (.ref r)]))
    refine OGo.by_ (fun t k => XS.iloadN X11.here hx rfl (hb hby d_vi3_29) rfl k) ?_
    show OGo p e below _ (T11.setTop (mkF m 30 #[.val (.ref a), .val (.ref r), .val (.int (1 : Int32))] [(.int (1 : Int32)), (.ref b), (.int (1 : Int32)), (.ref r)]))
    obtain ⟨cl12, Ar12, q12, S12, Nn12, H12, G12⟩ := id B0_
    have in12 := inb_of S12 ⟨(by decide : ¬ (1 : Int32) < 0), (by decide : (1 : Int32) < (3 : Int32))⟩
    refine OGo.by_ (fun t kk => X11.baloadBytes hx (j := (1 : Int32)) (v := (.int (y.toInt8.toInt32))) (by rw [e11]; exact Ar12.1) (State.isArrayOf_alike hZ.alike Ar12.2.1) Ar12.2.2 in12 (H12.at in12 (rfl)) (g := (mkF m 30 #[.val (.ref a), .val (.ref r), .val (.int (1 : Int32))] [(.int (1 : Int32)), (.ref b), (.int (1 : Int32)), (.ref r)])) rfl rfl (hb hby d_vi3_30) _ kk) ?_
    show OGo p e below _ (T11.setTop (mkF m 31 #[.val (.ref a), .val (.ref r), .val (.int (1 : Int32))] [(.int (y.toInt8.toInt32)), (.int (1 : Int32)), (.ref r)]))
    refine OGo.by_ (fun t k => XS.sipush X11.here hx rfl (hb hby d_vi3_31) k) ?_
    show OGo p e below _ (T11.setTop (mkF m 34 #[.val (.ref a), .val (.ref r), .val (.int (1 : Int32))] [(.int (255 : Int32)), (.int (y.toInt8.toInt32)), (.int (1 : Int32)), (.ref r)]))
    refine OGo.by_ (fun t k => XS.iand X11.here hx rfl (hb hby d_vi3_34) rfl k) ?_
    show OGo p e below _ (T11.setTop (mkF m 35 #[.val (.ref a), .val (.ref r), .val (.int (1 : Int32))] [(.int ((y.toInt8.toInt32) &&& (255 : Int32))), (.int (1 : Int32)), (.ref r)]))
    rw [show ((y.toInt8.toInt32) &&& (255 : Int32)) = y from hsm _ (List.mem_of_getElem? (i := 1) rfl)]
    show OGo p e below _ (T11.setTop (mkF m 35 #[.val (.ref a), .val (.ref r), .val (.int (1 : Int32))] [(.int y), (.int (1 : Int32)), (.ref r)]))
    obtain ⟨cl13, Ar13, q13, S13, Nn13, H13, G13⟩ := id U1
    obtain ⟨T14, h14, X14, e14, W14, st14⟩ := stI X11 hx hZ e11 Ar13 (j := (1 : Int32)) (inb_of S13 ⟨(by decide : ¬ (1 : Int32) < 0), (by decide : (1 : Int32) < (3 : Int32))⟩) (g := (mkF m 35 #[.val (.ref a), .val (.ref r), .val (.int (1 : Int32))] [(.int y), (.int (1 : Int32)), (.ref r)])) rfl rfl (hb hby d_vi3_35)
    refine OGo.by_ st14 ?_
    show OGo p e below _ (T14.setTop (mkF m 36 #[.val (.ref a), .val (.ref r), .val (.int (1 : Int32))] []))
    have N14 := Fr.snoc X14 N9 gr
    have U2 := Arv.set Ar13 q13 S13 Nn13 H13 G13 (v := .int y) rfl W14 1 (by decide) (Nat.le_of_ble_eq_true rfl)
    have FS1_ := FS0_.other W14 (Or.inl har)
    have B1_ := B0_.other W14 hbr
    have K1_' := Keep.wr K0_' W14 (Or.inr (Nat.le_of_eq g_r.symm))
    refine OGo.by_ (fun t k => XS.iinc X14.here hx rfl (hb hby d_vi3_36) rfl (l' := #[.val (.ref a), .val (.ref r), .val (.int (2 : Int32))]) rfl k) ?_
    show OGo p e below _ (T14.setTop (mkF m 39 #[.val (.ref a), .val (.ref r), .val (.int (2 : Int32))] []))
    refine OGo.by_ (fun t k => XS.goto X14.here hx rfl (pc0 := 39) (pc' := 17) rfl (hb hby d_vi3_39) (by decide) (by decide) k) ?_
    show OGo p e below _ (T14.setTop (mkF m 17 #[.val (.ref a), .val (.ref r), .val (.int (2 : Int32))] []))
    refine OGo.by_ (fun t k => XS.iloadN X14.here hx rfl (hb hby d_vi3_17) rfl k) ?_
    show OGo p e below _ (T14.setTop (mkF m 18 #[.val (.ref a), .val (.ref r), .val (.int (2 : Int32))] [(.int (2 : Int32))]))
    refine OGo.by_ (fun t k => XS.aloadN X14.here hx rfl (hb hby d_vi3_18) rfl rfl k) ?_
    show OGo p e below _ (T14.setTop (mkF m 19 #[.val (.ref a), .val (.ref r), .val (.int (2 : Int32))] [(.ref r), (.int (2 : Int32))]))
    obtain ⟨cl15, Ar15, q15, S15, Nn15, H15, G15⟩ := id U2
    refine OGo.by_ (X14.arraylength hx (by rw [e14]; exact Ar15.1) (State.isArrayOf_alike hZ.alike Ar15.2.1) (g := (mkF m 19 #[.val (.ref a), .val (.ref r), .val (.int (2 : Int32))] [(.ref r), (.int (2 : Int32))])) rfl rfl (hb hby d_vi3_19)) ?_
    rw [len_of S15 Nn15]
    show OGo p e below _ (T14.setTop (mkF m 20 #[.val (.ref a), .val (.ref r), .val (.int (2 : Int32))] [(.int (3 : Int32)), (.int (2 : Int32))]))
    refine OGo.by_ (fun t k => XS.icmpNo X14.here hx rfl (hb hby d_vi3_20) rfl (tlt (by decide)).2.1 k) ?_
    show OGo p e below _ (T14.setTop (mkF m 23 #[.val (.ref a), .val (.ref r), .val (.int (2 : Int32))] []))
    refine OGo.by_ (fun t k => XS.aloadN X14.here hx rfl (hb hby d_vi3_23) rfl rfl k) ?_
    show OGo p e below _ (T14.setTop (mkF m 24 #[.val (.ref a), .val (.ref r), .val (.int (2 : Int32))] [(.ref r)]))
    refine OGo.by_ (fun t k => XS.iloadN X14.here hx rfl (hb hby d_vi3_24) rfl k) ?_
    show OGo p e below _ (T14.setTop (mkF m 25 #[.val (.ref a), .val (.ref r), .val (.int (2 : Int32))] [(.int (2 : Int32)), (.ref r)]))
    refine OGo.by_ (fun t k => XS.aloadN X14.here hx rfl (hb hby d_vi3_25) rfl rfl k) ?_
    show OGo p e below _ (T14.setTop (mkF m 26 #[.val (.ref a), .val (.ref r), .val (.int (2 : Int32))] [(.ref a), (.int (2 : Int32)), (.ref r)]))
    obtain ⟨T16, X16, e16, st16⟩ := getF X14 hx hZ hown (host := "") (Or.inl (hw _ (List.mem_of_getElem? (i := 15) rfl))) Via.refl e14 FS1_ (g := (mkF m 26 #[.val (.ref a), .val (.ref r), .val (.int (2 : Int32))] [(.ref a), (.int (2 : Int32)), (.ref r)])) rfl rfl (hb hby d_vi3_26)
    refine OGo.by_ st16 ?_
    show OGo p e below _ (T16.setTop (mkF m 29 #[.val (.ref a), .val (.ref r), .val (.int (2 : Int32))] [(.ref b), (.int (2 : Int32)), (.ref r)]))
    refine OGo.by_ (fun t k => XS.iloadN X16.here hx rfl (hb hby d_vi3_29) rfl k) ?_
    show OGo p e below _ (T16.setTop (mkF m 30 #[.val (.ref a), .val (.ref r), .val (.int (2 : Int32))] [(.int (2 : Int32)), (.ref b), (.int (2 : Int32)), (.ref r)]))
    obtain ⟨cl17, Ar17, q17, S17, Nn17, H17, G17⟩ := id B1_
    have in17 := inb_of S17 ⟨(by decide : ¬ (2 : Int32) < 0), (by decide : (2 : Int32) < (3 : Int32))⟩
    refine OGo.by_ (fun t kk => X16.baloadBytes hx (j := (2 : Int32)) (v := (.int (z.toInt8.toInt32))) (by rw [e16]; exact Ar17.1) (State.isArrayOf_alike hZ.alike Ar17.2.1) Ar17.2.2 in17 (H17.at in17 (rfl)) (g := (mkF m 30 #[.val (.ref a), .val (.ref r), .val (.int (2 : Int32))] [(.int (2 : Int32)), (.ref b), (.int (2 : Int32)), (.ref r)])) rfl rfl (hb hby d_vi3_30) _ kk) ?_
    show OGo p e below _ (T16.setTop (mkF m 31 #[.val (.ref a), .val (.ref r), .val (.int (2 : Int32))] [(.int (z.toInt8.toInt32)), (.int (2 : Int32)), (.ref r)]))
    refine OGo.by_ (fun t k => XS.sipush X16.here hx rfl (hb hby d_vi3_31) k) ?_
    show OGo p e below _ (T16.setTop (mkF m 34 #[.val (.ref a), .val (.ref r), .val (.int (2 : Int32))] [(.int (255 : Int32)), (.int (z.toInt8.toInt32)), (.int (2 : Int32)), (.ref r)]))
    refine OGo.by_ (fun t k => XS.iand X16.here hx rfl (hb hby d_vi3_34) rfl k) ?_
    show OGo p e below _ (T16.setTop (mkF m 35 #[.val (.ref a), .val (.ref r), .val (.int (2 : Int32))] [(.int ((z.toInt8.toInt32) &&& (255 : Int32))), (.int (2 : Int32)), (.ref r)]))
    rw [show ((z.toInt8.toInt32) &&& (255 : Int32)) = z from hsm _ (List.mem_of_getElem? (i := 2) rfl)]
    show OGo p e below _ (T16.setTop (mkF m 35 #[.val (.ref a), .val (.ref r), .val (.int (2 : Int32))] [(.int z), (.int (2 : Int32)), (.ref r)]))
    obtain ⟨cl18, Ar18, q18, S18, Nn18, H18, G18⟩ := id U2
    obtain ⟨T19, h19, X19, e19, W19, st19⟩ := stI X16 hx hZ e16 Ar18 (j := (2 : Int32)) (inb_of S18 ⟨(by decide : ¬ (2 : Int32) < 0), (by decide : (2 : Int32) < (3 : Int32))⟩) (g := (mkF m 35 #[.val (.ref a), .val (.ref r), .val (.int (2 : Int32))] [(.int z), (.int (2 : Int32)), (.ref r)])) rfl rfl (hb hby d_vi3_35)
    refine OGo.by_ st19 ?_
    show OGo p e below _ (T19.setTop (mkF m 36 #[.val (.ref a), .val (.ref r), .val (.int (2 : Int32))] []))
    have N19 := Fr.snoc X19 N14 gr
    have U3 := Arv.set Ar18 q18 S18 Nn18 H18 G18 (v := .int z) rfl W19 2 (by decide) (Nat.le_of_ble_eq_true rfl)
    have FS2_ := FS1_.other W19 (Or.inl har)
    have B2_ := B1_.other W19 hbr
    have K2_' := Keep.wr K1_' W19 (Or.inr (Nat.le_of_eq g_r.symm))
    refine OGo.by_ (fun t k => XS.iinc X19.here hx rfl (hb hby d_vi3_36) rfl (l' := #[.val (.ref a), .val (.ref r), .val (.int (3 : Int32))]) rfl k) ?_
    show OGo p e below _ (T19.setTop (mkF m 39 #[.val (.ref a), .val (.ref r), .val (.int (3 : Int32))] []))
    refine OGo.by_ (fun t k => XS.goto X19.here hx rfl (pc0 := 39) (pc' := 17) rfl (hb hby d_vi3_39) (by decide) (by decide) k) ?_
    show OGo p e below _ (T19.setTop (mkF m 17 #[.val (.ref a), .val (.ref r), .val (.int (3 : Int32))] []))
    refine OGo.by_ (fun t k => XS.iloadN X19.here hx rfl (hb hby d_vi3_17) rfl k) ?_
    show OGo p e below _ (T19.setTop (mkF m 18 #[.val (.ref a), .val (.ref r), .val (.int (3 : Int32))] [(.int (3 : Int32))]))
    refine OGo.by_ (fun t k => XS.aloadN X19.here hx rfl (hb hby d_vi3_18) rfl rfl k) ?_
    show OGo p e below _ (T19.setTop (mkF m 19 #[.val (.ref a), .val (.ref r), .val (.int (3 : Int32))] [(.ref r), (.int (3 : Int32))]))
    obtain ⟨cl20, Ar20, q20, S20, Nn20, H20, G20⟩ := id U3
    refine OGo.by_ (X19.arraylength hx (by rw [e19]; exact Ar20.1) (State.isArrayOf_alike hZ.alike Ar20.2.1) (g := (mkF m 19 #[.val (.ref a), .val (.ref r), .val (.int (3 : Int32))] [(.ref r), (.int (3 : Int32))])) rfl rfl (hb hby d_vi3_19)) ?_
    rw [len_of S20 Nn20]
    show OGo p e below _ (T19.setTop (mkF m 20 #[.val (.ref a), .val (.ref r), .val (.int (3 : Int32))] [(.int (3 : Int32)), (.int (3 : Int32))]))
    refine OGo.by_ (fun t k => XS.icmpYes X19.here hx rfl (pc0 := 20) (pc' := 42) rfl (hb hby d_vi3_20) rfl (flt (by decide)).2.1 (by decide) (by decide) k) ?_
    show OGo p e below _ (T19.setTop (mkF m 42 #[.val (.ref a), .val (.ref r), .val (.int (3 : Int32))] []))
    refine OGo.by_ (fun t k => XS.goto X19.here hx rfl (pc0 := 42) (pc' := 56) rfl (hb hby d_vi3_42) (by decide) (by decide) k) ?_
    show OGo p e below _ (T19.setTop (mkF m 56 #[.val (.ref a), .val (.ref r), .val (.int (3 : Int32))] []))
    refine OGo.by_ (fun t k => XS.aloadN X19.here hx rfl (hb hby d_vi3_56) rfl rfl k) ?_
    show OGo p e below _ (T19.setTop (mkF m 57 #[.val (.ref a), .val (.ref r), .val (.int (3 : Int32))] [(.ref r)]))
    exact own_retA X19 hx hlk hret rfl rfl (hb hby d_vi3_57) (by decide) (by decide) (by rw [e19]; exact ⟨congrArg (fun z => some (Value.ref z)) g_r, N19, K2_', k4, g_r ▸ U3⟩)
  · refine OGo.by_ (fun t k => XS.aloadN X0.here hx rfl (hb hby d_vi3_0) rfl rfl k) ?_
    show OGo p e below _ (s₁.setTop (mkF m 1 #[.val (.ref a), .unset, .unset] [(.ref a)]))
    obtain ⟨T21, X21, e21, st21⟩ := getF X0 hx hZ hown (host := "") (Or.inl (hw _ (List.mem_of_getElem? (i := 15) rfl))) Via.refl e0 FS (g := (mkF m 1 #[.val (.ref a), .unset, .unset] [(.ref a)])) rfl rfl (hb hby d_vi3_1)
    refine OGo.by_ st21 ?_
    show OGo p e below _ (T21.setTop (mkF m 4 #[.val (.ref a), .unset, .unset] [.null]))
    refine OGo.by_ (fun t k => XS.ifnullYes X21.here hx rfl (pc0 := 4) (pc' := 45) rfl (hb hby d_vi3_4) rfl (by decide) (by decide) k) ?_
    show OGo p e below _ (T21.setTop (mkF m 45 #[.val (.ref a), .unset, .unset] []))
    refine OGo.by_ (fun t k => XS.aloadN X21.here hx rfl (hb hby d_vi3_45) rfl rfl k) ?_
    show OGo p e below _ (T21.setTop (mkF m 46 #[.val (.ref a), .unset, .unset] [(.ref a)]))
    obtain ⟨T22, X22, e22, st22⟩ := getF X21 hx hZ hown (host := "") (Or.inl (hw _ (List.mem_of_getElem? (i := 17) rfl))) Via.refl e21 FV (g := (mkF m 46 #[.val (.ref a), .unset, .unset] [(.ref a)])) rfl rfl (hb hby d_vi3_46)
    refine OGo.by_ st22 ?_
    show OGo p e below _ (T22.setTop (mkF m 49 #[.val (.ref a), .unset, .unset] [(.ref b)]))
    obtain ⟨T23, h23, X23, e23, E23, Va23, Ea23, st23⟩ := cloneH X22 hx hZ hown (hw _ (List.mem_of_getElem? (i := 27) rfl)) (hw _ (List.mem_of_getElem? (i := 28) rfl)) (hw _ (List.mem_of_getElem? (i := 32) rfl)) (hw _ (List.mem_of_getElem? (i := 30) rfl)) (hw _ (List.mem_of_getElem? (i := 31) rfl)) (hw _ (List.mem_of_getElem? (i := 33) rfl)) e22 (Arv.arh Vb) EB (g := (mkF m 49 #[.val (.ref a), .unset, .unset] [(.ref b)])) rfl (by rw [hml]; rfl) rfl (hb hby d_vi3_49) (by decide) (W := 0) (by show 2 * 0 + _ ≤ _; exact Nat.le_of_eq rfl) (by decide) (cap := 3) (by decide) (by decide) (by decide)
    obtain ⟨r, g_r⟩ : ∃ z, z = h0.size := ⟨_, rfl⟩
    rw [← g_r] at Va23 Ea23 st23
    refine OGo.by_ st23 ?_
    show OGo p e below _ (T23.setTop (mkF m 52 #[.val (.ref a), .unset, .unset] [(.ref r)]))
    obtain ⟨T24, X24, e24, st24⟩ := castY X23 hx hZ hown (hw _ (List.mem_of_getElem? (i := 34) rfl)) e23 (Ins.self Ea23) (g := (mkF m 52 #[.val (.ref a), .unset, .unset] [(.ref r)])) rfl rfl (hb hby d_vi3_52)
    refine OGo.by_ st24 ?_
    show OGo p e below _ (T24.setTop (mkF m 55 #[.val (.ref a), .unset, .unset] [(.ref r)]))
    refine OGo.by_ (fun t k => XS.astoreN X24.here hx rfl (hb hby d_vi3_55) rfl rfl (l' := #[.val (.ref a), .val (.ref r), .unset]) rfl k) ?_
    show OGo p e below _ (T24.setTop (mkF m 56 #[.val (.ref a), .val (.ref r), .unset] []))
    refine OGo.by_ (fun t k => XS.aloadN X24.here hx rfl (hb hby d_vi3_56) rfl rfl k) ?_
    show OGo p e below _ (T24.setTop (mkF m 57 #[.val (.ref a), .val (.ref r), .unset] [(.ref r)]))
    exact own_retA X24 hx hlk hret rfl rfl (hb hby d_vi3_57) (by decide) (by decide) (by rw [e24]; exact ⟨congrArg (fun z => some (Value.ref z)) g_r, N0, own_ext_keep E23, kb, g_r ▸ Va23⟩)
theorem d_sm0_0 : decode method_3_code 0 = .ok (.aload_n 0, 1) := by decide +kernel
theorem d_sm0_1 : decode method_3_code 1 = .ok (.ifnull 50, 3) := by decide +kernel
theorem d_sm0_4 : decode method_3_code 4 = .ok (.aload_n 0, 1) := by decide +kernel
theorem d_sm0_5 : decode method_3_code 5 = .ok (.arraylength, 1) := by decide +kernel
theorem d_sm0_6 : decode method_3_code 6 = .ok (.iload_n 1, 1) := by decide +kernel
theorem d_sm0_7 : decode method_3_code 7 = .ok (.if_icmp .ne 44, 3) := by decide +kernel
theorem d_sm0_10 : decode method_3_code 10 = .ok (.iload_n 1, 1) := by decide +kernel
theorem d_sm0_11 : decode method_3_code 11 = .ok (.iconst 1, 1) := by decide +kernel
theorem d_sm0_12 : decode method_3_code 12 = .ok (.if_icmp .lt 10, 3) := by decide +kernel
theorem d_sm0_22 : decode method_3_code 22 = .ok (.iload_n 1, 1) := by decide +kernel
theorem d_sm0_23 : decode method_3_code 23 = .ok (.iconst 2, 1) := by decide +kernel
theorem d_sm0_24 : decode method_3_code 24 = .ok (.if_icmp .lt 10, 3) := by decide +kernel
theorem d_sm0_34 : decode method_3_code 34 = .ok (.iload_n 1, 1) := by decide +kernel
theorem d_sm0_35 : decode method_3_code 35 = .ok (.iconst 3, 1) := by decide +kernel
theorem d_sm0_36 : decode method_3_code 36 = .ok (.if_icmp .lt 11, 3) := by decide +kernel
theorem d_sm0_47 : decode method_3_code 47 = .ok (.iconst 1, 1) := by decide +kernel
theorem d_sm0_48 : decode method_3_code 48 = .ok (.goto 4, 3) := by decide +kernel
theorem d_sm0_52 : decode method_3_code 52 = .ok (.ireturn, 1) := by decide +kernel
theorem ef_sm0 (m : MethodId) (x0 : Addr) (x1 : Int32) (x2 : Int32) (x3 : Int32) (x4 : Int32) : entryFrame m #[(.ref x0), (.int x1), (.int x2), (.int x3), (.int x4)] 5 = mkF m 0 #[.val (.ref x0), .val (.int x1), .val (.int x2), .val (.int x3), .val (.int x4)] [] := by first | (simp [entryFrame, mkF, argsToLocals, Value.category]; done) | rfl
def Q_sm0 (Z : State) (r : Addr) (kr : ClassId) (x y z : Int32) (h0 : Heap) (n0 : Nat) (v : Option Value) (h : Heap) (L : List Loc) : Prop := v = some (.int (1 : Int32)) ∧ Fr n0 L ∧ h = h0
set_option maxRecDepth 65536 in
set_option maxHeartbeats 40000000 in
theorem rm_sm0 (l : Launch) (Z : State) (a0 : Array Value) (hw : ∀ d ∈ tables_1, d.before a0 Z = true) (ws : List Jvm.Cond) (r : Addr) (kr : ClassId) (x y z : Int32) (h0 : Heap) (n0 : Nat) (Z0 : n0 ≤ h0.size) (V1 : Arv Z h0 r kr .int (0 : Int32) [] (.int (0 : Int32))) :
    MetFree l (⟨"com/example/fair_witness/fairwitness/model/StateValueIndicesPinLaw", "same", "([IIIII)Z"⟩ : MethodName) (head1 (Jvm.Cond.code (⟨"com/example/fair_witness/fairwitness/model/StateValueIndicesPinLaw", "same", "([IIIII)Z"⟩ : MethodName) method_3_code 5 (some .boolean) :: ws) ({ frames := 0, cells := 0, slots := 0, locals := 0 } : Room)) (fun a_ U => a_ = #[(.ref r), (.int (0 : Int32)), (.int x), (.int y), (.int z)] ∧ Z.Warmed39 U.vm ∧ U.heap = h0) (fun _ _ _ _ _ => True) (fun _ U o U' => ∃ v L, o = .returned v ∧ Q_sm0 Z r kr x y z h0 n0 v U'.heap L ∧ FrameEnd U o U' L ({ frames := 0, cells := 0, slots := 0, locals := 0 } : Room).cells ({ frames := 0, cells := 0, slots := 0, locals := 0 } : Room).slots) := by
  refine MetFree.of_bodySF (plainFor_of_name pn_com_example_fair_witness_fairwitness_model_StateValueIndicesPinLaw) hisR ?_
  intro p e s m args below meth c s₁ Bd hml0 hP hK
  obtain ⟨rfl, hZ, hh⟩ := hP
  have hx := Bd.exec
  have hby := Bd.bytes
  have hml : c.maxLocals = 5 := hml0
  have hown : s.vm.findClass "com/example/fair_witness/fairwitness/model/StateValueIndicesPinLaw" = some m.cls := findClass_of_methodNamed Bd.named
  have hnm := (name_of_methodNamed Bd.named Bd.method).1
  have X0 : Stand p l e ({ frames := 0, cells := 0, slots := 0, locals := 0 } : Room) s m #[(.ref r), (.int (0 : Int32)), (.int x), (.int y), (.int z)] below meth c s₁ [] 0 0 := Stand.of_body Bd
  have e0 : s₁.heap = h0 := by rw [← hh, Bd.state]; rfl
  have N0 := Fr.nil n0
  have hlk := Bd.notSynchronized
  have hret := Bd.returns
  show OGo p e below (OEnd s (Q_sm0 Z r kr x y z h0 n0) ({ frames := 0, cells := 0, slots := 0, locals := 0 } : Room).cells ({ frames := 0, cells := 0, slots := 0, locals := 0 } : Room).slots) (s₁.setTop (entryFrame m #[(.ref r), (.int (0 : Int32)), (.int x), (.int y), (.int z)] 5))
  rw [ef_sm0]
  show OGo p e below _ (s₁.setTop (mkF m 0 #[.val (.ref r), .val (.int (0 : Int32)), .val (.int x), .val (.int y), .val (.int z)] []))
  refine OGo.by_ (fun t k => XS.aloadN X0.here hx rfl (hb hby d_sm0_0) rfl rfl k) ?_
  show OGo p e below _ (s₁.setTop (mkF m 1 #[.val (.ref r), .val (.int (0 : Int32)), .val (.int x), .val (.int y), .val (.int z)] [(.ref r)]))
  refine OGo.by_ (fun t k => XS.ifnullNo X0.here hx rfl (hb hby d_sm0_1) rfl k) ?_
  show OGo p e below _ (s₁.setTop (mkF m 4 #[.val (.ref r), .val (.int (0 : Int32)), .val (.int x), .val (.int y), .val (.int z)] []))
  refine OGo.by_ (fun t k => XS.aloadN X0.here hx rfl (hb hby d_sm0_4) rfl rfl k) ?_
  show OGo p e below _ (s₁.setTop (mkF m 5 #[.val (.ref r), .val (.int (0 : Int32)), .val (.int x), .val (.int y), .val (.int z)] [(.ref r)]))
  obtain ⟨cl1, Ar1, q1, S1, Nn1, H1, G1⟩ := id V1
  refine OGo.by_ (X0.arraylength hx (by rw [e0]; exact Ar1.1) (State.isArrayOf_alike hZ.alike Ar1.2.1) (g := (mkF m 5 #[.val (.ref r), .val (.int (0 : Int32)), .val (.int x), .val (.int y), .val (.int z)] [(.ref r)])) rfl rfl (hb hby d_sm0_5)) ?_
  rw [len_of S1 Nn1]
  show OGo p e below _ (s₁.setTop (mkF m 6 #[.val (.ref r), .val (.int (0 : Int32)), .val (.int x), .val (.int y), .val (.int z)] [(.int (0 : Int32))]))
  refine OGo.by_ (fun t k => XS.iloadN X0.here hx rfl (hb hby d_sm0_6) rfl k) ?_
  show OGo p e below _ (s₁.setTop (mkF m 7 #[.val (.ref r), .val (.int (0 : Int32)), .val (.int x), .val (.int y), .val (.int z)] [(.int (0 : Int32)), (.int (0 : Int32))]))
  refine OGo.by_ (fun t k => XS.icmpNo X0.here hx rfl (hb hby d_sm0_7) rfl (teq rfl).2 k) ?_
  show OGo p e below _ (s₁.setTop (mkF m 10 #[.val (.ref r), .val (.int (0 : Int32)), .val (.int x), .val (.int y), .val (.int z)] []))
  refine OGo.by_ (fun t k => XS.iloadN X0.here hx rfl (hb hby d_sm0_10) rfl k) ?_
  show OGo p e below _ (s₁.setTop (mkF m 11 #[.val (.ref r), .val (.int (0 : Int32)), .val (.int x), .val (.int y), .val (.int z)] [(.int (0 : Int32))]))
  refine OGo.by_ (fun t k => XS.iconst X0.here hx rfl (hb hby d_sm0_11) k) ?_
  show OGo p e below _ (s₁.setTop (mkF m 12 #[.val (.ref r), .val (.int (0 : Int32)), .val (.int x), .val (.int y), .val (.int z)] [(.int (1 : Int32)), (.int (0 : Int32))]))
  refine OGo.by_ (fun t k => XS.icmpYes X0.here hx rfl (pc0 := 12) (pc' := 22) rfl (hb hby d_sm0_12) rfl (tlt (by decide)).1 (by decide) (by decide) k) ?_
  show OGo p e below _ (s₁.setTop (mkF m 22 #[.val (.ref r), .val (.int (0 : Int32)), .val (.int x), .val (.int y), .val (.int z)] []))
  refine OGo.by_ (fun t k => XS.iloadN X0.here hx rfl (hb hby d_sm0_22) rfl k) ?_
  show OGo p e below _ (s₁.setTop (mkF m 23 #[.val (.ref r), .val (.int (0 : Int32)), .val (.int x), .val (.int y), .val (.int z)] [(.int (0 : Int32))]))
  refine OGo.by_ (fun t k => XS.iconst X0.here hx rfl (hb hby d_sm0_23) k) ?_
  show OGo p e below _ (s₁.setTop (mkF m 24 #[.val (.ref r), .val (.int (0 : Int32)), .val (.int x), .val (.int y), .val (.int z)] [(.int (2 : Int32)), (.int (0 : Int32))]))
  refine OGo.by_ (fun t k => XS.icmpYes X0.here hx rfl (pc0 := 24) (pc' := 34) rfl (hb hby d_sm0_24) rfl (tlt (by decide)).1 (by decide) (by decide) k) ?_
  show OGo p e below _ (s₁.setTop (mkF m 34 #[.val (.ref r), .val (.int (0 : Int32)), .val (.int x), .val (.int y), .val (.int z)] []))
  refine OGo.by_ (fun t k => XS.iloadN X0.here hx rfl (hb hby d_sm0_34) rfl k) ?_
  show OGo p e below _ (s₁.setTop (mkF m 35 #[.val (.ref r), .val (.int (0 : Int32)), .val (.int x), .val (.int y), .val (.int z)] [(.int (0 : Int32))]))
  refine OGo.by_ (fun t k => XS.iconst X0.here hx rfl (hb hby d_sm0_35) k) ?_
  show OGo p e below _ (s₁.setTop (mkF m 36 #[.val (.ref r), .val (.int (0 : Int32)), .val (.int x), .val (.int y), .val (.int z)] [(.int (3 : Int32)), (.int (0 : Int32))]))
  refine OGo.by_ (fun t k => XS.icmpYes X0.here hx rfl (pc0 := 36) (pc' := 47) rfl (hb hby d_sm0_36) rfl (tlt (by decide)).1 (by decide) (by decide) k) ?_
  show OGo p e below _ (s₁.setTop (mkF m 47 #[.val (.ref r), .val (.int (0 : Int32)), .val (.int x), .val (.int y), .val (.int z)] []))
  refine OGo.by_ (fun t k => XS.iconst X0.here hx rfl (hb hby d_sm0_47) k) ?_
  show OGo p e below _ (s₁.setTop (mkF m 48 #[.val (.ref r), .val (.int (0 : Int32)), .val (.int x), .val (.int y), .val (.int z)] [(.int (1 : Int32))]))
  refine OGo.by_ (fun t k => XS.goto X0.here hx rfl (pc0 := 48) (pc' := 52) rfl (hb hby d_sm0_48) (by decide) (by decide) k) ?_
  show OGo p e below _ (s₁.setTop (mkF m 52 #[.val (.ref r), .val (.int (0 : Int32)), .val (.int x), .val (.int y), .val (.int z)] [(.int (1 : Int32))]))
  exact own_retN X0 hx hlk (t := .boolean) hret (by simp) (hb hby d_sm0_52) (by decide) (by decide) (⟨rfl, N0, e0⟩)
theorem d_sm1_0 : decode method_3_code 0 = .ok (.aload_n 0, 1) := by decide +kernel
theorem d_sm1_1 : decode method_3_code 1 = .ok (.ifnull 50, 3) := by decide +kernel
theorem d_sm1_4 : decode method_3_code 4 = .ok (.aload_n 0, 1) := by decide +kernel
theorem d_sm1_5 : decode method_3_code 5 = .ok (.arraylength, 1) := by decide +kernel
theorem d_sm1_6 : decode method_3_code 6 = .ok (.iload_n 1, 1) := by decide +kernel
theorem d_sm1_7 : decode method_3_code 7 = .ok (.if_icmp .ne 44, 3) := by decide +kernel
theorem d_sm1_10 : decode method_3_code 10 = .ok (.iload_n 1, 1) := by decide +kernel
theorem d_sm1_11 : decode method_3_code 11 = .ok (.iconst 1, 1) := by decide +kernel
theorem d_sm1_12 : decode method_3_code 12 = .ok (.if_icmp .lt 10, 3) := by decide +kernel
theorem d_sm1_15 : decode method_3_code 15 = .ok (.aload_n 0, 1) := by decide +kernel
theorem d_sm1_16 : decode method_3_code 16 = .ok (.iconst 0, 1) := by decide +kernel
theorem d_sm1_17 : decode method_3_code 17 = .ok (.iaload, 1) := by decide +kernel
theorem d_sm1_18 : decode method_3_code 18 = .ok (.iload_n 2, 1) := by decide +kernel
theorem d_sm1_19 : decode method_3_code 19 = .ok (.if_icmp .ne 32, 3) := by decide +kernel
theorem d_sm1_22 : decode method_3_code 22 = .ok (.iload_n 1, 1) := by decide +kernel
theorem d_sm1_23 : decode method_3_code 23 = .ok (.iconst 2, 1) := by decide +kernel
theorem d_sm1_24 : decode method_3_code 24 = .ok (.if_icmp .lt 10, 3) := by decide +kernel
theorem d_sm1_34 : decode method_3_code 34 = .ok (.iload_n 1, 1) := by decide +kernel
theorem d_sm1_35 : decode method_3_code 35 = .ok (.iconst 3, 1) := by decide +kernel
theorem d_sm1_36 : decode method_3_code 36 = .ok (.if_icmp .lt 11, 3) := by decide +kernel
theorem d_sm1_47 : decode method_3_code 47 = .ok (.iconst 1, 1) := by decide +kernel
theorem d_sm1_48 : decode method_3_code 48 = .ok (.goto 4, 3) := by decide +kernel
theorem d_sm1_52 : decode method_3_code 52 = .ok (.ireturn, 1) := by decide +kernel
theorem ef_sm1 (m : MethodId) (x0 : Addr) (x1 : Int32) (x2 : Int32) (x3 : Int32) (x4 : Int32) : entryFrame m #[(.ref x0), (.int x1), (.int x2), (.int x3), (.int x4)] 5 = mkF m 0 #[.val (.ref x0), .val (.int x1), .val (.int x2), .val (.int x3), .val (.int x4)] [] := by first | (simp [entryFrame, mkF, argsToLocals, Value.category]; done) | rfl
def Q_sm1 (Z : State) (r : Addr) (kr : ClassId) (x y z : Int32) (h0 : Heap) (n0 : Nat) (v : Option Value) (h : Heap) (L : List Loc) : Prop := v = some (.int (1 : Int32)) ∧ Fr n0 L ∧ h = h0
set_option maxRecDepth 65536 in
set_option maxHeartbeats 40000000 in
theorem rm_sm1 (l : Launch) (Z : State) (a0 : Array Value) (hw : ∀ d ∈ tables_1, d.before a0 Z = true) (ws : List Jvm.Cond) (r : Addr) (kr : ClassId) (x y z : Int32) (h0 : Heap) (n0 : Nat) (Z0 : n0 ≤ h0.size) (V1 : Arv Z h0 r kr .int (1 : Int32) [(.int x)] (.int (0 : Int32))) :
    MetFree l (⟨"com/example/fair_witness/fairwitness/model/StateValueIndicesPinLaw", "same", "([IIIII)Z"⟩ : MethodName) (head1 (Jvm.Cond.code (⟨"com/example/fair_witness/fairwitness/model/StateValueIndicesPinLaw", "same", "([IIIII)Z"⟩ : MethodName) method_3_code 5 (some .boolean) :: ws) ({ frames := 0, cells := 0, slots := 0, locals := 0 } : Room)) (fun a_ U => a_ = #[(.ref r), (.int (1 : Int32)), (.int x), (.int y), (.int z)] ∧ Z.Warmed39 U.vm ∧ U.heap = h0) (fun _ _ _ _ _ => True) (fun _ U o U' => ∃ v L, o = .returned v ∧ Q_sm1 Z r kr x y z h0 n0 v U'.heap L ∧ FrameEnd U o U' L ({ frames := 0, cells := 0, slots := 0, locals := 0 } : Room).cells ({ frames := 0, cells := 0, slots := 0, locals := 0 } : Room).slots) := by
  refine MetFree.of_bodySF (plainFor_of_name pn_com_example_fair_witness_fairwitness_model_StateValueIndicesPinLaw) hisR ?_
  intro p e s m args below meth c s₁ Bd hml0 hP hK
  obtain ⟨rfl, hZ, hh⟩ := hP
  have hx := Bd.exec
  have hby := Bd.bytes
  have hml : c.maxLocals = 5 := hml0
  have hown : s.vm.findClass "com/example/fair_witness/fairwitness/model/StateValueIndicesPinLaw" = some m.cls := findClass_of_methodNamed Bd.named
  have hnm := (name_of_methodNamed Bd.named Bd.method).1
  have X0 : Stand p l e ({ frames := 0, cells := 0, slots := 0, locals := 0 } : Room) s m #[(.ref r), (.int (1 : Int32)), (.int x), (.int y), (.int z)] below meth c s₁ [] 0 0 := Stand.of_body Bd
  have e0 : s₁.heap = h0 := by rw [← hh, Bd.state]; rfl
  have N0 := Fr.nil n0
  have hlk := Bd.notSynchronized
  have hret := Bd.returns
  show OGo p e below (OEnd s (Q_sm1 Z r kr x y z h0 n0) ({ frames := 0, cells := 0, slots := 0, locals := 0 } : Room).cells ({ frames := 0, cells := 0, slots := 0, locals := 0 } : Room).slots) (s₁.setTop (entryFrame m #[(.ref r), (.int (1 : Int32)), (.int x), (.int y), (.int z)] 5))
  rw [ef_sm1]
  show OGo p e below _ (s₁.setTop (mkF m 0 #[.val (.ref r), .val (.int (1 : Int32)), .val (.int x), .val (.int y), .val (.int z)] []))
  refine OGo.by_ (fun t k => XS.aloadN X0.here hx rfl (hb hby d_sm1_0) rfl rfl k) ?_
  show OGo p e below _ (s₁.setTop (mkF m 1 #[.val (.ref r), .val (.int (1 : Int32)), .val (.int x), .val (.int y), .val (.int z)] [(.ref r)]))
  refine OGo.by_ (fun t k => XS.ifnullNo X0.here hx rfl (hb hby d_sm1_1) rfl k) ?_
  show OGo p e below _ (s₁.setTop (mkF m 4 #[.val (.ref r), .val (.int (1 : Int32)), .val (.int x), .val (.int y), .val (.int z)] []))
  refine OGo.by_ (fun t k => XS.aloadN X0.here hx rfl (hb hby d_sm1_4) rfl rfl k) ?_
  show OGo p e below _ (s₁.setTop (mkF m 5 #[.val (.ref r), .val (.int (1 : Int32)), .val (.int x), .val (.int y), .val (.int z)] [(.ref r)]))
  obtain ⟨cl1, Ar1, q1, S1, Nn1, H1, G1⟩ := id V1
  refine OGo.by_ (X0.arraylength hx (by rw [e0]; exact Ar1.1) (State.isArrayOf_alike hZ.alike Ar1.2.1) (g := (mkF m 5 #[.val (.ref r), .val (.int (1 : Int32)), .val (.int x), .val (.int y), .val (.int z)] [(.ref r)])) rfl rfl (hb hby d_sm1_5)) ?_
  rw [len_of S1 Nn1]
  show OGo p e below _ (s₁.setTop (mkF m 6 #[.val (.ref r), .val (.int (1 : Int32)), .val (.int x), .val (.int y), .val (.int z)] [(.int (1 : Int32))]))
  refine OGo.by_ (fun t k => XS.iloadN X0.here hx rfl (hb hby d_sm1_6) rfl k) ?_
  show OGo p e below _ (s₁.setTop (mkF m 7 #[.val (.ref r), .val (.int (1 : Int32)), .val (.int x), .val (.int y), .val (.int z)] [(.int (1 : Int32)), (.int (1 : Int32))]))
  refine OGo.by_ (fun t k => XS.icmpNo X0.here hx rfl (hb hby d_sm1_7) rfl (teq rfl).2 k) ?_
  show OGo p e below _ (s₁.setTop (mkF m 10 #[.val (.ref r), .val (.int (1 : Int32)), .val (.int x), .val (.int y), .val (.int z)] []))
  refine OGo.by_ (fun t k => XS.iloadN X0.here hx rfl (hb hby d_sm1_10) rfl k) ?_
  show OGo p e below _ (s₁.setTop (mkF m 11 #[.val (.ref r), .val (.int (1 : Int32)), .val (.int x), .val (.int y), .val (.int z)] [(.int (1 : Int32))]))
  refine OGo.by_ (fun t k => XS.iconst X0.here hx rfl (hb hby d_sm1_11) k) ?_
  show OGo p e below _ (s₁.setTop (mkF m 12 #[.val (.ref r), .val (.int (1 : Int32)), .val (.int x), .val (.int y), .val (.int z)] [(.int (1 : Int32)), (.int (1 : Int32))]))
  refine OGo.by_ (fun t k => XS.icmpNo X0.here hx rfl (hb hby d_sm1_12) rfl (flt (by decide)).1 k) ?_
  show OGo p e below _ (s₁.setTop (mkF m 15 #[.val (.ref r), .val (.int (1 : Int32)), .val (.int x), .val (.int y), .val (.int z)] []))
  refine OGo.by_ (fun t k => XS.aloadN X0.here hx rfl (hb hby d_sm1_15) rfl rfl k) ?_
  show OGo p e below _ (s₁.setTop (mkF m 16 #[.val (.ref r), .val (.int (1 : Int32)), .val (.int x), .val (.int y), .val (.int z)] [(.ref r)]))
  refine OGo.by_ (fun t k => XS.iconst X0.here hx rfl (hb hby d_sm1_16) k) ?_
  show OGo p e below _ (s₁.setTop (mkF m 17 #[.val (.ref r), .val (.int (1 : Int32)), .val (.int x), .val (.int y), .val (.int z)] [(.int (0 : Int32)), (.ref r)]))
  obtain ⟨cl2, Ar2, q2, S2, Nn2, H2, G2⟩ := id V1
  have in2 := inb_of S2 ⟨(by decide : ¬ (0 : Int32) < 0), (by decide : (0 : Int32) < (1 : Int32))⟩
  refine OGo.by_ (fun t kk => X0.iaload hx (j := (0 : Int32)) (v := (.int x)) (by rw [e0]; exact Ar2.1) (State.isArrayOf_alike hZ.alike Ar2.2.1) Ar2.2.2 in2 (H2.at in2 (rfl)) (g := (mkF m 17 #[.val (.ref r), .val (.int (1 : Int32)), .val (.int x), .val (.int y), .val (.int z)] [(.int (0 : Int32)), (.ref r)])) rfl rfl (hb hby d_sm1_17) _ kk) ?_
  show OGo p e below _ (s₁.setTop (mkF m 18 #[.val (.ref r), .val (.int (1 : Int32)), .val (.int x), .val (.int y), .val (.int z)] [(.int x)]))
  refine OGo.by_ (fun t k => XS.iloadN X0.here hx rfl (hb hby d_sm1_18) rfl k) ?_
  show OGo p e below _ (s₁.setTop (mkF m 19 #[.val (.ref r), .val (.int (1 : Int32)), .val (.int x), .val (.int y), .val (.int z)] [(.int x), (.int x)]))
  refine OGo.by_ (fun t k => XS.icmpNo X0.here hx rfl (hb hby d_sm1_19) rfl (teq rfl).2 k) ?_
  show OGo p e below _ (s₁.setTop (mkF m 22 #[.val (.ref r), .val (.int (1 : Int32)), .val (.int x), .val (.int y), .val (.int z)] []))
  refine OGo.by_ (fun t k => XS.iloadN X0.here hx rfl (hb hby d_sm1_22) rfl k) ?_
  show OGo p e below _ (s₁.setTop (mkF m 23 #[.val (.ref r), .val (.int (1 : Int32)), .val (.int x), .val (.int y), .val (.int z)] [(.int (1 : Int32))]))
  refine OGo.by_ (fun t k => XS.iconst X0.here hx rfl (hb hby d_sm1_23) k) ?_
  show OGo p e below _ (s₁.setTop (mkF m 24 #[.val (.ref r), .val (.int (1 : Int32)), .val (.int x), .val (.int y), .val (.int z)] [(.int (2 : Int32)), (.int (1 : Int32))]))
  refine OGo.by_ (fun t k => XS.icmpYes X0.here hx rfl (pc0 := 24) (pc' := 34) rfl (hb hby d_sm1_24) rfl (tlt (by decide)).1 (by decide) (by decide) k) ?_
  show OGo p e below _ (s₁.setTop (mkF m 34 #[.val (.ref r), .val (.int (1 : Int32)), .val (.int x), .val (.int y), .val (.int z)] []))
  refine OGo.by_ (fun t k => XS.iloadN X0.here hx rfl (hb hby d_sm1_34) rfl k) ?_
  show OGo p e below _ (s₁.setTop (mkF m 35 #[.val (.ref r), .val (.int (1 : Int32)), .val (.int x), .val (.int y), .val (.int z)] [(.int (1 : Int32))]))
  refine OGo.by_ (fun t k => XS.iconst X0.here hx rfl (hb hby d_sm1_35) k) ?_
  show OGo p e below _ (s₁.setTop (mkF m 36 #[.val (.ref r), .val (.int (1 : Int32)), .val (.int x), .val (.int y), .val (.int z)] [(.int (3 : Int32)), (.int (1 : Int32))]))
  refine OGo.by_ (fun t k => XS.icmpYes X0.here hx rfl (pc0 := 36) (pc' := 47) rfl (hb hby d_sm1_36) rfl (tlt (by decide)).1 (by decide) (by decide) k) ?_
  show OGo p e below _ (s₁.setTop (mkF m 47 #[.val (.ref r), .val (.int (1 : Int32)), .val (.int x), .val (.int y), .val (.int z)] []))
  refine OGo.by_ (fun t k => XS.iconst X0.here hx rfl (hb hby d_sm1_47) k) ?_
  show OGo p e below _ (s₁.setTop (mkF m 48 #[.val (.ref r), .val (.int (1 : Int32)), .val (.int x), .val (.int y), .val (.int z)] [(.int (1 : Int32))]))
  refine OGo.by_ (fun t k => XS.goto X0.here hx rfl (pc0 := 48) (pc' := 52) rfl (hb hby d_sm1_48) (by decide) (by decide) k) ?_
  show OGo p e below _ (s₁.setTop (mkF m 52 #[.val (.ref r), .val (.int (1 : Int32)), .val (.int x), .val (.int y), .val (.int z)] [(.int (1 : Int32))]))
  exact own_retN X0 hx hlk (t := .boolean) hret (by simp) (hb hby d_sm1_52) (by decide) (by decide) (⟨rfl, N0, e0⟩)
theorem d_sm2_0 : decode method_3_code 0 = .ok (.aload_n 0, 1) := by decide +kernel
theorem d_sm2_1 : decode method_3_code 1 = .ok (.ifnull 50, 3) := by decide +kernel
theorem d_sm2_4 : decode method_3_code 4 = .ok (.aload_n 0, 1) := by decide +kernel
theorem d_sm2_5 : decode method_3_code 5 = .ok (.arraylength, 1) := by decide +kernel
theorem d_sm2_6 : decode method_3_code 6 = .ok (.iload_n 1, 1) := by decide +kernel
theorem d_sm2_7 : decode method_3_code 7 = .ok (.if_icmp .ne 44, 3) := by decide +kernel
theorem d_sm2_10 : decode method_3_code 10 = .ok (.iload_n 1, 1) := by decide +kernel
theorem d_sm2_11 : decode method_3_code 11 = .ok (.iconst 1, 1) := by decide +kernel
theorem d_sm2_12 : decode method_3_code 12 = .ok (.if_icmp .lt 10, 3) := by decide +kernel
theorem d_sm2_15 : decode method_3_code 15 = .ok (.aload_n 0, 1) := by decide +kernel
theorem d_sm2_16 : decode method_3_code 16 = .ok (.iconst 0, 1) := by decide +kernel
theorem d_sm2_17 : decode method_3_code 17 = .ok (.iaload, 1) := by decide +kernel
theorem d_sm2_18 : decode method_3_code 18 = .ok (.iload_n 2, 1) := by decide +kernel
theorem d_sm2_19 : decode method_3_code 19 = .ok (.if_icmp .ne 32, 3) := by decide +kernel
theorem d_sm2_22 : decode method_3_code 22 = .ok (.iload_n 1, 1) := by decide +kernel
theorem d_sm2_23 : decode method_3_code 23 = .ok (.iconst 2, 1) := by decide +kernel
theorem d_sm2_24 : decode method_3_code 24 = .ok (.if_icmp .lt 10, 3) := by decide +kernel
theorem d_sm2_27 : decode method_3_code 27 = .ok (.aload_n 0, 1) := by decide +kernel
theorem d_sm2_28 : decode method_3_code 28 = .ok (.iconst 1, 1) := by decide +kernel
theorem d_sm2_29 : decode method_3_code 29 = .ok (.iaload, 1) := by decide +kernel
theorem d_sm2_30 : decode method_3_code 30 = .ok (.iload_n 3, 1) := by decide +kernel
theorem d_sm2_31 : decode method_3_code 31 = .ok (.if_icmp .ne 20, 3) := by decide +kernel
theorem d_sm2_34 : decode method_3_code 34 = .ok (.iload_n 1, 1) := by decide +kernel
theorem d_sm2_35 : decode method_3_code 35 = .ok (.iconst 3, 1) := by decide +kernel
theorem d_sm2_36 : decode method_3_code 36 = .ok (.if_icmp .lt 11, 3) := by decide +kernel
theorem d_sm2_47 : decode method_3_code 47 = .ok (.iconst 1, 1) := by decide +kernel
theorem d_sm2_48 : decode method_3_code 48 = .ok (.goto 4, 3) := by decide +kernel
theorem d_sm2_52 : decode method_3_code 52 = .ok (.ireturn, 1) := by decide +kernel
theorem ef_sm2 (m : MethodId) (x0 : Addr) (x1 : Int32) (x2 : Int32) (x3 : Int32) (x4 : Int32) : entryFrame m #[(.ref x0), (.int x1), (.int x2), (.int x3), (.int x4)] 5 = mkF m 0 #[.val (.ref x0), .val (.int x1), .val (.int x2), .val (.int x3), .val (.int x4)] [] := by first | (simp [entryFrame, mkF, argsToLocals, Value.category]; done) | rfl
def Q_sm2 (Z : State) (r : Addr) (kr : ClassId) (x y z : Int32) (h0 : Heap) (n0 : Nat) (v : Option Value) (h : Heap) (L : List Loc) : Prop := v = some (.int (1 : Int32)) ∧ Fr n0 L ∧ h = h0
set_option maxRecDepth 65536 in
set_option maxHeartbeats 40000000 in
theorem rm_sm2 (l : Launch) (Z : State) (a0 : Array Value) (hw : ∀ d ∈ tables_1, d.before a0 Z = true) (ws : List Jvm.Cond) (r : Addr) (kr : ClassId) (x y z : Int32) (h0 : Heap) (n0 : Nat) (Z0 : n0 ≤ h0.size) (V1 : Arv Z h0 r kr .int (2 : Int32) [(.int x), (.int y)] (.int (0 : Int32))) :
    MetFree l (⟨"com/example/fair_witness/fairwitness/model/StateValueIndicesPinLaw", "same", "([IIIII)Z"⟩ : MethodName) (head1 (Jvm.Cond.code (⟨"com/example/fair_witness/fairwitness/model/StateValueIndicesPinLaw", "same", "([IIIII)Z"⟩ : MethodName) method_3_code 5 (some .boolean) :: ws) ({ frames := 0, cells := 0, slots := 0, locals := 0 } : Room)) (fun a_ U => a_ = #[(.ref r), (.int (2 : Int32)), (.int x), (.int y), (.int z)] ∧ Z.Warmed39 U.vm ∧ U.heap = h0) (fun _ _ _ _ _ => True) (fun _ U o U' => ∃ v L, o = .returned v ∧ Q_sm2 Z r kr x y z h0 n0 v U'.heap L ∧ FrameEnd U o U' L ({ frames := 0, cells := 0, slots := 0, locals := 0 } : Room).cells ({ frames := 0, cells := 0, slots := 0, locals := 0 } : Room).slots) := by
  refine MetFree.of_bodySF (plainFor_of_name pn_com_example_fair_witness_fairwitness_model_StateValueIndicesPinLaw) hisR ?_
  intro p e s m args below meth c s₁ Bd hml0 hP hK
  obtain ⟨rfl, hZ, hh⟩ := hP
  have hx := Bd.exec
  have hby := Bd.bytes
  have hml : c.maxLocals = 5 := hml0
  have hown : s.vm.findClass "com/example/fair_witness/fairwitness/model/StateValueIndicesPinLaw" = some m.cls := findClass_of_methodNamed Bd.named
  have hnm := (name_of_methodNamed Bd.named Bd.method).1
  have X0 : Stand p l e ({ frames := 0, cells := 0, slots := 0, locals := 0 } : Room) s m #[(.ref r), (.int (2 : Int32)), (.int x), (.int y), (.int z)] below meth c s₁ [] 0 0 := Stand.of_body Bd
  have e0 : s₁.heap = h0 := by rw [← hh, Bd.state]; rfl
  have N0 := Fr.nil n0
  have hlk := Bd.notSynchronized
  have hret := Bd.returns
  show OGo p e below (OEnd s (Q_sm2 Z r kr x y z h0 n0) ({ frames := 0, cells := 0, slots := 0, locals := 0 } : Room).cells ({ frames := 0, cells := 0, slots := 0, locals := 0 } : Room).slots) (s₁.setTop (entryFrame m #[(.ref r), (.int (2 : Int32)), (.int x), (.int y), (.int z)] 5))
  rw [ef_sm2]
  show OGo p e below _ (s₁.setTop (mkF m 0 #[.val (.ref r), .val (.int (2 : Int32)), .val (.int x), .val (.int y), .val (.int z)] []))
  refine OGo.by_ (fun t k => XS.aloadN X0.here hx rfl (hb hby d_sm2_0) rfl rfl k) ?_
  show OGo p e below _ (s₁.setTop (mkF m 1 #[.val (.ref r), .val (.int (2 : Int32)), .val (.int x), .val (.int y), .val (.int z)] [(.ref r)]))
  refine OGo.by_ (fun t k => XS.ifnullNo X0.here hx rfl (hb hby d_sm2_1) rfl k) ?_
  show OGo p e below _ (s₁.setTop (mkF m 4 #[.val (.ref r), .val (.int (2 : Int32)), .val (.int x), .val (.int y), .val (.int z)] []))
  refine OGo.by_ (fun t k => XS.aloadN X0.here hx rfl (hb hby d_sm2_4) rfl rfl k) ?_
  show OGo p e below _ (s₁.setTop (mkF m 5 #[.val (.ref r), .val (.int (2 : Int32)), .val (.int x), .val (.int y), .val (.int z)] [(.ref r)]))
  obtain ⟨cl1, Ar1, q1, S1, Nn1, H1, G1⟩ := id V1
  refine OGo.by_ (X0.arraylength hx (by rw [e0]; exact Ar1.1) (State.isArrayOf_alike hZ.alike Ar1.2.1) (g := (mkF m 5 #[.val (.ref r), .val (.int (2 : Int32)), .val (.int x), .val (.int y), .val (.int z)] [(.ref r)])) rfl rfl (hb hby d_sm2_5)) ?_
  rw [len_of S1 Nn1]
  show OGo p e below _ (s₁.setTop (mkF m 6 #[.val (.ref r), .val (.int (2 : Int32)), .val (.int x), .val (.int y), .val (.int z)] [(.int (2 : Int32))]))
  refine OGo.by_ (fun t k => XS.iloadN X0.here hx rfl (hb hby d_sm2_6) rfl k) ?_
  show OGo p e below _ (s₁.setTop (mkF m 7 #[.val (.ref r), .val (.int (2 : Int32)), .val (.int x), .val (.int y), .val (.int z)] [(.int (2 : Int32)), (.int (2 : Int32))]))
  refine OGo.by_ (fun t k => XS.icmpNo X0.here hx rfl (hb hby d_sm2_7) rfl (teq rfl).2 k) ?_
  show OGo p e below _ (s₁.setTop (mkF m 10 #[.val (.ref r), .val (.int (2 : Int32)), .val (.int x), .val (.int y), .val (.int z)] []))
  refine OGo.by_ (fun t k => XS.iloadN X0.here hx rfl (hb hby d_sm2_10) rfl k) ?_
  show OGo p e below _ (s₁.setTop (mkF m 11 #[.val (.ref r), .val (.int (2 : Int32)), .val (.int x), .val (.int y), .val (.int z)] [(.int (2 : Int32))]))
  refine OGo.by_ (fun t k => XS.iconst X0.here hx rfl (hb hby d_sm2_11) k) ?_
  show OGo p e below _ (s₁.setTop (mkF m 12 #[.val (.ref r), .val (.int (2 : Int32)), .val (.int x), .val (.int y), .val (.int z)] [(.int (1 : Int32)), (.int (2 : Int32))]))
  refine OGo.by_ (fun t k => XS.icmpNo X0.here hx rfl (hb hby d_sm2_12) rfl (flt (by decide)).1 k) ?_
  show OGo p e below _ (s₁.setTop (mkF m 15 #[.val (.ref r), .val (.int (2 : Int32)), .val (.int x), .val (.int y), .val (.int z)] []))
  refine OGo.by_ (fun t k => XS.aloadN X0.here hx rfl (hb hby d_sm2_15) rfl rfl k) ?_
  show OGo p e below _ (s₁.setTop (mkF m 16 #[.val (.ref r), .val (.int (2 : Int32)), .val (.int x), .val (.int y), .val (.int z)] [(.ref r)]))
  refine OGo.by_ (fun t k => XS.iconst X0.here hx rfl (hb hby d_sm2_16) k) ?_
  show OGo p e below _ (s₁.setTop (mkF m 17 #[.val (.ref r), .val (.int (2 : Int32)), .val (.int x), .val (.int y), .val (.int z)] [(.int (0 : Int32)), (.ref r)]))
  obtain ⟨cl2, Ar2, q2, S2, Nn2, H2, G2⟩ := id V1
  have in2 := inb_of S2 ⟨(by decide : ¬ (0 : Int32) < 0), (by decide : (0 : Int32) < (2 : Int32))⟩
  refine OGo.by_ (fun t kk => X0.iaload hx (j := (0 : Int32)) (v := (.int x)) (by rw [e0]; exact Ar2.1) (State.isArrayOf_alike hZ.alike Ar2.2.1) Ar2.2.2 in2 (H2.at in2 (rfl)) (g := (mkF m 17 #[.val (.ref r), .val (.int (2 : Int32)), .val (.int x), .val (.int y), .val (.int z)] [(.int (0 : Int32)), (.ref r)])) rfl rfl (hb hby d_sm2_17) _ kk) ?_
  show OGo p e below _ (s₁.setTop (mkF m 18 #[.val (.ref r), .val (.int (2 : Int32)), .val (.int x), .val (.int y), .val (.int z)] [(.int x)]))
  refine OGo.by_ (fun t k => XS.iloadN X0.here hx rfl (hb hby d_sm2_18) rfl k) ?_
  show OGo p e below _ (s₁.setTop (mkF m 19 #[.val (.ref r), .val (.int (2 : Int32)), .val (.int x), .val (.int y), .val (.int z)] [(.int x), (.int x)]))
  refine OGo.by_ (fun t k => XS.icmpNo X0.here hx rfl (hb hby d_sm2_19) rfl (teq rfl).2 k) ?_
  show OGo p e below _ (s₁.setTop (mkF m 22 #[.val (.ref r), .val (.int (2 : Int32)), .val (.int x), .val (.int y), .val (.int z)] []))
  refine OGo.by_ (fun t k => XS.iloadN X0.here hx rfl (hb hby d_sm2_22) rfl k) ?_
  show OGo p e below _ (s₁.setTop (mkF m 23 #[.val (.ref r), .val (.int (2 : Int32)), .val (.int x), .val (.int y), .val (.int z)] [(.int (2 : Int32))]))
  refine OGo.by_ (fun t k => XS.iconst X0.here hx rfl (hb hby d_sm2_23) k) ?_
  show OGo p e below _ (s₁.setTop (mkF m 24 #[.val (.ref r), .val (.int (2 : Int32)), .val (.int x), .val (.int y), .val (.int z)] [(.int (2 : Int32)), (.int (2 : Int32))]))
  refine OGo.by_ (fun t k => XS.icmpNo X0.here hx rfl (hb hby d_sm2_24) rfl (flt (by decide)).1 k) ?_
  show OGo p e below _ (s₁.setTop (mkF m 27 #[.val (.ref r), .val (.int (2 : Int32)), .val (.int x), .val (.int y), .val (.int z)] []))
  refine OGo.by_ (fun t k => XS.aloadN X0.here hx rfl (hb hby d_sm2_27) rfl rfl k) ?_
  show OGo p e below _ (s₁.setTop (mkF m 28 #[.val (.ref r), .val (.int (2 : Int32)), .val (.int x), .val (.int y), .val (.int z)] [(.ref r)]))
  refine OGo.by_ (fun t k => XS.iconst X0.here hx rfl (hb hby d_sm2_28) k) ?_
  show OGo p e below _ (s₁.setTop (mkF m 29 #[.val (.ref r), .val (.int (2 : Int32)), .val (.int x), .val (.int y), .val (.int z)] [(.int (1 : Int32)), (.ref r)]))
  obtain ⟨cl3, Ar3, q3, S3, Nn3, H3, G3⟩ := id V1
  have in3 := inb_of S3 ⟨(by decide : ¬ (1 : Int32) < 0), (by decide : (1 : Int32) < (2 : Int32))⟩
  refine OGo.by_ (fun t kk => X0.iaload hx (j := (1 : Int32)) (v := (.int y)) (by rw [e0]; exact Ar3.1) (State.isArrayOf_alike hZ.alike Ar3.2.1) Ar3.2.2 in3 (H3.at in3 (rfl)) (g := (mkF m 29 #[.val (.ref r), .val (.int (2 : Int32)), .val (.int x), .val (.int y), .val (.int z)] [(.int (1 : Int32)), (.ref r)])) rfl rfl (hb hby d_sm2_29) _ kk) ?_
  show OGo p e below _ (s₁.setTop (mkF m 30 #[.val (.ref r), .val (.int (2 : Int32)), .val (.int x), .val (.int y), .val (.int z)] [(.int y)]))
  refine OGo.by_ (fun t k => XS.iloadN X0.here hx rfl (hb hby d_sm2_30) rfl k) ?_
  show OGo p e below _ (s₁.setTop (mkF m 31 #[.val (.ref r), .val (.int (2 : Int32)), .val (.int x), .val (.int y), .val (.int z)] [(.int y), (.int y)]))
  refine OGo.by_ (fun t k => XS.icmpNo X0.here hx rfl (hb hby d_sm2_31) rfl (teq rfl).2 k) ?_
  show OGo p e below _ (s₁.setTop (mkF m 34 #[.val (.ref r), .val (.int (2 : Int32)), .val (.int x), .val (.int y), .val (.int z)] []))
  refine OGo.by_ (fun t k => XS.iloadN X0.here hx rfl (hb hby d_sm2_34) rfl k) ?_
  show OGo p e below _ (s₁.setTop (mkF m 35 #[.val (.ref r), .val (.int (2 : Int32)), .val (.int x), .val (.int y), .val (.int z)] [(.int (2 : Int32))]))
  refine OGo.by_ (fun t k => XS.iconst X0.here hx rfl (hb hby d_sm2_35) k) ?_
  show OGo p e below _ (s₁.setTop (mkF m 36 #[.val (.ref r), .val (.int (2 : Int32)), .val (.int x), .val (.int y), .val (.int z)] [(.int (3 : Int32)), (.int (2 : Int32))]))
  refine OGo.by_ (fun t k => XS.icmpYes X0.here hx rfl (pc0 := 36) (pc' := 47) rfl (hb hby d_sm2_36) rfl (tlt (by decide)).1 (by decide) (by decide) k) ?_
  show OGo p e below _ (s₁.setTop (mkF m 47 #[.val (.ref r), .val (.int (2 : Int32)), .val (.int x), .val (.int y), .val (.int z)] []))
  refine OGo.by_ (fun t k => XS.iconst X0.here hx rfl (hb hby d_sm2_47) k) ?_
  show OGo p e below _ (s₁.setTop (mkF m 48 #[.val (.ref r), .val (.int (2 : Int32)), .val (.int x), .val (.int y), .val (.int z)] [(.int (1 : Int32))]))
  refine OGo.by_ (fun t k => XS.goto X0.here hx rfl (pc0 := 48) (pc' := 52) rfl (hb hby d_sm2_48) (by decide) (by decide) k) ?_
  show OGo p e below _ (s₁.setTop (mkF m 52 #[.val (.ref r), .val (.int (2 : Int32)), .val (.int x), .val (.int y), .val (.int z)] [(.int (1 : Int32))]))
  exact own_retN X0 hx hlk (t := .boolean) hret (by simp) (hb hby d_sm2_52) (by decide) (by decide) (⟨rfl, N0, e0⟩)
theorem d_sm3_0 : decode method_3_code 0 = .ok (.aload_n 0, 1) := by decide +kernel
theorem d_sm3_1 : decode method_3_code 1 = .ok (.ifnull 50, 3) := by decide +kernel
theorem d_sm3_4 : decode method_3_code 4 = .ok (.aload_n 0, 1) := by decide +kernel
theorem d_sm3_5 : decode method_3_code 5 = .ok (.arraylength, 1) := by decide +kernel
theorem d_sm3_6 : decode method_3_code 6 = .ok (.iload_n 1, 1) := by decide +kernel
theorem d_sm3_7 : decode method_3_code 7 = .ok (.if_icmp .ne 44, 3) := by decide +kernel
theorem d_sm3_10 : decode method_3_code 10 = .ok (.iload_n 1, 1) := by decide +kernel
theorem d_sm3_11 : decode method_3_code 11 = .ok (.iconst 1, 1) := by decide +kernel
theorem d_sm3_12 : decode method_3_code 12 = .ok (.if_icmp .lt 10, 3) := by decide +kernel
theorem d_sm3_15 : decode method_3_code 15 = .ok (.aload_n 0, 1) := by decide +kernel
theorem d_sm3_16 : decode method_3_code 16 = .ok (.iconst 0, 1) := by decide +kernel
theorem d_sm3_17 : decode method_3_code 17 = .ok (.iaload, 1) := by decide +kernel
theorem d_sm3_18 : decode method_3_code 18 = .ok (.iload_n 2, 1) := by decide +kernel
theorem d_sm3_19 : decode method_3_code 19 = .ok (.if_icmp .ne 32, 3) := by decide +kernel
theorem d_sm3_22 : decode method_3_code 22 = .ok (.iload_n 1, 1) := by decide +kernel
theorem d_sm3_23 : decode method_3_code 23 = .ok (.iconst 2, 1) := by decide +kernel
theorem d_sm3_24 : decode method_3_code 24 = .ok (.if_icmp .lt 10, 3) := by decide +kernel
theorem d_sm3_27 : decode method_3_code 27 = .ok (.aload_n 0, 1) := by decide +kernel
theorem d_sm3_28 : decode method_3_code 28 = .ok (.iconst 1, 1) := by decide +kernel
theorem d_sm3_29 : decode method_3_code 29 = .ok (.iaload, 1) := by decide +kernel
theorem d_sm3_30 : decode method_3_code 30 = .ok (.iload_n 3, 1) := by decide +kernel
theorem d_sm3_31 : decode method_3_code 31 = .ok (.if_icmp .ne 20, 3) := by decide +kernel
theorem d_sm3_34 : decode method_3_code 34 = .ok (.iload_n 1, 1) := by decide +kernel
theorem d_sm3_35 : decode method_3_code 35 = .ok (.iconst 3, 1) := by decide +kernel
theorem d_sm3_36 : decode method_3_code 36 = .ok (.if_icmp .lt 11, 3) := by decide +kernel
theorem d_sm3_39 : decode method_3_code 39 = .ok (.aload_n 0, 1) := by decide +kernel
theorem d_sm3_40 : decode method_3_code 40 = .ok (.iconst 2, 1) := by decide +kernel
theorem d_sm3_41 : decode method_3_code 41 = .ok (.iaload, 1) := by decide +kernel
theorem d_sm3_42 : decode method_3_code 42 = .ok (.iload 4, 2) := by decide +kernel
theorem d_sm3_44 : decode method_3_code 44 = .ok (.if_icmp .ne 7, 3) := by decide +kernel
theorem d_sm3_47 : decode method_3_code 47 = .ok (.iconst 1, 1) := by decide +kernel
theorem d_sm3_48 : decode method_3_code 48 = .ok (.goto 4, 3) := by decide +kernel
theorem d_sm3_52 : decode method_3_code 52 = .ok (.ireturn, 1) := by decide +kernel
theorem ef_sm3 (m : MethodId) (x0 : Addr) (x1 : Int32) (x2 : Int32) (x3 : Int32) (x4 : Int32) : entryFrame m #[(.ref x0), (.int x1), (.int x2), (.int x3), (.int x4)] 5 = mkF m 0 #[.val (.ref x0), .val (.int x1), .val (.int x2), .val (.int x3), .val (.int x4)] [] := by first | (simp [entryFrame, mkF, argsToLocals, Value.category]; done) | rfl
def Q_sm3 (Z : State) (r : Addr) (kr : ClassId) (x y z : Int32) (h0 : Heap) (n0 : Nat) (v : Option Value) (h : Heap) (L : List Loc) : Prop := v = some (.int (1 : Int32)) ∧ Fr n0 L ∧ h = h0
set_option maxRecDepth 65536 in
set_option maxHeartbeats 40000000 in
theorem rm_sm3 (l : Launch) (Z : State) (a0 : Array Value) (hw : ∀ d ∈ tables_1, d.before a0 Z = true) (ws : List Jvm.Cond) (r : Addr) (kr : ClassId) (x y z : Int32) (h0 : Heap) (n0 : Nat) (Z0 : n0 ≤ h0.size) (V1 : Arv Z h0 r kr .int (3 : Int32) [(.int x), (.int y), (.int z)] (.int (0 : Int32))) :
    MetFree l (⟨"com/example/fair_witness/fairwitness/model/StateValueIndicesPinLaw", "same", "([IIIII)Z"⟩ : MethodName) (head1 (Jvm.Cond.code (⟨"com/example/fair_witness/fairwitness/model/StateValueIndicesPinLaw", "same", "([IIIII)Z"⟩ : MethodName) method_3_code 5 (some .boolean) :: ws) ({ frames := 0, cells := 0, slots := 0, locals := 0 } : Room)) (fun a_ U => a_ = #[(.ref r), (.int (3 : Int32)), (.int x), (.int y), (.int z)] ∧ Z.Warmed39 U.vm ∧ U.heap = h0) (fun _ _ _ _ _ => True) (fun _ U o U' => ∃ v L, o = .returned v ∧ Q_sm3 Z r kr x y z h0 n0 v U'.heap L ∧ FrameEnd U o U' L ({ frames := 0, cells := 0, slots := 0, locals := 0 } : Room).cells ({ frames := 0, cells := 0, slots := 0, locals := 0 } : Room).slots) := by
  refine MetFree.of_bodySF (plainFor_of_name pn_com_example_fair_witness_fairwitness_model_StateValueIndicesPinLaw) hisR ?_
  intro p e s m args below meth c s₁ Bd hml0 hP hK
  obtain ⟨rfl, hZ, hh⟩ := hP
  have hx := Bd.exec
  have hby := Bd.bytes
  have hml : c.maxLocals = 5 := hml0
  have hown : s.vm.findClass "com/example/fair_witness/fairwitness/model/StateValueIndicesPinLaw" = some m.cls := findClass_of_methodNamed Bd.named
  have hnm := (name_of_methodNamed Bd.named Bd.method).1
  have X0 : Stand p l e ({ frames := 0, cells := 0, slots := 0, locals := 0 } : Room) s m #[(.ref r), (.int (3 : Int32)), (.int x), (.int y), (.int z)] below meth c s₁ [] 0 0 := Stand.of_body Bd
  have e0 : s₁.heap = h0 := by rw [← hh, Bd.state]; rfl
  have N0 := Fr.nil n0
  have hlk := Bd.notSynchronized
  have hret := Bd.returns
  show OGo p e below (OEnd s (Q_sm3 Z r kr x y z h0 n0) ({ frames := 0, cells := 0, slots := 0, locals := 0 } : Room).cells ({ frames := 0, cells := 0, slots := 0, locals := 0 } : Room).slots) (s₁.setTop (entryFrame m #[(.ref r), (.int (3 : Int32)), (.int x), (.int y), (.int z)] 5))
  rw [ef_sm3]
  show OGo p e below _ (s₁.setTop (mkF m 0 #[.val (.ref r), .val (.int (3 : Int32)), .val (.int x), .val (.int y), .val (.int z)] []))
  refine OGo.by_ (fun t k => XS.aloadN X0.here hx rfl (hb hby d_sm3_0) rfl rfl k) ?_
  show OGo p e below _ (s₁.setTop (mkF m 1 #[.val (.ref r), .val (.int (3 : Int32)), .val (.int x), .val (.int y), .val (.int z)] [(.ref r)]))
  refine OGo.by_ (fun t k => XS.ifnullNo X0.here hx rfl (hb hby d_sm3_1) rfl k) ?_
  show OGo p e below _ (s₁.setTop (mkF m 4 #[.val (.ref r), .val (.int (3 : Int32)), .val (.int x), .val (.int y), .val (.int z)] []))
  refine OGo.by_ (fun t k => XS.aloadN X0.here hx rfl (hb hby d_sm3_4) rfl rfl k) ?_
  show OGo p e below _ (s₁.setTop (mkF m 5 #[.val (.ref r), .val (.int (3 : Int32)), .val (.int x), .val (.int y), .val (.int z)] [(.ref r)]))
  obtain ⟨cl1, Ar1, q1, S1, Nn1, H1, G1⟩ := id V1
  refine OGo.by_ (X0.arraylength hx (by rw [e0]; exact Ar1.1) (State.isArrayOf_alike hZ.alike Ar1.2.1) (g := (mkF m 5 #[.val (.ref r), .val (.int (3 : Int32)), .val (.int x), .val (.int y), .val (.int z)] [(.ref r)])) rfl rfl (hb hby d_sm3_5)) ?_
  rw [len_of S1 Nn1]
  show OGo p e below _ (s₁.setTop (mkF m 6 #[.val (.ref r), .val (.int (3 : Int32)), .val (.int x), .val (.int y), .val (.int z)] [(.int (3 : Int32))]))
  refine OGo.by_ (fun t k => XS.iloadN X0.here hx rfl (hb hby d_sm3_6) rfl k) ?_
  show OGo p e below _ (s₁.setTop (mkF m 7 #[.val (.ref r), .val (.int (3 : Int32)), .val (.int x), .val (.int y), .val (.int z)] [(.int (3 : Int32)), (.int (3 : Int32))]))
  refine OGo.by_ (fun t k => XS.icmpNo X0.here hx rfl (hb hby d_sm3_7) rfl (teq rfl).2 k) ?_
  show OGo p e below _ (s₁.setTop (mkF m 10 #[.val (.ref r), .val (.int (3 : Int32)), .val (.int x), .val (.int y), .val (.int z)] []))
  refine OGo.by_ (fun t k => XS.iloadN X0.here hx rfl (hb hby d_sm3_10) rfl k) ?_
  show OGo p e below _ (s₁.setTop (mkF m 11 #[.val (.ref r), .val (.int (3 : Int32)), .val (.int x), .val (.int y), .val (.int z)] [(.int (3 : Int32))]))
  refine OGo.by_ (fun t k => XS.iconst X0.here hx rfl (hb hby d_sm3_11) k) ?_
  show OGo p e below _ (s₁.setTop (mkF m 12 #[.val (.ref r), .val (.int (3 : Int32)), .val (.int x), .val (.int y), .val (.int z)] [(.int (1 : Int32)), (.int (3 : Int32))]))
  refine OGo.by_ (fun t k => XS.icmpNo X0.here hx rfl (hb hby d_sm3_12) rfl (flt (by decide)).1 k) ?_
  show OGo p e below _ (s₁.setTop (mkF m 15 #[.val (.ref r), .val (.int (3 : Int32)), .val (.int x), .val (.int y), .val (.int z)] []))
  refine OGo.by_ (fun t k => XS.aloadN X0.here hx rfl (hb hby d_sm3_15) rfl rfl k) ?_
  show OGo p e below _ (s₁.setTop (mkF m 16 #[.val (.ref r), .val (.int (3 : Int32)), .val (.int x), .val (.int y), .val (.int z)] [(.ref r)]))
  refine OGo.by_ (fun t k => XS.iconst X0.here hx rfl (hb hby d_sm3_16) k) ?_
  show OGo p e below _ (s₁.setTop (mkF m 17 #[.val (.ref r), .val (.int (3 : Int32)), .val (.int x), .val (.int y), .val (.int z)] [(.int (0 : Int32)), (.ref r)]))
  obtain ⟨cl2, Ar2, q2, S2, Nn2, H2, G2⟩ := id V1
  have in2 := inb_of S2 ⟨(by decide : ¬ (0 : Int32) < 0), (by decide : (0 : Int32) < (3 : Int32))⟩
  refine OGo.by_ (fun t kk => X0.iaload hx (j := (0 : Int32)) (v := (.int x)) (by rw [e0]; exact Ar2.1) (State.isArrayOf_alike hZ.alike Ar2.2.1) Ar2.2.2 in2 (H2.at in2 (rfl)) (g := (mkF m 17 #[.val (.ref r), .val (.int (3 : Int32)), .val (.int x), .val (.int y), .val (.int z)] [(.int (0 : Int32)), (.ref r)])) rfl rfl (hb hby d_sm3_17) _ kk) ?_
  show OGo p e below _ (s₁.setTop (mkF m 18 #[.val (.ref r), .val (.int (3 : Int32)), .val (.int x), .val (.int y), .val (.int z)] [(.int x)]))
  refine OGo.by_ (fun t k => XS.iloadN X0.here hx rfl (hb hby d_sm3_18) rfl k) ?_
  show OGo p e below _ (s₁.setTop (mkF m 19 #[.val (.ref r), .val (.int (3 : Int32)), .val (.int x), .val (.int y), .val (.int z)] [(.int x), (.int x)]))
  refine OGo.by_ (fun t k => XS.icmpNo X0.here hx rfl (hb hby d_sm3_19) rfl (teq rfl).2 k) ?_
  show OGo p e below _ (s₁.setTop (mkF m 22 #[.val (.ref r), .val (.int (3 : Int32)), .val (.int x), .val (.int y), .val (.int z)] []))
  refine OGo.by_ (fun t k => XS.iloadN X0.here hx rfl (hb hby d_sm3_22) rfl k) ?_
  show OGo p e below _ (s₁.setTop (mkF m 23 #[.val (.ref r), .val (.int (3 : Int32)), .val (.int x), .val (.int y), .val (.int z)] [(.int (3 : Int32))]))
  refine OGo.by_ (fun t k => XS.iconst X0.here hx rfl (hb hby d_sm3_23) k) ?_
  show OGo p e below _ (s₁.setTop (mkF m 24 #[.val (.ref r), .val (.int (3 : Int32)), .val (.int x), .val (.int y), .val (.int z)] [(.int (2 : Int32)), (.int (3 : Int32))]))
  refine OGo.by_ (fun t k => XS.icmpNo X0.here hx rfl (hb hby d_sm3_24) rfl (flt (by decide)).1 k) ?_
  show OGo p e below _ (s₁.setTop (mkF m 27 #[.val (.ref r), .val (.int (3 : Int32)), .val (.int x), .val (.int y), .val (.int z)] []))
  refine OGo.by_ (fun t k => XS.aloadN X0.here hx rfl (hb hby d_sm3_27) rfl rfl k) ?_
  show OGo p e below _ (s₁.setTop (mkF m 28 #[.val (.ref r), .val (.int (3 : Int32)), .val (.int x), .val (.int y), .val (.int z)] [(.ref r)]))
  refine OGo.by_ (fun t k => XS.iconst X0.here hx rfl (hb hby d_sm3_28) k) ?_
  show OGo p e below _ (s₁.setTop (mkF m 29 #[.val (.ref r), .val (.int (3 : Int32)), .val (.int x), .val (.int y), .val (.int z)] [(.int (1 : Int32)), (.ref r)]))
  obtain ⟨cl3, Ar3, q3, S3, Nn3, H3, G3⟩ := id V1
  have in3 := inb_of S3 ⟨(by decide : ¬ (1 : Int32) < 0), (by decide : (1 : Int32) < (3 : Int32))⟩
  refine OGo.by_ (fun t kk => X0.iaload hx (j := (1 : Int32)) (v := (.int y)) (by rw [e0]; exact Ar3.1) (State.isArrayOf_alike hZ.alike Ar3.2.1) Ar3.2.2 in3 (H3.at in3 (rfl)) (g := (mkF m 29 #[.val (.ref r), .val (.int (3 : Int32)), .val (.int x), .val (.int y), .val (.int z)] [(.int (1 : Int32)), (.ref r)])) rfl rfl (hb hby d_sm3_29) _ kk) ?_
  show OGo p e below _ (s₁.setTop (mkF m 30 #[.val (.ref r), .val (.int (3 : Int32)), .val (.int x), .val (.int y), .val (.int z)] [(.int y)]))
  refine OGo.by_ (fun t k => XS.iloadN X0.here hx rfl (hb hby d_sm3_30) rfl k) ?_
  show OGo p e below _ (s₁.setTop (mkF m 31 #[.val (.ref r), .val (.int (3 : Int32)), .val (.int x), .val (.int y), .val (.int z)] [(.int y), (.int y)]))
  refine OGo.by_ (fun t k => XS.icmpNo X0.here hx rfl (hb hby d_sm3_31) rfl (teq rfl).2 k) ?_
  show OGo p e below _ (s₁.setTop (mkF m 34 #[.val (.ref r), .val (.int (3 : Int32)), .val (.int x), .val (.int y), .val (.int z)] []))
  refine OGo.by_ (fun t k => XS.iloadN X0.here hx rfl (hb hby d_sm3_34) rfl k) ?_
  show OGo p e below _ (s₁.setTop (mkF m 35 #[.val (.ref r), .val (.int (3 : Int32)), .val (.int x), .val (.int y), .val (.int z)] [(.int (3 : Int32))]))
  refine OGo.by_ (fun t k => XS.iconst X0.here hx rfl (hb hby d_sm3_35) k) ?_
  show OGo p e below _ (s₁.setTop (mkF m 36 #[.val (.ref r), .val (.int (3 : Int32)), .val (.int x), .val (.int y), .val (.int z)] [(.int (3 : Int32)), (.int (3 : Int32))]))
  refine OGo.by_ (fun t k => XS.icmpNo X0.here hx rfl (hb hby d_sm3_36) rfl (flt (by decide)).1 k) ?_
  show OGo p e below _ (s₁.setTop (mkF m 39 #[.val (.ref r), .val (.int (3 : Int32)), .val (.int x), .val (.int y), .val (.int z)] []))
  refine OGo.by_ (fun t k => XS.aloadN X0.here hx rfl (hb hby d_sm3_39) rfl rfl k) ?_
  show OGo p e below _ (s₁.setTop (mkF m 40 #[.val (.ref r), .val (.int (3 : Int32)), .val (.int x), .val (.int y), .val (.int z)] [(.ref r)]))
  refine OGo.by_ (fun t k => XS.iconst X0.here hx rfl (hb hby d_sm3_40) k) ?_
  show OGo p e below _ (s₁.setTop (mkF m 41 #[.val (.ref r), .val (.int (3 : Int32)), .val (.int x), .val (.int y), .val (.int z)] [(.int (2 : Int32)), (.ref r)]))
  obtain ⟨cl4, Ar4, q4, S4, Nn4, H4, G4⟩ := id V1
  have in4 := inb_of S4 ⟨(by decide : ¬ (2 : Int32) < 0), (by decide : (2 : Int32) < (3 : Int32))⟩
  refine OGo.by_ (fun t kk => X0.iaload hx (j := (2 : Int32)) (v := (.int z)) (by rw [e0]; exact Ar4.1) (State.isArrayOf_alike hZ.alike Ar4.2.1) Ar4.2.2 in4 (H4.at in4 (rfl)) (g := (mkF m 41 #[.val (.ref r), .val (.int (3 : Int32)), .val (.int x), .val (.int y), .val (.int z)] [(.int (2 : Int32)), (.ref r)])) rfl rfl (hb hby d_sm3_41) _ kk) ?_
  show OGo p e below _ (s₁.setTop (mkF m 42 #[.val (.ref r), .val (.int (3 : Int32)), .val (.int x), .val (.int y), .val (.int z)] [(.int z)]))
  refine OGo.by_ (fun t k => XS.iload X0.here hx rfl (hb hby d_sm3_42) rfl k) ?_
  show OGo p e below _ (s₁.setTop (mkF m 44 #[.val (.ref r), .val (.int (3 : Int32)), .val (.int x), .val (.int y), .val (.int z)] [(.int z), (.int z)]))
  refine OGo.by_ (fun t k => XS.icmpNo X0.here hx rfl (hb hby d_sm3_44) rfl (teq rfl).2 k) ?_
  show OGo p e below _ (s₁.setTop (mkF m 47 #[.val (.ref r), .val (.int (3 : Int32)), .val (.int x), .val (.int y), .val (.int z)] []))
  refine OGo.by_ (fun t k => XS.iconst X0.here hx rfl (hb hby d_sm3_47) k) ?_
  show OGo p e below _ (s₁.setTop (mkF m 48 #[.val (.ref r), .val (.int (3 : Int32)), .val (.int x), .val (.int y), .val (.int z)] [(.int (1 : Int32))]))
  refine OGo.by_ (fun t k => XS.goto X0.here hx rfl (pc0 := 48) (pc' := 52) rfl (hb hby d_sm3_48) (by decide) (by decide) k) ?_
  show OGo p e below _ (s₁.setTop (mkF m 52 #[.val (.ref r), .val (.int (3 : Int32)), .val (.int x), .val (.int y), .val (.int z)] [(.int (1 : Int32))]))
  exact own_retN X0 hx hlk (t := .boolean) hret (by simp) (hb hby d_sm3_52) (by decide) (by decide) (⟨rfl, N0, e0⟩)
theorem pd_oIIIIcAI : parseMethodDescriptor "(IIII)[I" = some ⟨[.int, .int, .int, .int], some (.array .int)⟩ := by decide +kernel
theorem pd_oAIcV : parseMethodDescriptor "([I)V" = some ⟨[(.array .int)], none⟩ := by decide +kernel
theorem pd_ocAI : parseMethodDescriptor "()[I" = some ⟨[], some (.array .int)⟩ := by decide +kernel
theorem pd_oAIIIIIcZ : parseMethodDescriptor "([IIIII)Z" = some ⟨[(.array .int), .int, .int, .int, .int], some .boolean⟩ := by decide +kernel
set_option maxRecDepth 65536 in
set_option maxHeartbeats 40000000 in
theorem sg_n0 {p : Program} {l : Launch} {e : Env} {s : State} {m : MethodId} {args : Array Value} {below : List Frame} {meth : Method} {c : Code} {T0 : State} {locs : List Loc} {Z : State} {a0 : Array Value} {h0 : Heap} {n0 : Nat} {p1 p2 p3 p4 w5 x y z : Int32}
    (X0 : Stand p l e room_1 s m args below meth c T0 locs 0 0) (hx : p.tables.exec = Jvm.exec) (hZ : Z.Warmed39 s.vm) (hw : ∀ d ∈ tables_1, d.before a0 Z = true) (hby : c.code = code) (hml : c.maxLocals = 14) (hown : s.vm.findClass "com/example/fair_witness/fairwitness/model/StateValueIndicesPinLaw" = some m.cls) (hnm : meth.name = "law") (hlk : meth.locks = false) (hret : meth.sig.returnType = some .boolean) (e0 : T0.heap = h0) (N0 : Fr n0 locs) (Z0 : n0 ≤ h0.size)  :
    OGo p e below (OEnd s (fun v h L => v = some (.int 1) ∧ Fr n0 L) room_1.cells room_1.slots) (T0.setTop (mkF m 66 #[.val (.int p1), .val (.int p2), .val (.int p3), .val (.int p4), .val (.int (0 : Int32)), .val (.int w5), .val (.int x), .val (.int y), .val (.int z), .unset, .unset, .unset, .unset, .unset] [])) := by
  refine OGo.by_ (fun t k => XS.iload X0.here hx rfl (hb hby at_66) rfl k) ?_
  show OGo p e below _ (T0.setTop (mkF m 68 #[.val (.int p1), .val (.int p2), .val (.int p3), .val (.int p4), .val (.int (0 : Int32)), .val (.int w5), .val (.int x), .val (.int y), .val (.int z), .unset, .unset, .unset, .unset, .unset] [(.int (0 : Int32))]))
  refine OGo.by_ (fun t k => XS.iload X0.here hx rfl (hb hby at_68) rfl k) ?_
  show OGo p e below _ (T0.setTop (mkF m 70 #[.val (.int p1), .val (.int p2), .val (.int p3), .val (.int p4), .val (.int (0 : Int32)), .val (.int w5), .val (.int x), .val (.int y), .val (.int z), .unset, .unset, .unset, .unset, .unset] [(.int x), (.int (0 : Int32))]))
  refine OGo.by_ (fun t k => XS.iload X0.here hx rfl (hb hby at_70) rfl k) ?_
  show OGo p e below _ (T0.setTop (mkF m 72 #[.val (.int p1), .val (.int p2), .val (.int p3), .val (.int p4), .val (.int (0 : Int32)), .val (.int w5), .val (.int x), .val (.int y), .val (.int z), .unset, .unset, .unset, .unset, .unset] [(.int y), (.int x), (.int (0 : Int32))]))
  refine OGo.by_ (fun t k => XS.iload X0.here hx rfl (hb hby at_72) rfl k) ?_
  show OGo p e below _ (T0.setTop (mkF m 74 #[.val (.int p1), .val (.int p2), .val (.int p3), .val (.int p4), .val (.int (0 : Int32)), .val (.int w5), .val (.int x), .val (.int y), .val (.int z), .unset, .unset, .unset, .unset, .unset] [(.int z), (.int y), (.int x), (.int (0 : Int32))]))
  obtain ⟨_, _, ⟨T1, L1, k1, n1⟩, -, X1, ⟨Lc1, hQ1, l1, y1, z1⟩, st1⟩ := Jvm.LawKit.callS X0 hx (y := (⟨"com/example/fair_witness/fairwitness/model/StateValueIndicesPinLaw", "make", "(IIII)[I"⟩ : MethodName)) hown (mvT hZ (hw _ (List.mem_of_getElem? (i := 0) rfl))) (mvT hZ (hw _ (List.mem_of_getElem? (i := 1) rfl))) (mvT hZ (hw _ (List.mem_of_getElem? (i := 2) rfl))) (mvT hZ (hw _ (List.mem_of_getElem? (i := 3) rfl))) (by decide) (backOf (W := 0) (rm_mk0 l Z a0 hw [] x y z h0 n0 Z0) hZ (hw _ (List.mem_of_getElem? (i := 3) rfl)) (hw _ (List.mem_of_getElem? (i := 2) rfl)) (by decide) (by decide)) (g := (mkF m 74 #[.val (.int p1), .val (.int p2), .val (.int p3), .val (.int p4), .val (.int (0 : Int32)), .val (.int w5), .val (.int x), .val (.int y), .val (.int z), .unset, .unset, .unset, .unset, .unset] [(.int z), (.int y), (.int x), (.int (0 : Int32))])) rfl (by rw [hml]; rfl) (argsL := [(.int (0 : Int32)), (.int x), (.int y), (.int z)]) (rest := []) (lenOf pd_oIIIIcAI rfl) rfl (by show 2 * 0 + _ ≤ _; exact Nat.le_of_eq rfl) (hb hby at_74) (fun _ _ => ⟨rfl, e0, (by decide : 0 + 1 ≤ _), (by decide : 0 + 3 ≤ _)⟩)
  dsimp only [Pt.U, Pt.locs, Pt.cells, Pt.slots] at X1 l1 y1 z1 st1 hQ1
  subst l1 y1 z1
  obtain ⟨rfl, Nq1, K1, E1, kk1, V1⟩ := hQ1
  have N1 := Fr.app N0 Nq1
  refine OGo.by_ st1 ?_
  show OGo p e below _ (T1.setTop (mkF m 77 #[.val (.int p1), .val (.int p2), .val (.int p3), .val (.int p4), .val (.int (0 : Int32)), .val (.int w5), .val (.int x), .val (.int y), .val (.int z), .unset, .unset, .unset, .unset, .unset] [(.ref h0.size)]))
  obtain ⟨ai, g_ai⟩ : ∃ q, q = h0.size := ⟨_, rfl⟩
  rw [← g_ai] at E1 V1
  rw [← g_ai]
  show OGo p e below _ (T1.setTop (mkF m 77 #[.val (.int p1), .val (.int p2), .val (.int p3), .val (.int p4), .val (.int (0 : Int32)), .val (.int w5), .val (.int x), .val (.int y), .val (.int z), .unset, .unset, .unset, .unset, .unset] [(.ref ai)]))
  have Z1 : n0 ≤ T1.heap.size := Nat.le_trans Z0 K1.1
  have lai : T1.heap.size > ai := V1.lt
  refine OGo.by_ (fun t k => XS.astore X1.here hx rfl (hb hby at_77) rfl rfl (l' := #[.val (.int p1), .val (.int p2), .val (.int p3), .val (.int p4), .val (.int (0 : Int32)), .val (.int w5), .val (.int x), .val (.int y), .val (.int z), .val (.ref ai), .unset, .unset, .unset, .unset]) rfl k) ?_
  show OGo p e below _ (T1.setTop (mkF m 79 #[.val (.int p1), .val (.int p2), .val (.int p3), .val (.int p4), .val (.int (0 : Int32)), .val (.int w5), .val (.int x), .val (.int y), .val (.int z), .val (.ref ai), .unset, .unset, .unset, .unset] []))
  obtain ⟨T2, h2, X2, e2, E2, A2, Dv2, -, st2⟩ := newO X1 hx hZ hown (hw _ (List.mem_of_getElem? (i := 5) rfl)) (hw _ (List.mem_of_getElem? (i := 6) rfl)) (hw _ (List.mem_of_getElem? (i := 7) rfl)) rfl (g := (mkF m 79 #[.val (.int p1), .val (.int p2), .val (.int p3), .val (.int p4), .val (.int (0 : Int32)), .val (.int w5), .val (.int x), .val (.int y), .val (.int z), .val (.ref ai), .unset, .unset, .unset, .unset] [])) rfl (hb hby at_79) (by decide) (by decide)
  obtain ⟨o, g_o⟩ : ∃ z, z = T1.heap.size := ⟨_, rfl⟩
  rw [← g_o] at A2 Dv2 st2
  have A_o := A2
  have lt_o := own_lt A2.lt
  have F_smallIndices_o : Fld Z h2 o "com/example/fair_witness/fairwitness/model/State" "smallIndices" "[B" .null := Dv2 (Or.inr (hw _ (List.mem_of_getElem? (i := 16) rfl))) (ty := (.array .byte)) (by decide)
  have F_valueIndices_o : Fld Z h2 o "com/example/fair_witness/fairwitness/model/State" "valueIndices" "[I" .null := Dv2 (Or.inr (hw _ (List.mem_of_getElem? (i := 18) rfl))) (ty := (.array .int)) (by decide)
  refine OGo.by_ st2 ?_
  show OGo p e below _ (T2.setTop (mkF m 82 #[.val (.int p1), .val (.int p2), .val (.int p3), .val (.int p4), .val (.int (0 : Int32)), .val (.int w5), .val (.int x), .val (.int y), .val (.int z), .val (.ref ai), .unset, .unset, .unset, .unset] [(.ref o)]))
  have Z2 : n0 ≤ h2.size := Nat.le_trans Z1 E2.1
  have go : n0 ≤ o := by omega
  have hio : ai ≠ o := own_ne (by omega)
  have gai : n0 ≤ ai := by omega
  refine OGo.by_ (fun t k => XS.dup X2.here hx rfl (hb hby at_82) rfl rfl k) ?_
  show OGo p e below _ (T2.setTop (mkF m 83 #[.val (.int p1), .val (.int p2), .val (.int p3), .val (.int p4), .val (.int (0 : Int32)), .val (.int w5), .val (.int x), .val (.int y), .val (.int z), .val (.ref ai), .unset, .unset, .unset, .unset] [(.ref o), (.ref o)]))
  refine OGo.by_ (fun t k => XS.aload X2.here hx rfl (hb hby at_83) rfl rfl k) ?_
  show OGo p e below _ (T2.setTop (mkF m 85 #[.val (.int p1), .val (.int p2), .val (.int p3), .val (.int p4), .val (.int (0 : Int32)), .val (.int w5), .val (.int x), .val (.int y), .val (.int z), .val (.ref ai), .unset, .unset, .unset, .unset] [(.ref ai), (.ref o), (.ref o)]))
  obtain ⟨_, _, ⟨T3, L3, k3, n3⟩, -, X3, ⟨Lc3, hQ3, l3, y3, z3⟩, st3⟩ := X2.specialBack hx (y := (⟨"com/example/fair_witness/fairwitness/model/State", "<init>", "([I)V"⟩ : MethodName)) rfl hown (mvT hZ (hw _ (List.mem_of_getElem? (i := 8) rfl))) (mvT hZ (hw _ (List.mem_of_getElem? (i := 9) rfl))) (mvT hZ (hw _ (List.mem_of_getElem? (i := 10) rfl))) (by decide) (backOf (W := 1) (rm_ini0 l Z a0 hw [] o ai kk1 x y z h2 n0 Z2 go A_o F_smallIndices_o F_valueIndices_o (E1.ext E2) (V1.ext E2) hio) hZ (hw _ (List.mem_of_getElem? (i := 10) rfl)) (hw _ (List.mem_of_getElem? (i := 7) rfl)) (by decide) (by decide)) (g := (mkF m 85 #[.val (.int p1), .val (.int p2), .val (.int p3), .val (.int p4), .val (.int (0 : Int32)), .val (.int w5), .val (.int x), .val (.int y), .val (.int z), .val (.ref ai), .unset, .unset, .unset, .unset] [(.ref ai), (.ref o), (.ref o)])) rfl (by rw [hml]; rfl) (Steps.refl _) (a := o) (argsL := [(.ref ai)]) (rest := [(.ref o)]) (lenOf pd_oAIcV rfl) rfl (by show 2 * 0 + _ ≤ _; exact Nat.le_of_eq rfl) (hb hby at_85) (fun _ _ => ⟨rfl, e2, (by decide : 2 + 1 ≤ _), (by decide : 5 + 3 ≤ _)⟩)
  dsimp only [Pt.U, Pt.locs, Pt.cells, Pt.slots] at X3 l3 y3 z3 st3 hQ3
  subst l3 y3 z3
  obtain ⟨rfl, Nq3, K3, b, gb, ST3⟩ := hQ3
  have N3 := Fr.app N1 Nq3
  refine OGo.by_ (fun t k => st3.trans k) ?_
  show OGo p e below _ (T3.setTop (mkF m 88 #[.val (.int p1), .val (.int p2), .val (.int p3), .val (.int p4), .val (.int (0 : Int32)), .val (.int w5), .val (.int x), .val (.int y), .val (.int z), .val (.ref ai), .unset, .unset, .unset, .unset] [(.ref o)]))
  have Z3 : n0 ≤ T3.heap.size := Nat.le_trans Z2 K3.1
  have lst := own_ST_lt ST3
  have Vi := (V1.ext E2).keep K3 (own_nin1 hio)
  have hE2 := E2.1
  have lai2 : h2.size > ai := (V1.ext E2).lt
  refine OGo.by_ (fun t k => XS.astore X3.here hx rfl (hb hby at_88) rfl rfl (l' := #[.val (.int p1), .val (.int p2), .val (.int p3), .val (.int p4), .val (.int (0 : Int32)), .val (.int w5), .val (.int x), .val (.int y), .val (.int z), .val (.ref ai), .val (.ref o), .unset, .unset, .unset]) rfl k) ?_
  show OGo p e below _ (T3.setTop (mkF m 90 #[.val (.int p1), .val (.int p2), .val (.int p3), .val (.int p4), .val (.int (0 : Int32)), .val (.int w5), .val (.int x), .val (.int y), .val (.int z), .val (.ref ai), .val (.ref o), .unset, .unset, .unset] []))
  refine OGo.by_ (fun t k => XS.iload X3.here hx rfl (hb hby at_90) rfl k) ?_
  show OGo p e below _ (T3.setTop (mkF m 92 #[.val (.int p1), .val (.int p2), .val (.int p3), .val (.int p4), .val (.int (0 : Int32)), .val (.int w5), .val (.int x), .val (.int y), .val (.int z), .val (.ref ai), .val (.ref o), .unset, .unset, .unset] [(.int (0 : Int32))]))
  refine OGo.by_ (fun t k => XS.ifYes X3.here hx rfl (pc0 := 92) (pc' := 105) rfl (hb hby at_92) rfl ((if0 _ _).trans (flt (by decide)).2.2.2) (by decide) (by decide) k) ?_
  show OGo p e below _ (T3.setTop (mkF m 105 #[.val (.int p1), .val (.int p2), .val (.int p3), .val (.int p4), .val (.int (0 : Int32)), .val (.int w5), .val (.int x), .val (.int y), .val (.int z), .val (.ref ai), .val (.ref o), .unset, .unset, .unset] []))
  have Z4 := Z3
  have STb := ST3
  have lstb := lst
  refine OGo.by_ (fun t k => XS.aload X3.here hx rfl (hb hby at_105) rfl rfl k) ?_
  show OGo p e below _ (T3.setTop (mkF m 107 #[.val (.int p1), .val (.int p2), .val (.int p3), .val (.int p4), .val (.int (0 : Int32)), .val (.int w5), .val (.int x), .val (.int y), .val (.int z), .val (.ref ai), .val (.ref o), .unset, .unset, .unset] [(.ref o)]))
  obtain ⟨cq5, kq5, qa5, qb5, qc5⟩ := isOf hZ rfl STb.1
  obtain ⟨_, _, ⟨T4, L4, k4, n4⟩, -, X4, ⟨Lc4, hQ4, l4, y4, z4⟩, st4⟩ := X3.virtualBack hx (y := (⟨"com/example/fair_witness/fairwitness/model/State", "valueIndices", "()[I"⟩ : MethodName)) (z := (⟨"com/example/fair_witness/fairwitness/model/State", "valueIndices", "()[I"⟩ : MethodName)) hown (mvT hZ (hw _ (List.mem_of_getElem? (i := 19) rfl))) (mvT hZ (hw _ (List.mem_of_getElem? (i := 20) rfl))) (notFace_of_selects (args := #[]) (mvT hZ (hw _ (List.mem_of_getElem? (i := 22) rfl)))) (mvT hZ (hw _ (List.mem_of_getElem? (i := 22) rfl))) (mvT hZ (hw _ (List.mem_of_getElem? (i := 21) rfl))) (by decide) (backOf (W := 0) (rm_vi0 l Z a0 hw [] o b x y z T3.heap n0 Z4 STb) hZ (hw _ (List.mem_of_getElem? (i := 23) rfl)) (hw _ (List.mem_of_getElem? (i := 7) rfl)) (by decide) (by decide)) qa5 qc5 (g := (mkF m 107 #[.val (.int p1), .val (.int p2), .val (.int p3), .val (.int p4), .val (.int (0 : Int32)), .val (.int w5), .val (.int x), .val (.int y), .val (.int z), .val (.ref ai), .val (.ref o), .unset, .unset, .unset] [(.ref o)])) rfl (by rw [hml]; rfl) (Steps.refl _) (argsL := []) (rest := []) (lenOf pd_ocAI rfl) rfl (by show 2 * 0 + _ ≤ _; exact Nat.le_of_eq rfl) (hb hby at_107) (fun _ _ => ⟨rfl, rfl, (by decide : 3 + 1 ≤ _), (by decide : 8 + 3 ≤ _)⟩)
  dsimp only [Pt.U, Pt.locs, Pt.cells, Pt.slots] at X4 l4 y4 z4 st4 hQ4
  subst l4 y4 z4
  obtain ⟨rfl, Nq4, K4, kk4, V4⟩ := hQ4
  have N4 := Fr.app N3 Nq4
  refine OGo.by_ (fun t k => st4.trans k) ?_
  show OGo p e below _ (T4.setTop (mkF m 110 #[.val (.int p1), .val (.int p2), .val (.int p3), .val (.int p4), .val (.int (0 : Int32)), .val (.int w5), .val (.int x), .val (.int y), .val (.int z), .val (.ref ai), .val (.ref o), .unset, .unset, .unset] [(.ref T3.heap.size)]))
  obtain ⟨r1, g_r1⟩ : ∃ q, q = T3.heap.size := ⟨_, rfl⟩
  rw [← g_r1] at V4
  rw [← g_r1]
  show OGo p e below _ (T4.setTop (mkF m 110 #[.val (.int p1), .val (.int p2), .val (.int p3), .val (.int p4), .val (.int (0 : Int32)), .val (.int w5), .val (.int x), .val (.int y), .val (.int z), .val (.ref ai), .val (.ref o), .unset, .unset, .unset] [(.ref r1)]))
  have Z5 : n0 ≤ T4.heap.size := Nat.le_trans Z4 K4.1
  have ST5 := own_ST_keep STb K4 nin0 nin0
  have gr1 : n0 ≤ r1 := by omega
  refine OGo.by_ (fun t k => XS.astore X4.here hx rfl (hb hby at_110) rfl rfl (l' := #[.val (.int p1), .val (.int p2), .val (.int p3), .val (.int p4), .val (.int (0 : Int32)), .val (.int w5), .val (.int x), .val (.int y), .val (.int z), .val (.ref ai), .val (.ref o), .val (.ref r1), .unset, .unset]) rfl k) ?_
  show OGo p e below _ (T4.setTop (mkF m 112 #[.val (.int p1), .val (.int p2), .val (.int p3), .val (.int p4), .val (.int (0 : Int32)), .val (.int w5), .val (.int x), .val (.int y), .val (.int z), .val (.ref ai), .val (.ref o), .val (.ref r1), .unset, .unset] []))
  refine OGo.by_ (fun t k => XS.aload X4.here hx rfl (hb hby at_112) rfl rfl k) ?_
  show OGo p e below _ (T4.setTop (mkF m 114 #[.val (.int p1), .val (.int p2), .val (.int p3), .val (.int p4), .val (.int (0 : Int32)), .val (.int w5), .val (.int x), .val (.int y), .val (.int z), .val (.ref ai), .val (.ref o), .val (.ref r1), .unset, .unset] [(.ref r1)]))
  refine OGo.by_ (fun t k => XS.iload X4.here hx rfl (hb hby at_114) rfl k) ?_
  show OGo p e below _ (T4.setTop (mkF m 116 #[.val (.int p1), .val (.int p2), .val (.int p3), .val (.int p4), .val (.int (0 : Int32)), .val (.int w5), .val (.int x), .val (.int y), .val (.int z), .val (.ref ai), .val (.ref o), .val (.ref r1), .unset, .unset] [(.int (0 : Int32)), (.ref r1)]))
  refine OGo.by_ (fun t k => XS.iload X4.here hx rfl (hb hby at_116) rfl k) ?_
  show OGo p e below _ (T4.setTop (mkF m 118 #[.val (.int p1), .val (.int p2), .val (.int p3), .val (.int p4), .val (.int (0 : Int32)), .val (.int w5), .val (.int x), .val (.int y), .val (.int z), .val (.ref ai), .val (.ref o), .val (.ref r1), .unset, .unset] [(.int x), (.int (0 : Int32)), (.ref r1)]))
  refine OGo.by_ (fun t k => XS.iload X4.here hx rfl (hb hby at_118) rfl k) ?_
  show OGo p e below _ (T4.setTop (mkF m 120 #[.val (.int p1), .val (.int p2), .val (.int p3), .val (.int p4), .val (.int (0 : Int32)), .val (.int w5), .val (.int x), .val (.int y), .val (.int z), .val (.ref ai), .val (.ref o), .val (.ref r1), .unset, .unset] [(.int y), (.int x), (.int (0 : Int32)), (.ref r1)]))
  refine OGo.by_ (fun t k => XS.iload X4.here hx rfl (hb hby at_120) rfl k) ?_
  show OGo p e below _ (T4.setTop (mkF m 122 #[.val (.int p1), .val (.int p2), .val (.int p3), .val (.int p4), .val (.int (0 : Int32)), .val (.int w5), .val (.int x), .val (.int y), .val (.int z), .val (.ref ai), .val (.ref o), .val (.ref r1), .unset, .unset] [(.int z), (.int y), (.int x), (.int (0 : Int32)), (.ref r1)]))
  obtain ⟨_, _, ⟨T6, L6, k6, n6⟩, -, X6, ⟨Lc6, hQ6, l6, y6, z6⟩, st6⟩ := Jvm.LawKit.callS X4 hx (y := (⟨"com/example/fair_witness/fairwitness/model/StateValueIndicesPinLaw", "same", "([IIIII)Z"⟩ : MethodName)) hown (mvT hZ (hw _ (List.mem_of_getElem? (i := 24) rfl))) (mvT hZ (hw _ (List.mem_of_getElem? (i := 25) rfl))) (mvT hZ (hw _ (List.mem_of_getElem? (i := 2) rfl))) (mvT hZ (hw _ (List.mem_of_getElem? (i := 26) rfl))) (by decide) (backOf (W := 0) (rm_sm0 l Z a0 hw [] r1 kk4 x y z T4.heap n0 Z5 V4) hZ (hw _ (List.mem_of_getElem? (i := 26) rfl)) (hw _ (List.mem_of_getElem? (i := 2) rfl)) (by decide) (by decide)) (g := (mkF m 122 #[.val (.int p1), .val (.int p2), .val (.int p3), .val (.int p4), .val (.int (0 : Int32)), .val (.int w5), .val (.int x), .val (.int y), .val (.int z), .val (.ref ai), .val (.ref o), .val (.ref r1), .unset, .unset] [(.int z), (.int y), (.int x), (.int (0 : Int32)), (.ref r1)])) rfl (by rw [hml]; rfl) (argsL := [(.ref r1), (.int (0 : Int32)), (.int x), (.int y), (.int z)]) (rest := []) (lenOf pd_oAIIIIIcZ rfl) rfl (by show 2 * 0 + _ ≤ _; exact Nat.le_of_eq rfl) (hb hby at_122) (fun _ _ => ⟨rfl, rfl, (by decide : 4 + 0 ≤ _), (by decide : 11 + 0 ≤ _)⟩)
  dsimp only [Pt.U, Pt.locs, Pt.cells, Pt.slots] at X6 l6 y6 z6 st6 hQ6
  subst l6 y6 z6
  obtain ⟨rfl, Nq6, eq6⟩ := hQ6
  have N6 := Fr.app N4 Nq6
  refine OGo.by_ st6 ?_
  show OGo p e below _ (T6.setTop (mkF m 125 #[.val (.int p1), .val (.int p2), .val (.int p3), .val (.int p4), .val (.int (0 : Int32)), .val (.int w5), .val (.int x), .val (.int y), .val (.int z), .val (.ref ai), .val (.ref o), .val (.ref r1), .unset, .unset] [(.int (1 : Int32))]))
  refine OGo.by_ (fun t k => XS.istore X6.here hx rfl (hb hby at_125) rfl (l' := #[.val (.int p1), .val (.int p2), .val (.int p3), .val (.int p4), .val (.int (0 : Int32)), .val (.int w5), .val (.int x), .val (.int y), .val (.int z), .val (.ref ai), .val (.ref o), .val (.ref r1), .val (.int (1 : Int32)), .unset]) rfl k) ?_
  show OGo p e below _ (T6.setTop (mkF m 127 #[.val (.int p1), .val (.int p2), .val (.int p3), .val (.int p4), .val (.int (0 : Int32)), .val (.int w5), .val (.int x), .val (.int y), .val (.int z), .val (.ref ai), .val (.ref o), .val (.ref r1), .val (.int (1 : Int32)), .unset] []))
  refine OGo.by_ (fun t k => XS.iload X6.here hx rfl (hb hby at_127) rfl k) ?_
  show OGo p e below _ (T6.setTop (mkF m 129 #[.val (.int p1), .val (.int p2), .val (.int p3), .val (.int p4), .val (.int (0 : Int32)), .val (.int w5), .val (.int x), .val (.int y), .val (.int z), .val (.ref ai), .val (.ref o), .val (.ref r1), .val (.int (1 : Int32)), .unset] [(.int (0 : Int32))]))
  refine OGo.by_ (fun t k => XS.ifYes X6.here hx rfl (pc0 := 129) (pc' := 142) rfl (hb hby at_129) rfl ((if0 _ _).trans (flt (by decide)).2.2.2) (by decide) (by decide) k) ?_
  show OGo p e below _ (T6.setTop (mkF m 142 #[.val (.int p1), .val (.int p2), .val (.int p3), .val (.int p4), .val (.int (0 : Int32)), .val (.int w5), .val (.int x), .val (.int y), .val (.int z), .val (.ref ai), .val (.ref o), .val (.ref r1), .val (.int (1 : Int32)), .unset] []))
  have Z6 := Z5
  have ST6 := ST5
  refine OGo.by_ (fun t k => XS.aload X6.here hx rfl (hb hby at_142) rfl rfl k) ?_
  show OGo p e below _ (T6.setTop (mkF m 144 #[.val (.int p1), .val (.int p2), .val (.int p3), .val (.int p4), .val (.int (0 : Int32)), .val (.int w5), .val (.int x), .val (.int y), .val (.int z), .val (.ref ai), .val (.ref o), .val (.ref r1), .val (.int (1 : Int32)), .unset] [(.ref o)]))
  obtain ⟨cq8, kq8, qa8, qb8, qc8⟩ := isOf hZ eq6 ST6.1
  obtain ⟨_, _, ⟨T7, L7, k7, n7⟩, -, X7, ⟨Lc7, hQ7, l7, y7, z7⟩, st7⟩ := X6.virtualBack hx (y := (⟨"com/example/fair_witness/fairwitness/model/State", "valueIndices", "()[I"⟩ : MethodName)) (z := (⟨"com/example/fair_witness/fairwitness/model/State", "valueIndices", "()[I"⟩ : MethodName)) hown (mvT hZ (hw _ (List.mem_of_getElem? (i := 19) rfl))) (mvT hZ (hw _ (List.mem_of_getElem? (i := 20) rfl))) (notFace_of_selects (args := #[]) (mvT hZ (hw _ (List.mem_of_getElem? (i := 22) rfl)))) (mvT hZ (hw _ (List.mem_of_getElem? (i := 22) rfl))) (mvT hZ (hw _ (List.mem_of_getElem? (i := 21) rfl))) (by decide) (backOf (W := 0) (rm_vi0 l Z a0 hw [] o b x y z T4.heap n0 Z6 ST6) hZ (hw _ (List.mem_of_getElem? (i := 23) rfl)) (hw _ (List.mem_of_getElem? (i := 7) rfl)) (by decide) (by decide)) qa8 qc8 (g := (mkF m 144 #[.val (.int p1), .val (.int p2), .val (.int p3), .val (.int p4), .val (.int (0 : Int32)), .val (.int w5), .val (.int x), .val (.int y), .val (.int z), .val (.ref ai), .val (.ref o), .val (.ref r1), .val (.int (1 : Int32)), .unset] [(.ref o)])) rfl (by rw [hml]; rfl) (Steps.refl _) (argsL := []) (rest := []) (lenOf pd_ocAI rfl) rfl (by show 2 * 0 + _ ≤ _; exact Nat.le_of_eq rfl) (hb hby at_144) (fun _ _ => ⟨rfl, eq6, (by decide : 4 + 1 ≤ _), (by decide : 11 + 3 ≤ _)⟩)
  dsimp only [Pt.U, Pt.locs, Pt.cells, Pt.slots] at X7 l7 y7 z7 st7 hQ7
  subst l7 y7 z7
  obtain ⟨rfl, Nq7, K7, kk7, V7⟩ := hQ7
  have N7 := Fr.app N6 Nq7
  refine OGo.by_ (fun t k => st7.trans k) ?_
  show OGo p e below _ (T7.setTop (mkF m 147 #[.val (.int p1), .val (.int p2), .val (.int p3), .val (.int p4), .val (.int (0 : Int32)), .val (.int w5), .val (.int x), .val (.int y), .val (.int z), .val (.ref ai), .val (.ref o), .val (.ref r1), .val (.int (1 : Int32)), .unset] [(.ref T4.heap.size)]))
  refine OGo.by_ (fun t k => XS.astore X7.here hx rfl (hb hby at_147) rfl rfl (l' := #[.val (.int p1), .val (.int p2), .val (.int p3), .val (.int p4), .val (.int (0 : Int32)), .val (.int w5), .val (.int x), .val (.int y), .val (.int z), .val (.ref ai), .val (.ref o), .val (.ref r1), .val (.int (1 : Int32)), .val (.ref T4.heap.size)]) rfl k) ?_
  show OGo p e below _ (T7.setTop (mkF m 149 #[.val (.int p1), .val (.int p2), .val (.int p3), .val (.int p4), .val (.int (0 : Int32)), .val (.int w5), .val (.int x), .val (.int y), .val (.int z), .val (.ref ai), .val (.ref o), .val (.ref r1), .val (.int (1 : Int32)), .val (.ref T4.heap.size)] []))
  refine OGo.by_ (fun t k => XS.iload X7.here hx rfl (hb hby at_149) rfl k) ?_
  show OGo p e below _ (T7.setTop (mkF m 151 #[.val (.int p1), .val (.int p2), .val (.int p3), .val (.int p4), .val (.int (0 : Int32)), .val (.int w5), .val (.int x), .val (.int y), .val (.int z), .val (.ref ai), .val (.ref o), .val (.ref r1), .val (.int (1 : Int32)), .val (.ref T4.heap.size)] [(.int (1 : Int32))]))
  refine OGo.by_ (fun t k => XS.ifNo X7.here hx rfl (hb hby at_151) rfl ((if0 _ _).trans (feq (by decide)).1) k) ?_
  show OGo p e below _ (T7.setTop (mkF m 154 #[.val (.int p1), .val (.int p2), .val (.int p3), .val (.int p4), .val (.int (0 : Int32)), .val (.int w5), .val (.int x), .val (.int y), .val (.int z), .val (.ref ai), .val (.ref o), .val (.ref r1), .val (.int (1 : Int32)), .val (.ref T4.heap.size)] []))
  have Z7 : n0 ≤ T7.heap.size := Nat.le_trans Z6 K7.1
  refine OGo.by_ (fun t k => XS.aload X7.here hx rfl (hb hby at_154) rfl rfl k) ?_
  show OGo p e below _ (T7.setTop (mkF m 156 #[.val (.int p1), .val (.int p2), .val (.int p3), .val (.int p4), .val (.int (0 : Int32)), .val (.int w5), .val (.int x), .val (.int y), .val (.int z), .val (.ref ai), .val (.ref o), .val (.ref r1), .val (.int (1 : Int32)), .val (.ref T4.heap.size)] [(.ref T4.heap.size)]))
  refine OGo.by_ (fun t k => XS.iload X7.here hx rfl (hb hby at_156) rfl k) ?_
  show OGo p e below _ (T7.setTop (mkF m 158 #[.val (.int p1), .val (.int p2), .val (.int p3), .val (.int p4), .val (.int (0 : Int32)), .val (.int w5), .val (.int x), .val (.int y), .val (.int z), .val (.ref ai), .val (.ref o), .val (.ref r1), .val (.int (1 : Int32)), .val (.ref T4.heap.size)] [(.int (0 : Int32)), (.ref T4.heap.size)]))
  refine OGo.by_ (fun t k => XS.iload X7.here hx rfl (hb hby at_158) rfl k) ?_
  show OGo p e below _ (T7.setTop (mkF m 160 #[.val (.int p1), .val (.int p2), .val (.int p3), .val (.int p4), .val (.int (0 : Int32)), .val (.int w5), .val (.int x), .val (.int y), .val (.int z), .val (.ref ai), .val (.ref o), .val (.ref r1), .val (.int (1 : Int32)), .val (.ref T4.heap.size)] [(.int x), (.int (0 : Int32)), (.ref T4.heap.size)]))
  refine OGo.by_ (fun t k => XS.iload X7.here hx rfl (hb hby at_160) rfl k) ?_
  show OGo p e below _ (T7.setTop (mkF m 162 #[.val (.int p1), .val (.int p2), .val (.int p3), .val (.int p4), .val (.int (0 : Int32)), .val (.int w5), .val (.int x), .val (.int y), .val (.int z), .val (.ref ai), .val (.ref o), .val (.ref r1), .val (.int (1 : Int32)), .val (.ref T4.heap.size)] [(.int y), (.int x), (.int (0 : Int32)), (.ref T4.heap.size)]))
  refine OGo.by_ (fun t k => XS.iload X7.here hx rfl (hb hby at_162) rfl k) ?_
  show OGo p e below _ (T7.setTop (mkF m 164 #[.val (.int p1), .val (.int p2), .val (.int p3), .val (.int p4), .val (.int (0 : Int32)), .val (.int w5), .val (.int x), .val (.int y), .val (.int z), .val (.ref ai), .val (.ref o), .val (.ref r1), .val (.int (1 : Int32)), .val (.ref T4.heap.size)] [(.int z), (.int y), (.int x), (.int (0 : Int32)), (.ref T4.heap.size)]))
  obtain ⟨_, _, ⟨T9, L9, k9, n9⟩, -, X9, ⟨Lc9, hQ9, l9, y9, z9⟩, st9⟩ := Jvm.LawKit.callS X7 hx (y := (⟨"com/example/fair_witness/fairwitness/model/StateValueIndicesPinLaw", "same", "([IIIII)Z"⟩ : MethodName)) hown (mvT hZ (hw _ (List.mem_of_getElem? (i := 24) rfl))) (mvT hZ (hw _ (List.mem_of_getElem? (i := 25) rfl))) (mvT hZ (hw _ (List.mem_of_getElem? (i := 2) rfl))) (mvT hZ (hw _ (List.mem_of_getElem? (i := 26) rfl))) (by decide) (backOf (W := 0) (rm_sm0 l Z a0 hw [] T4.heap.size kk7 x y z T7.heap n0 Z7 V7) hZ (hw _ (List.mem_of_getElem? (i := 26) rfl)) (hw _ (List.mem_of_getElem? (i := 2) rfl)) (by decide) (by decide)) (g := (mkF m 164 #[.val (.int p1), .val (.int p2), .val (.int p3), .val (.int p4), .val (.int (0 : Int32)), .val (.int w5), .val (.int x), .val (.int y), .val (.int z), .val (.ref ai), .val (.ref o), .val (.ref r1), .val (.int (1 : Int32)), .val (.ref T4.heap.size)] [(.int z), (.int y), (.int x), (.int (0 : Int32)), (.ref T4.heap.size)])) rfl (by rw [hml]; rfl) (argsL := [(.ref T4.heap.size), (.int (0 : Int32)), (.int x), (.int y), (.int z)]) (rest := []) (lenOf pd_oAIIIIIcZ rfl) rfl (by show 2 * 0 + _ ≤ _; exact Nat.le_of_eq rfl) (hb hby at_164) (fun _ _ => ⟨rfl, rfl, (by decide : 5 + 0 ≤ _), (by decide : 14 + 0 ≤ _)⟩)
  dsimp only [Pt.U, Pt.locs, Pt.cells, Pt.slots] at X9 l9 y9 z9 st9 hQ9
  subst l9 y9 z9
  obtain ⟨rfl, Nq9, eq9⟩ := hQ9
  have N9 := Fr.app N7 Nq9
  refine OGo.by_ st9 ?_
  show OGo p e below _ (T9.setTop (mkF m 167 #[.val (.int p1), .val (.int p2), .val (.int p3), .val (.int p4), .val (.int (0 : Int32)), .val (.int w5), .val (.int x), .val (.int y), .val (.int z), .val (.ref ai), .val (.ref o), .val (.ref r1), .val (.int (1 : Int32)), .val (.ref T4.heap.size)] [(.int (1 : Int32))]))
  refine OGo.by_ (fun t k => XS.ifNo X9.here hx rfl (hb hby at_167) rfl ((if0 _ _).trans (feq (by decide)).1) k) ?_
  show OGo p e below _ (T9.setTop (mkF m 170 #[.val (.int p1), .val (.int p2), .val (.int p3), .val (.int p4), .val (.int (0 : Int32)), .val (.int w5), .val (.int x), .val (.int y), .val (.int z), .val (.ref ai), .val (.ref o), .val (.ref r1), .val (.int (1 : Int32)), .val (.ref T4.heap.size)] []))
  refine OGo.by_ (fun t k => XS.iconst X9.here hx rfl (hb hby at_170) k) ?_
  show OGo p e below _ (T9.setTop (mkF m 171 #[.val (.int p1), .val (.int p2), .val (.int p3), .val (.int p4), .val (.int (0 : Int32)), .val (.int w5), .val (.int x), .val (.int y), .val (.int z), .val (.ref ai), .val (.ref o), .val (.ref r1), .val (.int (1 : Int32)), .val (.ref T4.heap.size)] [(.int (1 : Int32))]))
  refine OGo.by_ (fun t k => XS.goto X9.here hx rfl (pc0 := 171) (pc' := 175) rfl (hb hby at_171) (by decide) (by decide) k) ?_
  show OGo p e below _ (T9.setTop (mkF m 175 #[.val (.int p1), .val (.int p2), .val (.int p3), .val (.int p4), .val (.int (0 : Int32)), .val (.int w5), .val (.int x), .val (.int y), .val (.int z), .val (.ref ai), .val (.ref o), .val (.ref r1), .val (.int (1 : Int32)), .val (.ref T4.heap.size)] [(.int (1 : Int32))]))
  exact own_retN X9 hx hlk (t := .boolean) hret (by simp) (hb hby at_175) (by decide) (by decide) (⟨rfl, N9⟩)
set_option maxRecDepth 65536 in
set_option maxHeartbeats 40000000 in
theorem sg_n1 {p : Program} {l : Launch} {e : Env} {s : State} {m : MethodId} {args : Array Value} {below : List Frame} {meth : Method} {c : Code} {T0 : State} {locs : List Loc} {Z : State} {a0 : Array Value} {h0 : Heap} {n0 : Nat} {p1 p2 p3 p4 w5 x y z : Int32}
    (X0 : Stand p l e room_1 s m args below meth c T0 locs 0 0) (hx : p.tables.exec = Jvm.exec) (hZ : Z.Warmed39 s.vm) (hw : ∀ d ∈ tables_1, d.before a0 Z = true) (hby : c.code = code) (hml : c.maxLocals = 14) (hown : s.vm.findClass "com/example/fair_witness/fairwitness/model/StateValueIndicesPinLaw" = some m.cls) (hnm : meth.name = "law") (hlk : meth.locks = false) (hret : meth.sig.returnType = some .boolean) (e0 : T0.heap = h0) (N0 : Fr n0 locs) (Z0 : n0 ≤ h0.size)  :
    OGo p e below (OEnd s (fun v h L => v = some (.int 1) ∧ Fr n0 L) room_1.cells room_1.slots) (T0.setTop (mkF m 66 #[.val (.int p1), .val (.int p2), .val (.int p3), .val (.int p4), .val (.int (1 : Int32)), .val (.int w5), .val (.int x), .val (.int y), .val (.int z), .unset, .unset, .unset, .unset, .unset] [])) := by
  refine OGo.by_ (fun t k => XS.iload X0.here hx rfl (hb hby at_66) rfl k) ?_
  show OGo p e below _ (T0.setTop (mkF m 68 #[.val (.int p1), .val (.int p2), .val (.int p3), .val (.int p4), .val (.int (1 : Int32)), .val (.int w5), .val (.int x), .val (.int y), .val (.int z), .unset, .unset, .unset, .unset, .unset] [(.int (1 : Int32))]))
  refine OGo.by_ (fun t k => XS.iload X0.here hx rfl (hb hby at_68) rfl k) ?_
  show OGo p e below _ (T0.setTop (mkF m 70 #[.val (.int p1), .val (.int p2), .val (.int p3), .val (.int p4), .val (.int (1 : Int32)), .val (.int w5), .val (.int x), .val (.int y), .val (.int z), .unset, .unset, .unset, .unset, .unset] [(.int x), (.int (1 : Int32))]))
  refine OGo.by_ (fun t k => XS.iload X0.here hx rfl (hb hby at_70) rfl k) ?_
  show OGo p e below _ (T0.setTop (mkF m 72 #[.val (.int p1), .val (.int p2), .val (.int p3), .val (.int p4), .val (.int (1 : Int32)), .val (.int w5), .val (.int x), .val (.int y), .val (.int z), .unset, .unset, .unset, .unset, .unset] [(.int y), (.int x), (.int (1 : Int32))]))
  refine OGo.by_ (fun t k => XS.iload X0.here hx rfl (hb hby at_72) rfl k) ?_
  show OGo p e below _ (T0.setTop (mkF m 74 #[.val (.int p1), .val (.int p2), .val (.int p3), .val (.int p4), .val (.int (1 : Int32)), .val (.int w5), .val (.int x), .val (.int y), .val (.int z), .unset, .unset, .unset, .unset, .unset] [(.int z), (.int y), (.int x), (.int (1 : Int32))]))
  obtain ⟨_, _, ⟨T1, L1, k1, n1⟩, -, X1, ⟨Lc1, hQ1, l1, y1, z1⟩, st1⟩ := Jvm.LawKit.callS X0 hx (y := (⟨"com/example/fair_witness/fairwitness/model/StateValueIndicesPinLaw", "make", "(IIII)[I"⟩ : MethodName)) hown (mvT hZ (hw _ (List.mem_of_getElem? (i := 0) rfl))) (mvT hZ (hw _ (List.mem_of_getElem? (i := 1) rfl))) (mvT hZ (hw _ (List.mem_of_getElem? (i := 2) rfl))) (mvT hZ (hw _ (List.mem_of_getElem? (i := 3) rfl))) (by decide) (backOf (W := 0) (rm_mk1 l Z a0 hw [] x y z h0 n0 Z0) hZ (hw _ (List.mem_of_getElem? (i := 3) rfl)) (hw _ (List.mem_of_getElem? (i := 2) rfl)) (by decide) (by decide)) (g := (mkF m 74 #[.val (.int p1), .val (.int p2), .val (.int p3), .val (.int p4), .val (.int (1 : Int32)), .val (.int w5), .val (.int x), .val (.int y), .val (.int z), .unset, .unset, .unset, .unset, .unset] [(.int z), (.int y), (.int x), (.int (1 : Int32))])) rfl (by rw [hml]; rfl) (argsL := [(.int (1 : Int32)), (.int x), (.int y), (.int z)]) (rest := []) (lenOf pd_oIIIIcAI rfl) rfl (by show 2 * 0 + _ ≤ _; exact Nat.le_of_eq rfl) (hb hby at_74) (fun _ _ => ⟨rfl, e0, (by decide : 0 + 1 ≤ _), (by decide : 0 + 3 ≤ _)⟩)
  dsimp only [Pt.U, Pt.locs, Pt.cells, Pt.slots] at X1 l1 y1 z1 st1 hQ1
  subst l1 y1 z1
  obtain ⟨rfl, Nq1, K1, E1, kk1, V1⟩ := hQ1
  have N1 := Fr.app N0 Nq1
  refine OGo.by_ st1 ?_
  show OGo p e below _ (T1.setTop (mkF m 77 #[.val (.int p1), .val (.int p2), .val (.int p3), .val (.int p4), .val (.int (1 : Int32)), .val (.int w5), .val (.int x), .val (.int y), .val (.int z), .unset, .unset, .unset, .unset, .unset] [(.ref h0.size)]))
  obtain ⟨ai, g_ai⟩ : ∃ q, q = h0.size := ⟨_, rfl⟩
  rw [← g_ai] at E1 V1
  rw [← g_ai]
  show OGo p e below _ (T1.setTop (mkF m 77 #[.val (.int p1), .val (.int p2), .val (.int p3), .val (.int p4), .val (.int (1 : Int32)), .val (.int w5), .val (.int x), .val (.int y), .val (.int z), .unset, .unset, .unset, .unset, .unset] [(.ref ai)]))
  have Z1 : n0 ≤ T1.heap.size := Nat.le_trans Z0 K1.1
  have lai : T1.heap.size > ai := V1.lt
  refine OGo.by_ (fun t k => XS.astore X1.here hx rfl (hb hby at_77) rfl rfl (l' := #[.val (.int p1), .val (.int p2), .val (.int p3), .val (.int p4), .val (.int (1 : Int32)), .val (.int w5), .val (.int x), .val (.int y), .val (.int z), .val (.ref ai), .unset, .unset, .unset, .unset]) rfl k) ?_
  show OGo p e below _ (T1.setTop (mkF m 79 #[.val (.int p1), .val (.int p2), .val (.int p3), .val (.int p4), .val (.int (1 : Int32)), .val (.int w5), .val (.int x), .val (.int y), .val (.int z), .val (.ref ai), .unset, .unset, .unset, .unset] []))
  obtain ⟨T2, h2, X2, e2, E2, A2, Dv2, -, st2⟩ := newO X1 hx hZ hown (hw _ (List.mem_of_getElem? (i := 5) rfl)) (hw _ (List.mem_of_getElem? (i := 6) rfl)) (hw _ (List.mem_of_getElem? (i := 7) rfl)) rfl (g := (mkF m 79 #[.val (.int p1), .val (.int p2), .val (.int p3), .val (.int p4), .val (.int (1 : Int32)), .val (.int w5), .val (.int x), .val (.int y), .val (.int z), .val (.ref ai), .unset, .unset, .unset, .unset] [])) rfl (hb hby at_79) (by decide) (by decide)
  obtain ⟨o, g_o⟩ : ∃ z, z = T1.heap.size := ⟨_, rfl⟩
  rw [← g_o] at A2 Dv2 st2
  have A_o := A2
  have lt_o := own_lt A2.lt
  have F_smallIndices_o : Fld Z h2 o "com/example/fair_witness/fairwitness/model/State" "smallIndices" "[B" .null := Dv2 (Or.inr (hw _ (List.mem_of_getElem? (i := 16) rfl))) (ty := (.array .byte)) (by decide)
  have F_valueIndices_o : Fld Z h2 o "com/example/fair_witness/fairwitness/model/State" "valueIndices" "[I" .null := Dv2 (Or.inr (hw _ (List.mem_of_getElem? (i := 18) rfl))) (ty := (.array .int)) (by decide)
  refine OGo.by_ st2 ?_
  show OGo p e below _ (T2.setTop (mkF m 82 #[.val (.int p1), .val (.int p2), .val (.int p3), .val (.int p4), .val (.int (1 : Int32)), .val (.int w5), .val (.int x), .val (.int y), .val (.int z), .val (.ref ai), .unset, .unset, .unset, .unset] [(.ref o)]))
  have Z2 : n0 ≤ h2.size := Nat.le_trans Z1 E2.1
  have go : n0 ≤ o := by omega
  have hio : ai ≠ o := own_ne (by omega)
  have gai : n0 ≤ ai := by omega
  refine OGo.by_ (fun t k => XS.dup X2.here hx rfl (hb hby at_82) rfl rfl k) ?_
  show OGo p e below _ (T2.setTop (mkF m 83 #[.val (.int p1), .val (.int p2), .val (.int p3), .val (.int p4), .val (.int (1 : Int32)), .val (.int w5), .val (.int x), .val (.int y), .val (.int z), .val (.ref ai), .unset, .unset, .unset, .unset] [(.ref o), (.ref o)]))
  refine OGo.by_ (fun t k => XS.aload X2.here hx rfl (hb hby at_83) rfl rfl k) ?_
  show OGo p e below _ (T2.setTop (mkF m 85 #[.val (.int p1), .val (.int p2), .val (.int p3), .val (.int p4), .val (.int (1 : Int32)), .val (.int w5), .val (.int x), .val (.int y), .val (.int z), .val (.ref ai), .unset, .unset, .unset, .unset] [(.ref ai), (.ref o), (.ref o)]))
  obtain ⟨_, _, ⟨T3, L3, k3, n3⟩, -, X3, ⟨Lc3, hQ3, l3, y3, z3⟩, st3⟩ := X2.specialBack hx (y := (⟨"com/example/fair_witness/fairwitness/model/State", "<init>", "([I)V"⟩ : MethodName)) rfl hown (mvT hZ (hw _ (List.mem_of_getElem? (i := 8) rfl))) (mvT hZ (hw _ (List.mem_of_getElem? (i := 9) rfl))) (mvT hZ (hw _ (List.mem_of_getElem? (i := 10) rfl))) (by decide) (backOf (W := 1) (rm_ini1 l Z a0 hw [] o ai kk1 x y z h2 n0 Z2 go A_o F_smallIndices_o F_valueIndices_o (E1.ext E2) (V1.ext E2) hio) hZ (hw _ (List.mem_of_getElem? (i := 10) rfl)) (hw _ (List.mem_of_getElem? (i := 7) rfl)) (by decide) (by decide)) (g := (mkF m 85 #[.val (.int p1), .val (.int p2), .val (.int p3), .val (.int p4), .val (.int (1 : Int32)), .val (.int w5), .val (.int x), .val (.int y), .val (.int z), .val (.ref ai), .unset, .unset, .unset, .unset] [(.ref ai), (.ref o), (.ref o)])) rfl (by rw [hml]; rfl) (Steps.refl _) (a := o) (argsL := [(.ref ai)]) (rest := [(.ref o)]) (lenOf pd_oAIcV rfl) rfl (by show 2 * 0 + _ ≤ _; exact Nat.le_of_eq rfl) (hb hby at_85) (fun _ _ => ⟨rfl, e2, (by decide : 2 + 1 ≤ _), (by decide : 5 + 3 ≤ _)⟩)
  dsimp only [Pt.U, Pt.locs, Pt.cells, Pt.slots] at X3 l3 y3 z3 st3 hQ3
  subst l3 y3 z3
  obtain ⟨rfl, Nq3, K3, b, gb, ST3⟩ := hQ3
  have N3 := Fr.app N1 Nq3
  refine OGo.by_ (fun t k => st3.trans k) ?_
  show OGo p e below _ (T3.setTop (mkF m 88 #[.val (.int p1), .val (.int p2), .val (.int p3), .val (.int p4), .val (.int (1 : Int32)), .val (.int w5), .val (.int x), .val (.int y), .val (.int z), .val (.ref ai), .unset, .unset, .unset, .unset] [(.ref o)]))
  have Z3 : n0 ≤ T3.heap.size := Nat.le_trans Z2 K3.1
  have lst := own_ST_lt ST3
  have Vi := (V1.ext E2).keep K3 (own_nin1 hio)
  have hE2 := E2.1
  have lai2 : h2.size > ai := (V1.ext E2).lt
  refine OGo.by_ (fun t k => XS.astore X3.here hx rfl (hb hby at_88) rfl rfl (l' := #[.val (.int p1), .val (.int p2), .val (.int p3), .val (.int p4), .val (.int (1 : Int32)), .val (.int w5), .val (.int x), .val (.int y), .val (.int z), .val (.ref ai), .val (.ref o), .unset, .unset, .unset]) rfl k) ?_
  show OGo p e below _ (T3.setTop (mkF m 90 #[.val (.int p1), .val (.int p2), .val (.int p3), .val (.int p4), .val (.int (1 : Int32)), .val (.int w5), .val (.int x), .val (.int y), .val (.int z), .val (.ref ai), .val (.ref o), .unset, .unset, .unset] []))
  refine OGo.by_ (fun t k => XS.iload X3.here hx rfl (hb hby at_90) rfl k) ?_
  show OGo p e below _ (T3.setTop (mkF m 92 #[.val (.int p1), .val (.int p2), .val (.int p3), .val (.int p4), .val (.int (1 : Int32)), .val (.int w5), .val (.int x), .val (.int y), .val (.int z), .val (.ref ai), .val (.ref o), .unset, .unset, .unset] [(.int (1 : Int32))]))
  refine OGo.by_ (fun t k => XS.ifNo X3.here hx rfl (hb hby at_92) rfl ((if0 _ _).trans (tlt (by decide)).2.2.2) k) ?_
  show OGo p e below _ (T3.setTop (mkF m 95 #[.val (.int p1), .val (.int p2), .val (.int p3), .val (.int p4), .val (.int (1 : Int32)), .val (.int w5), .val (.int x), .val (.int y), .val (.int z), .val (.ref ai), .val (.ref o), .unset, .unset, .unset] []))
  refine OGo.by_ (fun t k => XS.aload X3.here hx rfl (hb hby at_95) rfl rfl k) ?_
  show OGo p e below _ (T3.setTop (mkF m 97 #[.val (.int p1), .val (.int p2), .val (.int p3), .val (.int p4), .val (.int (1 : Int32)), .val (.int w5), .val (.int x), .val (.int y), .val (.int z), .val (.ref ai), .val (.ref o), .unset, .unset, .unset] [(.ref ai)]))
  refine OGo.by_ (fun t k => XS.iconst X3.here hx rfl (hb hby at_97) k) ?_
  show OGo p e below _ (T3.setTop (mkF m 98 #[.val (.int p1), .val (.int p2), .val (.int p3), .val (.int p4), .val (.int (1 : Int32)), .val (.int w5), .val (.int x), .val (.int y), .val (.int z), .val (.ref ai), .val (.ref o), .unset, .unset, .unset] [(.int (0 : Int32)), (.ref ai)]))
  refine OGo.by_ (fun t k => XS.aload X3.here hx rfl (hb hby at_98) rfl rfl k) ?_
  show OGo p e below _ (T3.setTop (mkF m 100 #[.val (.int p1), .val (.int p2), .val (.int p3), .val (.int p4), .val (.int (1 : Int32)), .val (.int w5), .val (.int x), .val (.int y), .val (.int z), .val (.ref ai), .val (.ref o), .unset, .unset, .unset] [(.ref ai), (.int (0 : Int32)), (.ref ai)]))
  refine OGo.by_ (fun t k => XS.iconst X3.here hx rfl (hb hby at_100) k) ?_
  show OGo p e below _ (T3.setTop (mkF m 101 #[.val (.int p1), .val (.int p2), .val (.int p3), .val (.int p4), .val (.int (1 : Int32)), .val (.int w5), .val (.int x), .val (.int y), .val (.int z), .val (.ref ai), .val (.ref o), .unset, .unset, .unset] [(.int (0 : Int32)), (.ref ai), (.int (0 : Int32)), (.ref ai)]))
  obtain ⟨cl4, Ar4, q4, S4, Nn4, H4, G4⟩ := id Vi
  have in4 := inb_of S4 ⟨(by decide : ¬ (0 : Int32) < 0), (by decide : (0 : Int32) < (1 : Int32))⟩
  refine OGo.by_ (fun t kk => X3.iaload hx (j := (0 : Int32)) (v := (.int x)) (by exact Ar4.1) (State.isArrayOf_alike hZ.alike Ar4.2.1) Ar4.2.2 in4 (H4.at in4 (rfl)) (g := (mkF m 101 #[.val (.int p1), .val (.int p2), .val (.int p3), .val (.int p4), .val (.int (1 : Int32)), .val (.int w5), .val (.int x), .val (.int y), .val (.int z), .val (.ref ai), .val (.ref o), .unset, .unset, .unset] [(.int (0 : Int32)), (.ref ai), (.int (0 : Int32)), (.ref ai)])) rfl rfl (hb hby at_101) _ kk) ?_
  show OGo p e below _ (T3.setTop (mkF m 102 #[.val (.int p1), .val (.int p2), .val (.int p3), .val (.int p4), .val (.int (1 : Int32)), .val (.int w5), .val (.int x), .val (.int y), .val (.int z), .val (.ref ai), .val (.ref o), .unset, .unset, .unset] [(.int x), (.int (0 : Int32)), (.ref ai)]))
  refine OGo.by_ (fun t k => XS.iconst X3.here hx rfl (hb hby at_102) k) ?_
  show OGo p e below _ (T3.setTop (mkF m 103 #[.val (.int p1), .val (.int p2), .val (.int p3), .val (.int p4), .val (.int (1 : Int32)), .val (.int w5), .val (.int x), .val (.int y), .val (.int z), .val (.ref ai), .val (.ref o), .unset, .unset, .unset] [(.int (1 : Int32)), (.int x), (.int (0 : Int32)), (.ref ai)]))
  refine OGo.by_ (fun t k => XS.ixor X3.here hx rfl (hb hby at_103) rfl k) ?_
  show OGo p e below _ (T3.setTop (mkF m 104 #[.val (.int p1), .val (.int p2), .val (.int p3), .val (.int p4), .val (.int (1 : Int32)), .val (.int w5), .val (.int x), .val (.int y), .val (.int z), .val (.ref ai), .val (.ref o), .unset, .unset, .unset] [(.int (x ^^^ (1 : Int32))), (.int (0 : Int32)), (.ref ai)]))
  obtain ⟨cl5, Ar5, q5, S5, Nn5, H5, G5⟩ := id Vi
  obtain ⟨T6, h6, X6, e6, W6, st6⟩ := stI X3 hx hZ rfl Ar5 (j := (0 : Int32)) (inb_of S5 ⟨(by decide : ¬ (0 : Int32) < 0), (by decide : (0 : Int32) < (1 : Int32))⟩) (g := (mkF m 104 #[.val (.int p1), .val (.int p2), .val (.int p3), .val (.int p4), .val (.int (1 : Int32)), .val (.int w5), .val (.int x), .val (.int y), .val (.int z), .val (.ref ai), .val (.ref o), .unset, .unset, .unset] [(.int (x ^^^ (1 : Int32))), (.int (0 : Int32)), (.ref ai)])) rfl rfl (hb hby at_104)
  refine OGo.by_ st6 ?_
  show OGo p e below _ (T6.setTop (mkF m 105 #[.val (.int p1), .val (.int p2), .val (.int p3), .val (.int p4), .val (.int (1 : Int32)), .val (.int w5), .val (.int x), .val (.int y), .val (.int z), .val (.ref ai), .val (.ref o), .unset, .unset, .unset] []))
  have N6 := Fr.snoc X6 N3 gai
  have STb := own_ST_keep ST3 (Keep.of_wr W6) (own_nin1 (own_ne' (by omega))) (own_nin1 (own_ne' (by omega)))
  have Z4 : n0 ≤ h6.size := by rw [W6.size]; exact Z3
  have lstb := own_ST_lt STb
  refine OGo.by_ (fun t k => XS.aload X6.here hx rfl (hb hby at_105) rfl rfl k) ?_
  show OGo p e below _ (T6.setTop (mkF m 107 #[.val (.int p1), .val (.int p2), .val (.int p3), .val (.int p4), .val (.int (1 : Int32)), .val (.int w5), .val (.int x), .val (.int y), .val (.int z), .val (.ref ai), .val (.ref o), .unset, .unset, .unset] [(.ref o)]))
  obtain ⟨cq8, kq8, qa8, qb8, qc8⟩ := isOf hZ e6 STb.1
  obtain ⟨_, _, ⟨T7, L7, k7, n7⟩, -, X7, ⟨Lc7, hQ7, l7, y7, z7⟩, st7⟩ := X6.virtualBack hx (y := (⟨"com/example/fair_witness/fairwitness/model/State", "valueIndices", "()[I"⟩ : MethodName)) (z := (⟨"com/example/fair_witness/fairwitness/model/State", "valueIndices", "()[I"⟩ : MethodName)) hown (mvT hZ (hw _ (List.mem_of_getElem? (i := 19) rfl))) (mvT hZ (hw _ (List.mem_of_getElem? (i := 20) rfl))) (notFace_of_selects (args := #[]) (mvT hZ (hw _ (List.mem_of_getElem? (i := 22) rfl)))) (mvT hZ (hw _ (List.mem_of_getElem? (i := 22) rfl))) (mvT hZ (hw _ (List.mem_of_getElem? (i := 21) rfl))) (by decide) (backOf (W := 0) (rm_vi1 l Z a0 hw [] o b x y z h6 n0 Z4 STb) hZ (hw _ (List.mem_of_getElem? (i := 23) rfl)) (hw _ (List.mem_of_getElem? (i := 7) rfl)) (by decide) (by decide)) qa8 qc8 (g := (mkF m 107 #[.val (.int p1), .val (.int p2), .val (.int p3), .val (.int p4), .val (.int (1 : Int32)), .val (.int w5), .val (.int x), .val (.int y), .val (.int z), .val (.ref ai), .val (.ref o), .unset, .unset, .unset] [(.ref o)])) rfl (by rw [hml]; rfl) (Steps.refl _) (argsL := []) (rest := []) (lenOf pd_ocAI rfl) rfl (by show 2 * 0 + _ ≤ _; exact Nat.le_of_eq rfl) (hb hby at_107) (fun _ _ => ⟨rfl, e6, (by decide : 3 + 1 ≤ _), (by decide : 8 + 3 ≤ _)⟩)
  dsimp only [Pt.U, Pt.locs, Pt.cells, Pt.slots] at X7 l7 y7 z7 st7 hQ7
  subst l7 y7 z7
  obtain ⟨rfl, Nq7, K7, kk7, V7⟩ := hQ7
  have N7 := Fr.app N6 Nq7
  refine OGo.by_ (fun t k => st7.trans k) ?_
  show OGo p e below _ (T7.setTop (mkF m 110 #[.val (.int p1), .val (.int p2), .val (.int p3), .val (.int p4), .val (.int (1 : Int32)), .val (.int w5), .val (.int x), .val (.int y), .val (.int z), .val (.ref ai), .val (.ref o), .unset, .unset, .unset] [(.ref h6.size)]))
  obtain ⟨r1, g_r1⟩ : ∃ q, q = h6.size := ⟨_, rfl⟩
  rw [← g_r1] at V7
  rw [← g_r1]
  show OGo p e below _ (T7.setTop (mkF m 110 #[.val (.int p1), .val (.int p2), .val (.int p3), .val (.int p4), .val (.int (1 : Int32)), .val (.int w5), .val (.int x), .val (.int y), .val (.int z), .val (.ref ai), .val (.ref o), .unset, .unset, .unset] [(.ref r1)]))
  have Z5 : n0 ≤ T7.heap.size := Nat.le_trans Z4 K7.1
  have ST5 := own_ST_keep STb K7 nin0 nin0
  have gr1 : n0 ≤ r1 := by omega
  refine OGo.by_ (fun t k => XS.astore X7.here hx rfl (hb hby at_110) rfl rfl (l' := #[.val (.int p1), .val (.int p2), .val (.int p3), .val (.int p4), .val (.int (1 : Int32)), .val (.int w5), .val (.int x), .val (.int y), .val (.int z), .val (.ref ai), .val (.ref o), .val (.ref r1), .unset, .unset]) rfl k) ?_
  show OGo p e below _ (T7.setTop (mkF m 112 #[.val (.int p1), .val (.int p2), .val (.int p3), .val (.int p4), .val (.int (1 : Int32)), .val (.int w5), .val (.int x), .val (.int y), .val (.int z), .val (.ref ai), .val (.ref o), .val (.ref r1), .unset, .unset] []))
  refine OGo.by_ (fun t k => XS.aload X7.here hx rfl (hb hby at_112) rfl rfl k) ?_
  show OGo p e below _ (T7.setTop (mkF m 114 #[.val (.int p1), .val (.int p2), .val (.int p3), .val (.int p4), .val (.int (1 : Int32)), .val (.int w5), .val (.int x), .val (.int y), .val (.int z), .val (.ref ai), .val (.ref o), .val (.ref r1), .unset, .unset] [(.ref r1)]))
  refine OGo.by_ (fun t k => XS.iload X7.here hx rfl (hb hby at_114) rfl k) ?_
  show OGo p e below _ (T7.setTop (mkF m 116 #[.val (.int p1), .val (.int p2), .val (.int p3), .val (.int p4), .val (.int (1 : Int32)), .val (.int w5), .val (.int x), .val (.int y), .val (.int z), .val (.ref ai), .val (.ref o), .val (.ref r1), .unset, .unset] [(.int (1 : Int32)), (.ref r1)]))
  refine OGo.by_ (fun t k => XS.iload X7.here hx rfl (hb hby at_116) rfl k) ?_
  show OGo p e below _ (T7.setTop (mkF m 118 #[.val (.int p1), .val (.int p2), .val (.int p3), .val (.int p4), .val (.int (1 : Int32)), .val (.int w5), .val (.int x), .val (.int y), .val (.int z), .val (.ref ai), .val (.ref o), .val (.ref r1), .unset, .unset] [(.int x), (.int (1 : Int32)), (.ref r1)]))
  refine OGo.by_ (fun t k => XS.iload X7.here hx rfl (hb hby at_118) rfl k) ?_
  show OGo p e below _ (T7.setTop (mkF m 120 #[.val (.int p1), .val (.int p2), .val (.int p3), .val (.int p4), .val (.int (1 : Int32)), .val (.int w5), .val (.int x), .val (.int y), .val (.int z), .val (.ref ai), .val (.ref o), .val (.ref r1), .unset, .unset] [(.int y), (.int x), (.int (1 : Int32)), (.ref r1)]))
  refine OGo.by_ (fun t k => XS.iload X7.here hx rfl (hb hby at_120) rfl k) ?_
  show OGo p e below _ (T7.setTop (mkF m 122 #[.val (.int p1), .val (.int p2), .val (.int p3), .val (.int p4), .val (.int (1 : Int32)), .val (.int w5), .val (.int x), .val (.int y), .val (.int z), .val (.ref ai), .val (.ref o), .val (.ref r1), .unset, .unset] [(.int z), (.int y), (.int x), (.int (1 : Int32)), (.ref r1)]))
  obtain ⟨_, _, ⟨T9, L9, k9, n9⟩, -, X9, ⟨Lc9, hQ9, l9, y9, z9⟩, st9⟩ := Jvm.LawKit.callS X7 hx (y := (⟨"com/example/fair_witness/fairwitness/model/StateValueIndicesPinLaw", "same", "([IIIII)Z"⟩ : MethodName)) hown (mvT hZ (hw _ (List.mem_of_getElem? (i := 24) rfl))) (mvT hZ (hw _ (List.mem_of_getElem? (i := 25) rfl))) (mvT hZ (hw _ (List.mem_of_getElem? (i := 2) rfl))) (mvT hZ (hw _ (List.mem_of_getElem? (i := 26) rfl))) (by decide) (backOf (W := 0) (rm_sm1 l Z a0 hw [] r1 kk7 x y z T7.heap n0 Z5 V7) hZ (hw _ (List.mem_of_getElem? (i := 26) rfl)) (hw _ (List.mem_of_getElem? (i := 2) rfl)) (by decide) (by decide)) (g := (mkF m 122 #[.val (.int p1), .val (.int p2), .val (.int p3), .val (.int p4), .val (.int (1 : Int32)), .val (.int w5), .val (.int x), .val (.int y), .val (.int z), .val (.ref ai), .val (.ref o), .val (.ref r1), .unset, .unset] [(.int z), (.int y), (.int x), (.int (1 : Int32)), (.ref r1)])) rfl (by rw [hml]; rfl) (argsL := [(.ref r1), (.int (1 : Int32)), (.int x), (.int y), (.int z)]) (rest := []) (lenOf pd_oAIIIIIcZ rfl) rfl (by show 2 * 0 + _ ≤ _; exact Nat.le_of_eq rfl) (hb hby at_122) (fun _ _ => ⟨rfl, rfl, (by decide : 4 + 0 ≤ _), (by decide : 11 + 0 ≤ _)⟩)
  dsimp only [Pt.U, Pt.locs, Pt.cells, Pt.slots] at X9 l9 y9 z9 st9 hQ9
  subst l9 y9 z9
  obtain ⟨rfl, Nq9, eq9⟩ := hQ9
  have N9 := Fr.app N7 Nq9
  refine OGo.by_ st9 ?_
  show OGo p e below _ (T9.setTop (mkF m 125 #[.val (.int p1), .val (.int p2), .val (.int p3), .val (.int p4), .val (.int (1 : Int32)), .val (.int w5), .val (.int x), .val (.int y), .val (.int z), .val (.ref ai), .val (.ref o), .val (.ref r1), .unset, .unset] [(.int (1 : Int32))]))
  refine OGo.by_ (fun t k => XS.istore X9.here hx rfl (hb hby at_125) rfl (l' := #[.val (.int p1), .val (.int p2), .val (.int p3), .val (.int p4), .val (.int (1 : Int32)), .val (.int w5), .val (.int x), .val (.int y), .val (.int z), .val (.ref ai), .val (.ref o), .val (.ref r1), .val (.int (1 : Int32)), .unset]) rfl k) ?_
  show OGo p e below _ (T9.setTop (mkF m 127 #[.val (.int p1), .val (.int p2), .val (.int p3), .val (.int p4), .val (.int (1 : Int32)), .val (.int w5), .val (.int x), .val (.int y), .val (.int z), .val (.ref ai), .val (.ref o), .val (.ref r1), .val (.int (1 : Int32)), .unset] []))
  refine OGo.by_ (fun t k => XS.iload X9.here hx rfl (hb hby at_127) rfl k) ?_
  show OGo p e below _ (T9.setTop (mkF m 129 #[.val (.int p1), .val (.int p2), .val (.int p3), .val (.int p4), .val (.int (1 : Int32)), .val (.int w5), .val (.int x), .val (.int y), .val (.int z), .val (.ref ai), .val (.ref o), .val (.ref r1), .val (.int (1 : Int32)), .unset] [(.int (1 : Int32))]))
  refine OGo.by_ (fun t k => XS.ifNo X9.here hx rfl (hb hby at_129) rfl ((if0 _ _).trans (tlt (by decide)).2.2.2) k) ?_
  show OGo p e below _ (T9.setTop (mkF m 132 #[.val (.int p1), .val (.int p2), .val (.int p3), .val (.int p4), .val (.int (1 : Int32)), .val (.int w5), .val (.int x), .val (.int y), .val (.int z), .val (.ref ai), .val (.ref o), .val (.ref r1), .val (.int (1 : Int32)), .unset] []))
  refine OGo.by_ (fun t k => XS.aload X9.here hx rfl (hb hby at_132) rfl rfl k) ?_
  show OGo p e below _ (T9.setTop (mkF m 134 #[.val (.int p1), .val (.int p2), .val (.int p3), .val (.int p4), .val (.int (1 : Int32)), .val (.int w5), .val (.int x), .val (.int y), .val (.int z), .val (.ref ai), .val (.ref o), .val (.ref r1), .val (.int (1 : Int32)), .unset] [(.ref r1)]))
  refine OGo.by_ (fun t k => XS.iconst X9.here hx rfl (hb hby at_134) k) ?_
  show OGo p e below _ (T9.setTop (mkF m 135 #[.val (.int p1), .val (.int p2), .val (.int p3), .val (.int p4), .val (.int (1 : Int32)), .val (.int w5), .val (.int x), .val (.int y), .val (.int z), .val (.ref ai), .val (.ref o), .val (.ref r1), .val (.int (1 : Int32)), .unset] [(.int (0 : Int32)), (.ref r1)]))
  refine OGo.by_ (fun t k => XS.aload X9.here hx rfl (hb hby at_135) rfl rfl k) ?_
  show OGo p e below _ (T9.setTop (mkF m 137 #[.val (.int p1), .val (.int p2), .val (.int p3), .val (.int p4), .val (.int (1 : Int32)), .val (.int w5), .val (.int x), .val (.int y), .val (.int z), .val (.ref ai), .val (.ref o), .val (.ref r1), .val (.int (1 : Int32)), .unset] [(.ref r1), (.int (0 : Int32)), (.ref r1)]))
  refine OGo.by_ (fun t k => XS.iconst X9.here hx rfl (hb hby at_137) k) ?_
  show OGo p e below _ (T9.setTop (mkF m 138 #[.val (.int p1), .val (.int p2), .val (.int p3), .val (.int p4), .val (.int (1 : Int32)), .val (.int w5), .val (.int x), .val (.int y), .val (.int z), .val (.ref ai), .val (.ref o), .val (.ref r1), .val (.int (1 : Int32)), .unset] [(.int (0 : Int32)), (.ref r1), (.int (0 : Int32)), (.ref r1)]))
  obtain ⟨cl10, Ar10, q10, S10, Nn10, H10, G10⟩ := id V7
  have in10 := inb_of S10 ⟨(by decide : ¬ (0 : Int32) < 0), (by decide : (0 : Int32) < (1 : Int32))⟩
  refine OGo.by_ (fun t kk => X9.iaload hx (j := (0 : Int32)) (v := (.int x)) (by rw [eq9]; exact Ar10.1) (State.isArrayOf_alike hZ.alike Ar10.2.1) Ar10.2.2 in10 (H10.at in10 (rfl)) (g := (mkF m 138 #[.val (.int p1), .val (.int p2), .val (.int p3), .val (.int p4), .val (.int (1 : Int32)), .val (.int w5), .val (.int x), .val (.int y), .val (.int z), .val (.ref ai), .val (.ref o), .val (.ref r1), .val (.int (1 : Int32)), .unset] [(.int (0 : Int32)), (.ref r1), (.int (0 : Int32)), (.ref r1)])) rfl rfl (hb hby at_138) _ kk) ?_
  show OGo p e below _ (T9.setTop (mkF m 139 #[.val (.int p1), .val (.int p2), .val (.int p3), .val (.int p4), .val (.int (1 : Int32)), .val (.int w5), .val (.int x), .val (.int y), .val (.int z), .val (.ref ai), .val (.ref o), .val (.ref r1), .val (.int (1 : Int32)), .unset] [(.int x), (.int (0 : Int32)), (.ref r1)]))
  refine OGo.by_ (fun t k => XS.iconst X9.here hx rfl (hb hby at_139) k) ?_
  show OGo p e below _ (T9.setTop (mkF m 140 #[.val (.int p1), .val (.int p2), .val (.int p3), .val (.int p4), .val (.int (1 : Int32)), .val (.int w5), .val (.int x), .val (.int y), .val (.int z), .val (.ref ai), .val (.ref o), .val (.ref r1), .val (.int (1 : Int32)), .unset] [(.int (1 : Int32)), (.int x), (.int (0 : Int32)), (.ref r1)]))
  refine OGo.by_ (fun t k => XS.ixor X9.here hx rfl (hb hby at_140) rfl k) ?_
  show OGo p e below _ (T9.setTop (mkF m 141 #[.val (.int p1), .val (.int p2), .val (.int p3), .val (.int p4), .val (.int (1 : Int32)), .val (.int w5), .val (.int x), .val (.int y), .val (.int z), .val (.ref ai), .val (.ref o), .val (.ref r1), .val (.int (1 : Int32)), .unset] [(.int (x ^^^ (1 : Int32))), (.int (0 : Int32)), (.ref r1)]))
  obtain ⟨cl11, Ar11, q11, S11, Nn11, H11, G11⟩ := id V7
  obtain ⟨T12, h12, X12, e12, W12, st12⟩ := stI X9 hx hZ eq9 Ar11 (j := (0 : Int32)) (inb_of S11 ⟨(by decide : ¬ (0 : Int32) < 0), (by decide : (0 : Int32) < (1 : Int32))⟩) (g := (mkF m 141 #[.val (.int p1), .val (.int p2), .val (.int p3), .val (.int p4), .val (.int (1 : Int32)), .val (.int w5), .val (.int x), .val (.int y), .val (.int z), .val (.ref ai), .val (.ref o), .val (.ref r1), .val (.int (1 : Int32)), .unset] [(.int (x ^^^ (1 : Int32))), (.int (0 : Int32)), (.ref r1)])) rfl rfl (hb hby at_141)
  refine OGo.by_ st12 ?_
  show OGo p e below _ (T12.setTop (mkF m 142 #[.val (.int p1), .val (.int p2), .val (.int p3), .val (.int p4), .val (.int (1 : Int32)), .val (.int w5), .val (.int x), .val (.int y), .val (.int z), .val (.ref ai), .val (.ref o), .val (.ref r1), .val (.int (1 : Int32)), .unset] []))
  have N12 := Fr.snoc X12 N9 gr1
  have ST6 := own_ST_keep ST5 (Keep.of_wr W12) (own_nin1 (own_ne (by omega))) (own_nin1 (own_ne (by omega)))
  have Z6 : n0 ≤ h12.size := by rw [W12.size]; exact Z5
  refine OGo.by_ (fun t k => XS.aload X12.here hx rfl (hb hby at_142) rfl rfl k) ?_
  show OGo p e below _ (T12.setTop (mkF m 144 #[.val (.int p1), .val (.int p2), .val (.int p3), .val (.int p4), .val (.int (1 : Int32)), .val (.int w5), .val (.int x), .val (.int y), .val (.int z), .val (.ref ai), .val (.ref o), .val (.ref r1), .val (.int (1 : Int32)), .unset] [(.ref o)]))
  obtain ⟨cq14, kq14, qa14, qb14, qc14⟩ := isOf hZ e12 ST6.1
  obtain ⟨_, _, ⟨T13, L13, k13, n13⟩, -, X13, ⟨Lc13, hQ13, l13, y13, z13⟩, st13⟩ := X12.virtualBack hx (y := (⟨"com/example/fair_witness/fairwitness/model/State", "valueIndices", "()[I"⟩ : MethodName)) (z := (⟨"com/example/fair_witness/fairwitness/model/State", "valueIndices", "()[I"⟩ : MethodName)) hown (mvT hZ (hw _ (List.mem_of_getElem? (i := 19) rfl))) (mvT hZ (hw _ (List.mem_of_getElem? (i := 20) rfl))) (notFace_of_selects (args := #[]) (mvT hZ (hw _ (List.mem_of_getElem? (i := 22) rfl)))) (mvT hZ (hw _ (List.mem_of_getElem? (i := 22) rfl))) (mvT hZ (hw _ (List.mem_of_getElem? (i := 21) rfl))) (by decide) (backOf (W := 0) (rm_vi1 l Z a0 hw [] o b x y z h12 n0 Z6 ST6) hZ (hw _ (List.mem_of_getElem? (i := 23) rfl)) (hw _ (List.mem_of_getElem? (i := 7) rfl)) (by decide) (by decide)) qa14 qc14 (g := (mkF m 144 #[.val (.int p1), .val (.int p2), .val (.int p3), .val (.int p4), .val (.int (1 : Int32)), .val (.int w5), .val (.int x), .val (.int y), .val (.int z), .val (.ref ai), .val (.ref o), .val (.ref r1), .val (.int (1 : Int32)), .unset] [(.ref o)])) rfl (by rw [hml]; rfl) (Steps.refl _) (argsL := []) (rest := []) (lenOf pd_ocAI rfl) rfl (by show 2 * 0 + _ ≤ _; exact Nat.le_of_eq rfl) (hb hby at_144) (fun _ _ => ⟨rfl, e12, (by decide : 4 + 1 ≤ _), (by decide : 11 + 3 ≤ _)⟩)
  dsimp only [Pt.U, Pt.locs, Pt.cells, Pt.slots] at X13 l13 y13 z13 st13 hQ13
  subst l13 y13 z13
  obtain ⟨rfl, Nq13, K13, kk13, V13⟩ := hQ13
  have N13 := Fr.app N12 Nq13
  refine OGo.by_ (fun t k => st13.trans k) ?_
  show OGo p e below _ (T13.setTop (mkF m 147 #[.val (.int p1), .val (.int p2), .val (.int p3), .val (.int p4), .val (.int (1 : Int32)), .val (.int w5), .val (.int x), .val (.int y), .val (.int z), .val (.ref ai), .val (.ref o), .val (.ref r1), .val (.int (1 : Int32)), .unset] [(.ref h12.size)]))
  refine OGo.by_ (fun t k => XS.astore X13.here hx rfl (hb hby at_147) rfl rfl (l' := #[.val (.int p1), .val (.int p2), .val (.int p3), .val (.int p4), .val (.int (1 : Int32)), .val (.int w5), .val (.int x), .val (.int y), .val (.int z), .val (.ref ai), .val (.ref o), .val (.ref r1), .val (.int (1 : Int32)), .val (.ref h12.size)]) rfl k) ?_
  show OGo p e below _ (T13.setTop (mkF m 149 #[.val (.int p1), .val (.int p2), .val (.int p3), .val (.int p4), .val (.int (1 : Int32)), .val (.int w5), .val (.int x), .val (.int y), .val (.int z), .val (.ref ai), .val (.ref o), .val (.ref r1), .val (.int (1 : Int32)), .val (.ref h12.size)] []))
  refine OGo.by_ (fun t k => XS.iload X13.here hx rfl (hb hby at_149) rfl k) ?_
  show OGo p e below _ (T13.setTop (mkF m 151 #[.val (.int p1), .val (.int p2), .val (.int p3), .val (.int p4), .val (.int (1 : Int32)), .val (.int w5), .val (.int x), .val (.int y), .val (.int z), .val (.ref ai), .val (.ref o), .val (.ref r1), .val (.int (1 : Int32)), .val (.ref h12.size)] [(.int (1 : Int32))]))
  refine OGo.by_ (fun t k => XS.ifNo X13.here hx rfl (hb hby at_151) rfl ((if0 _ _).trans (feq (by decide)).1) k) ?_
  show OGo p e below _ (T13.setTop (mkF m 154 #[.val (.int p1), .val (.int p2), .val (.int p3), .val (.int p4), .val (.int (1 : Int32)), .val (.int w5), .val (.int x), .val (.int y), .val (.int z), .val (.ref ai), .val (.ref o), .val (.ref r1), .val (.int (1 : Int32)), .val (.ref h12.size)] []))
  have Z7 : n0 ≤ T13.heap.size := Nat.le_trans Z6 K13.1
  refine OGo.by_ (fun t k => XS.aload X13.here hx rfl (hb hby at_154) rfl rfl k) ?_
  show OGo p e below _ (T13.setTop (mkF m 156 #[.val (.int p1), .val (.int p2), .val (.int p3), .val (.int p4), .val (.int (1 : Int32)), .val (.int w5), .val (.int x), .val (.int y), .val (.int z), .val (.ref ai), .val (.ref o), .val (.ref r1), .val (.int (1 : Int32)), .val (.ref h12.size)] [(.ref h12.size)]))
  refine OGo.by_ (fun t k => XS.iload X13.here hx rfl (hb hby at_156) rfl k) ?_
  show OGo p e below _ (T13.setTop (mkF m 158 #[.val (.int p1), .val (.int p2), .val (.int p3), .val (.int p4), .val (.int (1 : Int32)), .val (.int w5), .val (.int x), .val (.int y), .val (.int z), .val (.ref ai), .val (.ref o), .val (.ref r1), .val (.int (1 : Int32)), .val (.ref h12.size)] [(.int (1 : Int32)), (.ref h12.size)]))
  refine OGo.by_ (fun t k => XS.iload X13.here hx rfl (hb hby at_158) rfl k) ?_
  show OGo p e below _ (T13.setTop (mkF m 160 #[.val (.int p1), .val (.int p2), .val (.int p3), .val (.int p4), .val (.int (1 : Int32)), .val (.int w5), .val (.int x), .val (.int y), .val (.int z), .val (.ref ai), .val (.ref o), .val (.ref r1), .val (.int (1 : Int32)), .val (.ref h12.size)] [(.int x), (.int (1 : Int32)), (.ref h12.size)]))
  refine OGo.by_ (fun t k => XS.iload X13.here hx rfl (hb hby at_160) rfl k) ?_
  show OGo p e below _ (T13.setTop (mkF m 162 #[.val (.int p1), .val (.int p2), .val (.int p3), .val (.int p4), .val (.int (1 : Int32)), .val (.int w5), .val (.int x), .val (.int y), .val (.int z), .val (.ref ai), .val (.ref o), .val (.ref r1), .val (.int (1 : Int32)), .val (.ref h12.size)] [(.int y), (.int x), (.int (1 : Int32)), (.ref h12.size)]))
  refine OGo.by_ (fun t k => XS.iload X13.here hx rfl (hb hby at_162) rfl k) ?_
  show OGo p e below _ (T13.setTop (mkF m 164 #[.val (.int p1), .val (.int p2), .val (.int p3), .val (.int p4), .val (.int (1 : Int32)), .val (.int w5), .val (.int x), .val (.int y), .val (.int z), .val (.ref ai), .val (.ref o), .val (.ref r1), .val (.int (1 : Int32)), .val (.ref h12.size)] [(.int z), (.int y), (.int x), (.int (1 : Int32)), (.ref h12.size)]))
  obtain ⟨_, _, ⟨T15, L15, k15, n15⟩, -, X15, ⟨Lc15, hQ15, l15, y15, z15⟩, st15⟩ := Jvm.LawKit.callS X13 hx (y := (⟨"com/example/fair_witness/fairwitness/model/StateValueIndicesPinLaw", "same", "([IIIII)Z"⟩ : MethodName)) hown (mvT hZ (hw _ (List.mem_of_getElem? (i := 24) rfl))) (mvT hZ (hw _ (List.mem_of_getElem? (i := 25) rfl))) (mvT hZ (hw _ (List.mem_of_getElem? (i := 2) rfl))) (mvT hZ (hw _ (List.mem_of_getElem? (i := 26) rfl))) (by decide) (backOf (W := 0) (rm_sm1 l Z a0 hw [] h12.size kk13 x y z T13.heap n0 Z7 V13) hZ (hw _ (List.mem_of_getElem? (i := 26) rfl)) (hw _ (List.mem_of_getElem? (i := 2) rfl)) (by decide) (by decide)) (g := (mkF m 164 #[.val (.int p1), .val (.int p2), .val (.int p3), .val (.int p4), .val (.int (1 : Int32)), .val (.int w5), .val (.int x), .val (.int y), .val (.int z), .val (.ref ai), .val (.ref o), .val (.ref r1), .val (.int (1 : Int32)), .val (.ref h12.size)] [(.int z), (.int y), (.int x), (.int (1 : Int32)), (.ref h12.size)])) rfl (by rw [hml]; rfl) (argsL := [(.ref h12.size), (.int (1 : Int32)), (.int x), (.int y), (.int z)]) (rest := []) (lenOf pd_oAIIIIIcZ rfl) rfl (by show 2 * 0 + _ ≤ _; exact Nat.le_of_eq rfl) (hb hby at_164) (fun _ _ => ⟨rfl, rfl, (by decide : 5 + 0 ≤ _), (by decide : 14 + 0 ≤ _)⟩)
  dsimp only [Pt.U, Pt.locs, Pt.cells, Pt.slots] at X15 l15 y15 z15 st15 hQ15
  subst l15 y15 z15
  obtain ⟨rfl, Nq15, eq15⟩ := hQ15
  have N15 := Fr.app N13 Nq15
  refine OGo.by_ st15 ?_
  show OGo p e below _ (T15.setTop (mkF m 167 #[.val (.int p1), .val (.int p2), .val (.int p3), .val (.int p4), .val (.int (1 : Int32)), .val (.int w5), .val (.int x), .val (.int y), .val (.int z), .val (.ref ai), .val (.ref o), .val (.ref r1), .val (.int (1 : Int32)), .val (.ref h12.size)] [(.int (1 : Int32))]))
  refine OGo.by_ (fun t k => XS.ifNo X15.here hx rfl (hb hby at_167) rfl ((if0 _ _).trans (feq (by decide)).1) k) ?_
  show OGo p e below _ (T15.setTop (mkF m 170 #[.val (.int p1), .val (.int p2), .val (.int p3), .val (.int p4), .val (.int (1 : Int32)), .val (.int w5), .val (.int x), .val (.int y), .val (.int z), .val (.ref ai), .val (.ref o), .val (.ref r1), .val (.int (1 : Int32)), .val (.ref h12.size)] []))
  refine OGo.by_ (fun t k => XS.iconst X15.here hx rfl (hb hby at_170) k) ?_
  show OGo p e below _ (T15.setTop (mkF m 171 #[.val (.int p1), .val (.int p2), .val (.int p3), .val (.int p4), .val (.int (1 : Int32)), .val (.int w5), .val (.int x), .val (.int y), .val (.int z), .val (.ref ai), .val (.ref o), .val (.ref r1), .val (.int (1 : Int32)), .val (.ref h12.size)] [(.int (1 : Int32))]))
  refine OGo.by_ (fun t k => XS.goto X15.here hx rfl (pc0 := 171) (pc' := 175) rfl (hb hby at_171) (by decide) (by decide) k) ?_
  show OGo p e below _ (T15.setTop (mkF m 175 #[.val (.int p1), .val (.int p2), .val (.int p3), .val (.int p4), .val (.int (1 : Int32)), .val (.int w5), .val (.int x), .val (.int y), .val (.int z), .val (.ref ai), .val (.ref o), .val (.ref r1), .val (.int (1 : Int32)), .val (.ref h12.size)] [(.int (1 : Int32))]))
  exact own_retN X15 hx hlk (t := .boolean) hret (by simp) (hb hby at_175) (by decide) (by decide) (⟨rfl, N15⟩)
set_option maxRecDepth 65536 in
set_option maxHeartbeats 40000000 in
theorem sg_n2 {p : Program} {l : Launch} {e : Env} {s : State} {m : MethodId} {args : Array Value} {below : List Frame} {meth : Method} {c : Code} {T0 : State} {locs : List Loc} {Z : State} {a0 : Array Value} {h0 : Heap} {n0 : Nat} {p1 p2 p3 p4 w5 x y z : Int32}
    (X0 : Stand p l e room_1 s m args below meth c T0 locs 0 0) (hx : p.tables.exec = Jvm.exec) (hZ : Z.Warmed39 s.vm) (hw : ∀ d ∈ tables_1, d.before a0 Z = true) (hby : c.code = code) (hml : c.maxLocals = 14) (hown : s.vm.findClass "com/example/fair_witness/fairwitness/model/StateValueIndicesPinLaw" = some m.cls) (hnm : meth.name = "law") (hlk : meth.locks = false) (hret : meth.sig.returnType = some .boolean) (e0 : T0.heap = h0) (N0 : Fr n0 locs) (Z0 : n0 ≤ h0.size)  :
    OGo p e below (OEnd s (fun v h L => v = some (.int 1) ∧ Fr n0 L) room_1.cells room_1.slots) (T0.setTop (mkF m 66 #[.val (.int p1), .val (.int p2), .val (.int p3), .val (.int p4), .val (.int (2 : Int32)), .val (.int w5), .val (.int x), .val (.int y), .val (.int z), .unset, .unset, .unset, .unset, .unset] [])) := by
  refine OGo.by_ (fun t k => XS.iload X0.here hx rfl (hb hby at_66) rfl k) ?_
  show OGo p e below _ (T0.setTop (mkF m 68 #[.val (.int p1), .val (.int p2), .val (.int p3), .val (.int p4), .val (.int (2 : Int32)), .val (.int w5), .val (.int x), .val (.int y), .val (.int z), .unset, .unset, .unset, .unset, .unset] [(.int (2 : Int32))]))
  refine OGo.by_ (fun t k => XS.iload X0.here hx rfl (hb hby at_68) rfl k) ?_
  show OGo p e below _ (T0.setTop (mkF m 70 #[.val (.int p1), .val (.int p2), .val (.int p3), .val (.int p4), .val (.int (2 : Int32)), .val (.int w5), .val (.int x), .val (.int y), .val (.int z), .unset, .unset, .unset, .unset, .unset] [(.int x), (.int (2 : Int32))]))
  refine OGo.by_ (fun t k => XS.iload X0.here hx rfl (hb hby at_70) rfl k) ?_
  show OGo p e below _ (T0.setTop (mkF m 72 #[.val (.int p1), .val (.int p2), .val (.int p3), .val (.int p4), .val (.int (2 : Int32)), .val (.int w5), .val (.int x), .val (.int y), .val (.int z), .unset, .unset, .unset, .unset, .unset] [(.int y), (.int x), (.int (2 : Int32))]))
  refine OGo.by_ (fun t k => XS.iload X0.here hx rfl (hb hby at_72) rfl k) ?_
  show OGo p e below _ (T0.setTop (mkF m 74 #[.val (.int p1), .val (.int p2), .val (.int p3), .val (.int p4), .val (.int (2 : Int32)), .val (.int w5), .val (.int x), .val (.int y), .val (.int z), .unset, .unset, .unset, .unset, .unset] [(.int z), (.int y), (.int x), (.int (2 : Int32))]))
  obtain ⟨_, _, ⟨T1, L1, k1, n1⟩, -, X1, ⟨Lc1, hQ1, l1, y1, z1⟩, st1⟩ := Jvm.LawKit.callS X0 hx (y := (⟨"com/example/fair_witness/fairwitness/model/StateValueIndicesPinLaw", "make", "(IIII)[I"⟩ : MethodName)) hown (mvT hZ (hw _ (List.mem_of_getElem? (i := 0) rfl))) (mvT hZ (hw _ (List.mem_of_getElem? (i := 1) rfl))) (mvT hZ (hw _ (List.mem_of_getElem? (i := 2) rfl))) (mvT hZ (hw _ (List.mem_of_getElem? (i := 3) rfl))) (by decide) (backOf (W := 0) (rm_mk2 l Z a0 hw [] x y z h0 n0 Z0) hZ (hw _ (List.mem_of_getElem? (i := 3) rfl)) (hw _ (List.mem_of_getElem? (i := 2) rfl)) (by decide) (by decide)) (g := (mkF m 74 #[.val (.int p1), .val (.int p2), .val (.int p3), .val (.int p4), .val (.int (2 : Int32)), .val (.int w5), .val (.int x), .val (.int y), .val (.int z), .unset, .unset, .unset, .unset, .unset] [(.int z), (.int y), (.int x), (.int (2 : Int32))])) rfl (by rw [hml]; rfl) (argsL := [(.int (2 : Int32)), (.int x), (.int y), (.int z)]) (rest := []) (lenOf pd_oIIIIcAI rfl) rfl (by show 2 * 0 + _ ≤ _; exact Nat.le_of_eq rfl) (hb hby at_74) (fun _ _ => ⟨rfl, e0, (by decide : 0 + 1 ≤ _), (by decide : 0 + 3 ≤ _)⟩)
  dsimp only [Pt.U, Pt.locs, Pt.cells, Pt.slots] at X1 l1 y1 z1 st1 hQ1
  subst l1 y1 z1
  obtain ⟨rfl, Nq1, K1, E1, kk1, V1⟩ := hQ1
  have N1 := Fr.app N0 Nq1
  refine OGo.by_ st1 ?_
  show OGo p e below _ (T1.setTop (mkF m 77 #[.val (.int p1), .val (.int p2), .val (.int p3), .val (.int p4), .val (.int (2 : Int32)), .val (.int w5), .val (.int x), .val (.int y), .val (.int z), .unset, .unset, .unset, .unset, .unset] [(.ref h0.size)]))
  obtain ⟨ai, g_ai⟩ : ∃ q, q = h0.size := ⟨_, rfl⟩
  rw [← g_ai] at E1 V1
  rw [← g_ai]
  show OGo p e below _ (T1.setTop (mkF m 77 #[.val (.int p1), .val (.int p2), .val (.int p3), .val (.int p4), .val (.int (2 : Int32)), .val (.int w5), .val (.int x), .val (.int y), .val (.int z), .unset, .unset, .unset, .unset, .unset] [(.ref ai)]))
  have Z1 : n0 ≤ T1.heap.size := Nat.le_trans Z0 K1.1
  have lai : T1.heap.size > ai := V1.lt
  refine OGo.by_ (fun t k => XS.astore X1.here hx rfl (hb hby at_77) rfl rfl (l' := #[.val (.int p1), .val (.int p2), .val (.int p3), .val (.int p4), .val (.int (2 : Int32)), .val (.int w5), .val (.int x), .val (.int y), .val (.int z), .val (.ref ai), .unset, .unset, .unset, .unset]) rfl k) ?_
  show OGo p e below _ (T1.setTop (mkF m 79 #[.val (.int p1), .val (.int p2), .val (.int p3), .val (.int p4), .val (.int (2 : Int32)), .val (.int w5), .val (.int x), .val (.int y), .val (.int z), .val (.ref ai), .unset, .unset, .unset, .unset] []))
  obtain ⟨T2, h2, X2, e2, E2, A2, Dv2, -, st2⟩ := newO X1 hx hZ hown (hw _ (List.mem_of_getElem? (i := 5) rfl)) (hw _ (List.mem_of_getElem? (i := 6) rfl)) (hw _ (List.mem_of_getElem? (i := 7) rfl)) rfl (g := (mkF m 79 #[.val (.int p1), .val (.int p2), .val (.int p3), .val (.int p4), .val (.int (2 : Int32)), .val (.int w5), .val (.int x), .val (.int y), .val (.int z), .val (.ref ai), .unset, .unset, .unset, .unset] [])) rfl (hb hby at_79) (by decide) (by decide)
  obtain ⟨o, g_o⟩ : ∃ z, z = T1.heap.size := ⟨_, rfl⟩
  rw [← g_o] at A2 Dv2 st2
  have A_o := A2
  have lt_o := own_lt A2.lt
  have F_smallIndices_o : Fld Z h2 o "com/example/fair_witness/fairwitness/model/State" "smallIndices" "[B" .null := Dv2 (Or.inr (hw _ (List.mem_of_getElem? (i := 16) rfl))) (ty := (.array .byte)) (by decide)
  have F_valueIndices_o : Fld Z h2 o "com/example/fair_witness/fairwitness/model/State" "valueIndices" "[I" .null := Dv2 (Or.inr (hw _ (List.mem_of_getElem? (i := 18) rfl))) (ty := (.array .int)) (by decide)
  refine OGo.by_ st2 ?_
  show OGo p e below _ (T2.setTop (mkF m 82 #[.val (.int p1), .val (.int p2), .val (.int p3), .val (.int p4), .val (.int (2 : Int32)), .val (.int w5), .val (.int x), .val (.int y), .val (.int z), .val (.ref ai), .unset, .unset, .unset, .unset] [(.ref o)]))
  have Z2 : n0 ≤ h2.size := Nat.le_trans Z1 E2.1
  have go : n0 ≤ o := by omega
  have hio : ai ≠ o := own_ne (by omega)
  have gai : n0 ≤ ai := by omega
  refine OGo.by_ (fun t k => XS.dup X2.here hx rfl (hb hby at_82) rfl rfl k) ?_
  show OGo p e below _ (T2.setTop (mkF m 83 #[.val (.int p1), .val (.int p2), .val (.int p3), .val (.int p4), .val (.int (2 : Int32)), .val (.int w5), .val (.int x), .val (.int y), .val (.int z), .val (.ref ai), .unset, .unset, .unset, .unset] [(.ref o), (.ref o)]))
  refine OGo.by_ (fun t k => XS.aload X2.here hx rfl (hb hby at_83) rfl rfl k) ?_
  show OGo p e below _ (T2.setTop (mkF m 85 #[.val (.int p1), .val (.int p2), .val (.int p3), .val (.int p4), .val (.int (2 : Int32)), .val (.int w5), .val (.int x), .val (.int y), .val (.int z), .val (.ref ai), .unset, .unset, .unset, .unset] [(.ref ai), (.ref o), (.ref o)]))
  obtain ⟨_, _, ⟨T3, L3, k3, n3⟩, -, X3, ⟨Lc3, hQ3, l3, y3, z3⟩, st3⟩ := X2.specialBack hx (y := (⟨"com/example/fair_witness/fairwitness/model/State", "<init>", "([I)V"⟩ : MethodName)) rfl hown (mvT hZ (hw _ (List.mem_of_getElem? (i := 8) rfl))) (mvT hZ (hw _ (List.mem_of_getElem? (i := 9) rfl))) (mvT hZ (hw _ (List.mem_of_getElem? (i := 10) rfl))) (by decide) (backOf (W := 1) (rm_ini2 l Z a0 hw [] o ai kk1 x y z h2 n0 Z2 go A_o F_smallIndices_o F_valueIndices_o (E1.ext E2) (V1.ext E2) hio) hZ (hw _ (List.mem_of_getElem? (i := 10) rfl)) (hw _ (List.mem_of_getElem? (i := 7) rfl)) (by decide) (by decide)) (g := (mkF m 85 #[.val (.int p1), .val (.int p2), .val (.int p3), .val (.int p4), .val (.int (2 : Int32)), .val (.int w5), .val (.int x), .val (.int y), .val (.int z), .val (.ref ai), .unset, .unset, .unset, .unset] [(.ref ai), (.ref o), (.ref o)])) rfl (by rw [hml]; rfl) (Steps.refl _) (a := o) (argsL := [(.ref ai)]) (rest := [(.ref o)]) (lenOf pd_oAIcV rfl) rfl (by show 2 * 0 + _ ≤ _; exact Nat.le_of_eq rfl) (hb hby at_85) (fun _ _ => ⟨rfl, e2, (by decide : 2 + 1 ≤ _), (by decide : 5 + 3 ≤ _)⟩)
  dsimp only [Pt.U, Pt.locs, Pt.cells, Pt.slots] at X3 l3 y3 z3 st3 hQ3
  subst l3 y3 z3
  obtain ⟨rfl, Nq3, K3, b, gb, ST3⟩ := hQ3
  have N3 := Fr.app N1 Nq3
  refine OGo.by_ (fun t k => st3.trans k) ?_
  show OGo p e below _ (T3.setTop (mkF m 88 #[.val (.int p1), .val (.int p2), .val (.int p3), .val (.int p4), .val (.int (2 : Int32)), .val (.int w5), .val (.int x), .val (.int y), .val (.int z), .val (.ref ai), .unset, .unset, .unset, .unset] [(.ref o)]))
  have Z3 : n0 ≤ T3.heap.size := Nat.le_trans Z2 K3.1
  have lst := own_ST_lt ST3
  have Vi := (V1.ext E2).keep K3 (own_nin1 hio)
  have hE2 := E2.1
  have lai2 : h2.size > ai := (V1.ext E2).lt
  refine OGo.by_ (fun t k => XS.astore X3.here hx rfl (hb hby at_88) rfl rfl (l' := #[.val (.int p1), .val (.int p2), .val (.int p3), .val (.int p4), .val (.int (2 : Int32)), .val (.int w5), .val (.int x), .val (.int y), .val (.int z), .val (.ref ai), .val (.ref o), .unset, .unset, .unset]) rfl k) ?_
  show OGo p e below _ (T3.setTop (mkF m 90 #[.val (.int p1), .val (.int p2), .val (.int p3), .val (.int p4), .val (.int (2 : Int32)), .val (.int w5), .val (.int x), .val (.int y), .val (.int z), .val (.ref ai), .val (.ref o), .unset, .unset, .unset] []))
  refine OGo.by_ (fun t k => XS.iload X3.here hx rfl (hb hby at_90) rfl k) ?_
  show OGo p e below _ (T3.setTop (mkF m 92 #[.val (.int p1), .val (.int p2), .val (.int p3), .val (.int p4), .val (.int (2 : Int32)), .val (.int w5), .val (.int x), .val (.int y), .val (.int z), .val (.ref ai), .val (.ref o), .unset, .unset, .unset] [(.int (2 : Int32))]))
  refine OGo.by_ (fun t k => XS.ifNo X3.here hx rfl (hb hby at_92) rfl ((if0 _ _).trans (tlt (by decide)).2.2.2) k) ?_
  show OGo p e below _ (T3.setTop (mkF m 95 #[.val (.int p1), .val (.int p2), .val (.int p3), .val (.int p4), .val (.int (2 : Int32)), .val (.int w5), .val (.int x), .val (.int y), .val (.int z), .val (.ref ai), .val (.ref o), .unset, .unset, .unset] []))
  refine OGo.by_ (fun t k => XS.aload X3.here hx rfl (hb hby at_95) rfl rfl k) ?_
  show OGo p e below _ (T3.setTop (mkF m 97 #[.val (.int p1), .val (.int p2), .val (.int p3), .val (.int p4), .val (.int (2 : Int32)), .val (.int w5), .val (.int x), .val (.int y), .val (.int z), .val (.ref ai), .val (.ref o), .unset, .unset, .unset] [(.ref ai)]))
  refine OGo.by_ (fun t k => XS.iconst X3.here hx rfl (hb hby at_97) k) ?_
  show OGo p e below _ (T3.setTop (mkF m 98 #[.val (.int p1), .val (.int p2), .val (.int p3), .val (.int p4), .val (.int (2 : Int32)), .val (.int w5), .val (.int x), .val (.int y), .val (.int z), .val (.ref ai), .val (.ref o), .unset, .unset, .unset] [(.int (0 : Int32)), (.ref ai)]))
  refine OGo.by_ (fun t k => XS.aload X3.here hx rfl (hb hby at_98) rfl rfl k) ?_
  show OGo p e below _ (T3.setTop (mkF m 100 #[.val (.int p1), .val (.int p2), .val (.int p3), .val (.int p4), .val (.int (2 : Int32)), .val (.int w5), .val (.int x), .val (.int y), .val (.int z), .val (.ref ai), .val (.ref o), .unset, .unset, .unset] [(.ref ai), (.int (0 : Int32)), (.ref ai)]))
  refine OGo.by_ (fun t k => XS.iconst X3.here hx rfl (hb hby at_100) k) ?_
  show OGo p e below _ (T3.setTop (mkF m 101 #[.val (.int p1), .val (.int p2), .val (.int p3), .val (.int p4), .val (.int (2 : Int32)), .val (.int w5), .val (.int x), .val (.int y), .val (.int z), .val (.ref ai), .val (.ref o), .unset, .unset, .unset] [(.int (0 : Int32)), (.ref ai), (.int (0 : Int32)), (.ref ai)]))
  obtain ⟨cl4, Ar4, q4, S4, Nn4, H4, G4⟩ := id Vi
  have in4 := inb_of S4 ⟨(by decide : ¬ (0 : Int32) < 0), (by decide : (0 : Int32) < (2 : Int32))⟩
  refine OGo.by_ (fun t kk => X3.iaload hx (j := (0 : Int32)) (v := (.int x)) (by exact Ar4.1) (State.isArrayOf_alike hZ.alike Ar4.2.1) Ar4.2.2 in4 (H4.at in4 (rfl)) (g := (mkF m 101 #[.val (.int p1), .val (.int p2), .val (.int p3), .val (.int p4), .val (.int (2 : Int32)), .val (.int w5), .val (.int x), .val (.int y), .val (.int z), .val (.ref ai), .val (.ref o), .unset, .unset, .unset] [(.int (0 : Int32)), (.ref ai), (.int (0 : Int32)), (.ref ai)])) rfl rfl (hb hby at_101) _ kk) ?_
  show OGo p e below _ (T3.setTop (mkF m 102 #[.val (.int p1), .val (.int p2), .val (.int p3), .val (.int p4), .val (.int (2 : Int32)), .val (.int w5), .val (.int x), .val (.int y), .val (.int z), .val (.ref ai), .val (.ref o), .unset, .unset, .unset] [(.int x), (.int (0 : Int32)), (.ref ai)]))
  refine OGo.by_ (fun t k => XS.iconst X3.here hx rfl (hb hby at_102) k) ?_
  show OGo p e below _ (T3.setTop (mkF m 103 #[.val (.int p1), .val (.int p2), .val (.int p3), .val (.int p4), .val (.int (2 : Int32)), .val (.int w5), .val (.int x), .val (.int y), .val (.int z), .val (.ref ai), .val (.ref o), .unset, .unset, .unset] [(.int (1 : Int32)), (.int x), (.int (0 : Int32)), (.ref ai)]))
  refine OGo.by_ (fun t k => XS.ixor X3.here hx rfl (hb hby at_103) rfl k) ?_
  show OGo p e below _ (T3.setTop (mkF m 104 #[.val (.int p1), .val (.int p2), .val (.int p3), .val (.int p4), .val (.int (2 : Int32)), .val (.int w5), .val (.int x), .val (.int y), .val (.int z), .val (.ref ai), .val (.ref o), .unset, .unset, .unset] [(.int (x ^^^ (1 : Int32))), (.int (0 : Int32)), (.ref ai)]))
  obtain ⟨cl5, Ar5, q5, S5, Nn5, H5, G5⟩ := id Vi
  obtain ⟨T6, h6, X6, e6, W6, st6⟩ := stI X3 hx hZ rfl Ar5 (j := (0 : Int32)) (inb_of S5 ⟨(by decide : ¬ (0 : Int32) < 0), (by decide : (0 : Int32) < (2 : Int32))⟩) (g := (mkF m 104 #[.val (.int p1), .val (.int p2), .val (.int p3), .val (.int p4), .val (.int (2 : Int32)), .val (.int w5), .val (.int x), .val (.int y), .val (.int z), .val (.ref ai), .val (.ref o), .unset, .unset, .unset] [(.int (x ^^^ (1 : Int32))), (.int (0 : Int32)), (.ref ai)])) rfl rfl (hb hby at_104)
  refine OGo.by_ st6 ?_
  show OGo p e below _ (T6.setTop (mkF m 105 #[.val (.int p1), .val (.int p2), .val (.int p3), .val (.int p4), .val (.int (2 : Int32)), .val (.int w5), .val (.int x), .val (.int y), .val (.int z), .val (.ref ai), .val (.ref o), .unset, .unset, .unset] []))
  have N6 := Fr.snoc X6 N3 gai
  have STb := own_ST_keep ST3 (Keep.of_wr W6) (own_nin1 (own_ne' (by omega))) (own_nin1 (own_ne' (by omega)))
  have Z4 : n0 ≤ h6.size := by rw [W6.size]; exact Z3
  have lstb := own_ST_lt STb
  refine OGo.by_ (fun t k => XS.aload X6.here hx rfl (hb hby at_105) rfl rfl k) ?_
  show OGo p e below _ (T6.setTop (mkF m 107 #[.val (.int p1), .val (.int p2), .val (.int p3), .val (.int p4), .val (.int (2 : Int32)), .val (.int w5), .val (.int x), .val (.int y), .val (.int z), .val (.ref ai), .val (.ref o), .unset, .unset, .unset] [(.ref o)]))
  obtain ⟨cq8, kq8, qa8, qb8, qc8⟩ := isOf hZ e6 STb.1
  obtain ⟨_, _, ⟨T7, L7, k7, n7⟩, -, X7, ⟨Lc7, hQ7, l7, y7, z7⟩, st7⟩ := X6.virtualBack hx (y := (⟨"com/example/fair_witness/fairwitness/model/State", "valueIndices", "()[I"⟩ : MethodName)) (z := (⟨"com/example/fair_witness/fairwitness/model/State", "valueIndices", "()[I"⟩ : MethodName)) hown (mvT hZ (hw _ (List.mem_of_getElem? (i := 19) rfl))) (mvT hZ (hw _ (List.mem_of_getElem? (i := 20) rfl))) (notFace_of_selects (args := #[]) (mvT hZ (hw _ (List.mem_of_getElem? (i := 22) rfl)))) (mvT hZ (hw _ (List.mem_of_getElem? (i := 22) rfl))) (mvT hZ (hw _ (List.mem_of_getElem? (i := 21) rfl))) (by decide) (backOf (W := 0) (rm_vi2 l Z a0 hw [] o b x y z h6 n0 Z4 STb) hZ (hw _ (List.mem_of_getElem? (i := 23) rfl)) (hw _ (List.mem_of_getElem? (i := 7) rfl)) (by decide) (by decide)) qa8 qc8 (g := (mkF m 107 #[.val (.int p1), .val (.int p2), .val (.int p3), .val (.int p4), .val (.int (2 : Int32)), .val (.int w5), .val (.int x), .val (.int y), .val (.int z), .val (.ref ai), .val (.ref o), .unset, .unset, .unset] [(.ref o)])) rfl (by rw [hml]; rfl) (Steps.refl _) (argsL := []) (rest := []) (lenOf pd_ocAI rfl) rfl (by show 2 * 0 + _ ≤ _; exact Nat.le_of_eq rfl) (hb hby at_107) (fun _ _ => ⟨rfl, e6, (by decide : 3 + 1 ≤ _), (by decide : 8 + 3 ≤ _)⟩)
  dsimp only [Pt.U, Pt.locs, Pt.cells, Pt.slots] at X7 l7 y7 z7 st7 hQ7
  subst l7 y7 z7
  obtain ⟨rfl, Nq7, K7, kk7, V7⟩ := hQ7
  have N7 := Fr.app N6 Nq7
  refine OGo.by_ (fun t k => st7.trans k) ?_
  show OGo p e below _ (T7.setTop (mkF m 110 #[.val (.int p1), .val (.int p2), .val (.int p3), .val (.int p4), .val (.int (2 : Int32)), .val (.int w5), .val (.int x), .val (.int y), .val (.int z), .val (.ref ai), .val (.ref o), .unset, .unset, .unset] [(.ref h6.size)]))
  obtain ⟨r1, g_r1⟩ : ∃ q, q = h6.size := ⟨_, rfl⟩
  rw [← g_r1] at V7
  rw [← g_r1]
  show OGo p e below _ (T7.setTop (mkF m 110 #[.val (.int p1), .val (.int p2), .val (.int p3), .val (.int p4), .val (.int (2 : Int32)), .val (.int w5), .val (.int x), .val (.int y), .val (.int z), .val (.ref ai), .val (.ref o), .unset, .unset, .unset] [(.ref r1)]))
  have Z5 : n0 ≤ T7.heap.size := Nat.le_trans Z4 K7.1
  have ST5 := own_ST_keep STb K7 nin0 nin0
  have gr1 : n0 ≤ r1 := by omega
  refine OGo.by_ (fun t k => XS.astore X7.here hx rfl (hb hby at_110) rfl rfl (l' := #[.val (.int p1), .val (.int p2), .val (.int p3), .val (.int p4), .val (.int (2 : Int32)), .val (.int w5), .val (.int x), .val (.int y), .val (.int z), .val (.ref ai), .val (.ref o), .val (.ref r1), .unset, .unset]) rfl k) ?_
  show OGo p e below _ (T7.setTop (mkF m 112 #[.val (.int p1), .val (.int p2), .val (.int p3), .val (.int p4), .val (.int (2 : Int32)), .val (.int w5), .val (.int x), .val (.int y), .val (.int z), .val (.ref ai), .val (.ref o), .val (.ref r1), .unset, .unset] []))
  refine OGo.by_ (fun t k => XS.aload X7.here hx rfl (hb hby at_112) rfl rfl k) ?_
  show OGo p e below _ (T7.setTop (mkF m 114 #[.val (.int p1), .val (.int p2), .val (.int p3), .val (.int p4), .val (.int (2 : Int32)), .val (.int w5), .val (.int x), .val (.int y), .val (.int z), .val (.ref ai), .val (.ref o), .val (.ref r1), .unset, .unset] [(.ref r1)]))
  refine OGo.by_ (fun t k => XS.iload X7.here hx rfl (hb hby at_114) rfl k) ?_
  show OGo p e below _ (T7.setTop (mkF m 116 #[.val (.int p1), .val (.int p2), .val (.int p3), .val (.int p4), .val (.int (2 : Int32)), .val (.int w5), .val (.int x), .val (.int y), .val (.int z), .val (.ref ai), .val (.ref o), .val (.ref r1), .unset, .unset] [(.int (2 : Int32)), (.ref r1)]))
  refine OGo.by_ (fun t k => XS.iload X7.here hx rfl (hb hby at_116) rfl k) ?_
  show OGo p e below _ (T7.setTop (mkF m 118 #[.val (.int p1), .val (.int p2), .val (.int p3), .val (.int p4), .val (.int (2 : Int32)), .val (.int w5), .val (.int x), .val (.int y), .val (.int z), .val (.ref ai), .val (.ref o), .val (.ref r1), .unset, .unset] [(.int x), (.int (2 : Int32)), (.ref r1)]))
  refine OGo.by_ (fun t k => XS.iload X7.here hx rfl (hb hby at_118) rfl k) ?_
  show OGo p e below _ (T7.setTop (mkF m 120 #[.val (.int p1), .val (.int p2), .val (.int p3), .val (.int p4), .val (.int (2 : Int32)), .val (.int w5), .val (.int x), .val (.int y), .val (.int z), .val (.ref ai), .val (.ref o), .val (.ref r1), .unset, .unset] [(.int y), (.int x), (.int (2 : Int32)), (.ref r1)]))
  refine OGo.by_ (fun t k => XS.iload X7.here hx rfl (hb hby at_120) rfl k) ?_
  show OGo p e below _ (T7.setTop (mkF m 122 #[.val (.int p1), .val (.int p2), .val (.int p3), .val (.int p4), .val (.int (2 : Int32)), .val (.int w5), .val (.int x), .val (.int y), .val (.int z), .val (.ref ai), .val (.ref o), .val (.ref r1), .unset, .unset] [(.int z), (.int y), (.int x), (.int (2 : Int32)), (.ref r1)]))
  obtain ⟨_, _, ⟨T9, L9, k9, n9⟩, -, X9, ⟨Lc9, hQ9, l9, y9, z9⟩, st9⟩ := Jvm.LawKit.callS X7 hx (y := (⟨"com/example/fair_witness/fairwitness/model/StateValueIndicesPinLaw", "same", "([IIIII)Z"⟩ : MethodName)) hown (mvT hZ (hw _ (List.mem_of_getElem? (i := 24) rfl))) (mvT hZ (hw _ (List.mem_of_getElem? (i := 25) rfl))) (mvT hZ (hw _ (List.mem_of_getElem? (i := 2) rfl))) (mvT hZ (hw _ (List.mem_of_getElem? (i := 26) rfl))) (by decide) (backOf (W := 0) (rm_sm2 l Z a0 hw [] r1 kk7 x y z T7.heap n0 Z5 V7) hZ (hw _ (List.mem_of_getElem? (i := 26) rfl)) (hw _ (List.mem_of_getElem? (i := 2) rfl)) (by decide) (by decide)) (g := (mkF m 122 #[.val (.int p1), .val (.int p2), .val (.int p3), .val (.int p4), .val (.int (2 : Int32)), .val (.int w5), .val (.int x), .val (.int y), .val (.int z), .val (.ref ai), .val (.ref o), .val (.ref r1), .unset, .unset] [(.int z), (.int y), (.int x), (.int (2 : Int32)), (.ref r1)])) rfl (by rw [hml]; rfl) (argsL := [(.ref r1), (.int (2 : Int32)), (.int x), (.int y), (.int z)]) (rest := []) (lenOf pd_oAIIIIIcZ rfl) rfl (by show 2 * 0 + _ ≤ _; exact Nat.le_of_eq rfl) (hb hby at_122) (fun _ _ => ⟨rfl, rfl, (by decide : 4 + 0 ≤ _), (by decide : 11 + 0 ≤ _)⟩)
  dsimp only [Pt.U, Pt.locs, Pt.cells, Pt.slots] at X9 l9 y9 z9 st9 hQ9
  subst l9 y9 z9
  obtain ⟨rfl, Nq9, eq9⟩ := hQ9
  have N9 := Fr.app N7 Nq9
  refine OGo.by_ st9 ?_
  show OGo p e below _ (T9.setTop (mkF m 125 #[.val (.int p1), .val (.int p2), .val (.int p3), .val (.int p4), .val (.int (2 : Int32)), .val (.int w5), .val (.int x), .val (.int y), .val (.int z), .val (.ref ai), .val (.ref o), .val (.ref r1), .unset, .unset] [(.int (1 : Int32))]))
  refine OGo.by_ (fun t k => XS.istore X9.here hx rfl (hb hby at_125) rfl (l' := #[.val (.int p1), .val (.int p2), .val (.int p3), .val (.int p4), .val (.int (2 : Int32)), .val (.int w5), .val (.int x), .val (.int y), .val (.int z), .val (.ref ai), .val (.ref o), .val (.ref r1), .val (.int (1 : Int32)), .unset]) rfl k) ?_
  show OGo p e below _ (T9.setTop (mkF m 127 #[.val (.int p1), .val (.int p2), .val (.int p3), .val (.int p4), .val (.int (2 : Int32)), .val (.int w5), .val (.int x), .val (.int y), .val (.int z), .val (.ref ai), .val (.ref o), .val (.ref r1), .val (.int (1 : Int32)), .unset] []))
  refine OGo.by_ (fun t k => XS.iload X9.here hx rfl (hb hby at_127) rfl k) ?_
  show OGo p e below _ (T9.setTop (mkF m 129 #[.val (.int p1), .val (.int p2), .val (.int p3), .val (.int p4), .val (.int (2 : Int32)), .val (.int w5), .val (.int x), .val (.int y), .val (.int z), .val (.ref ai), .val (.ref o), .val (.ref r1), .val (.int (1 : Int32)), .unset] [(.int (2 : Int32))]))
  refine OGo.by_ (fun t k => XS.ifNo X9.here hx rfl (hb hby at_129) rfl ((if0 _ _).trans (tlt (by decide)).2.2.2) k) ?_
  show OGo p e below _ (T9.setTop (mkF m 132 #[.val (.int p1), .val (.int p2), .val (.int p3), .val (.int p4), .val (.int (2 : Int32)), .val (.int w5), .val (.int x), .val (.int y), .val (.int z), .val (.ref ai), .val (.ref o), .val (.ref r1), .val (.int (1 : Int32)), .unset] []))
  refine OGo.by_ (fun t k => XS.aload X9.here hx rfl (hb hby at_132) rfl rfl k) ?_
  show OGo p e below _ (T9.setTop (mkF m 134 #[.val (.int p1), .val (.int p2), .val (.int p3), .val (.int p4), .val (.int (2 : Int32)), .val (.int w5), .val (.int x), .val (.int y), .val (.int z), .val (.ref ai), .val (.ref o), .val (.ref r1), .val (.int (1 : Int32)), .unset] [(.ref r1)]))
  refine OGo.by_ (fun t k => XS.iconst X9.here hx rfl (hb hby at_134) k) ?_
  show OGo p e below _ (T9.setTop (mkF m 135 #[.val (.int p1), .val (.int p2), .val (.int p3), .val (.int p4), .val (.int (2 : Int32)), .val (.int w5), .val (.int x), .val (.int y), .val (.int z), .val (.ref ai), .val (.ref o), .val (.ref r1), .val (.int (1 : Int32)), .unset] [(.int (0 : Int32)), (.ref r1)]))
  refine OGo.by_ (fun t k => XS.aload X9.here hx rfl (hb hby at_135) rfl rfl k) ?_
  show OGo p e below _ (T9.setTop (mkF m 137 #[.val (.int p1), .val (.int p2), .val (.int p3), .val (.int p4), .val (.int (2 : Int32)), .val (.int w5), .val (.int x), .val (.int y), .val (.int z), .val (.ref ai), .val (.ref o), .val (.ref r1), .val (.int (1 : Int32)), .unset] [(.ref r1), (.int (0 : Int32)), (.ref r1)]))
  refine OGo.by_ (fun t k => XS.iconst X9.here hx rfl (hb hby at_137) k) ?_
  show OGo p e below _ (T9.setTop (mkF m 138 #[.val (.int p1), .val (.int p2), .val (.int p3), .val (.int p4), .val (.int (2 : Int32)), .val (.int w5), .val (.int x), .val (.int y), .val (.int z), .val (.ref ai), .val (.ref o), .val (.ref r1), .val (.int (1 : Int32)), .unset] [(.int (0 : Int32)), (.ref r1), (.int (0 : Int32)), (.ref r1)]))
  obtain ⟨cl10, Ar10, q10, S10, Nn10, H10, G10⟩ := id V7
  have in10 := inb_of S10 ⟨(by decide : ¬ (0 : Int32) < 0), (by decide : (0 : Int32) < (2 : Int32))⟩
  refine OGo.by_ (fun t kk => X9.iaload hx (j := (0 : Int32)) (v := (.int x)) (by rw [eq9]; exact Ar10.1) (State.isArrayOf_alike hZ.alike Ar10.2.1) Ar10.2.2 in10 (H10.at in10 (rfl)) (g := (mkF m 138 #[.val (.int p1), .val (.int p2), .val (.int p3), .val (.int p4), .val (.int (2 : Int32)), .val (.int w5), .val (.int x), .val (.int y), .val (.int z), .val (.ref ai), .val (.ref o), .val (.ref r1), .val (.int (1 : Int32)), .unset] [(.int (0 : Int32)), (.ref r1), (.int (0 : Int32)), (.ref r1)])) rfl rfl (hb hby at_138) _ kk) ?_
  show OGo p e below _ (T9.setTop (mkF m 139 #[.val (.int p1), .val (.int p2), .val (.int p3), .val (.int p4), .val (.int (2 : Int32)), .val (.int w5), .val (.int x), .val (.int y), .val (.int z), .val (.ref ai), .val (.ref o), .val (.ref r1), .val (.int (1 : Int32)), .unset] [(.int x), (.int (0 : Int32)), (.ref r1)]))
  refine OGo.by_ (fun t k => XS.iconst X9.here hx rfl (hb hby at_139) k) ?_
  show OGo p e below _ (T9.setTop (mkF m 140 #[.val (.int p1), .val (.int p2), .val (.int p3), .val (.int p4), .val (.int (2 : Int32)), .val (.int w5), .val (.int x), .val (.int y), .val (.int z), .val (.ref ai), .val (.ref o), .val (.ref r1), .val (.int (1 : Int32)), .unset] [(.int (1 : Int32)), (.int x), (.int (0 : Int32)), (.ref r1)]))
  refine OGo.by_ (fun t k => XS.ixor X9.here hx rfl (hb hby at_140) rfl k) ?_
  show OGo p e below _ (T9.setTop (mkF m 141 #[.val (.int p1), .val (.int p2), .val (.int p3), .val (.int p4), .val (.int (2 : Int32)), .val (.int w5), .val (.int x), .val (.int y), .val (.int z), .val (.ref ai), .val (.ref o), .val (.ref r1), .val (.int (1 : Int32)), .unset] [(.int (x ^^^ (1 : Int32))), (.int (0 : Int32)), (.ref r1)]))
  obtain ⟨cl11, Ar11, q11, S11, Nn11, H11, G11⟩ := id V7
  obtain ⟨T12, h12, X12, e12, W12, st12⟩ := stI X9 hx hZ eq9 Ar11 (j := (0 : Int32)) (inb_of S11 ⟨(by decide : ¬ (0 : Int32) < 0), (by decide : (0 : Int32) < (2 : Int32))⟩) (g := (mkF m 141 #[.val (.int p1), .val (.int p2), .val (.int p3), .val (.int p4), .val (.int (2 : Int32)), .val (.int w5), .val (.int x), .val (.int y), .val (.int z), .val (.ref ai), .val (.ref o), .val (.ref r1), .val (.int (1 : Int32)), .unset] [(.int (x ^^^ (1 : Int32))), (.int (0 : Int32)), (.ref r1)])) rfl rfl (hb hby at_141)
  refine OGo.by_ st12 ?_
  show OGo p e below _ (T12.setTop (mkF m 142 #[.val (.int p1), .val (.int p2), .val (.int p3), .val (.int p4), .val (.int (2 : Int32)), .val (.int w5), .val (.int x), .val (.int y), .val (.int z), .val (.ref ai), .val (.ref o), .val (.ref r1), .val (.int (1 : Int32)), .unset] []))
  have N12 := Fr.snoc X12 N9 gr1
  have ST6 := own_ST_keep ST5 (Keep.of_wr W12) (own_nin1 (own_ne (by omega))) (own_nin1 (own_ne (by omega)))
  have Z6 : n0 ≤ h12.size := by rw [W12.size]; exact Z5
  refine OGo.by_ (fun t k => XS.aload X12.here hx rfl (hb hby at_142) rfl rfl k) ?_
  show OGo p e below _ (T12.setTop (mkF m 144 #[.val (.int p1), .val (.int p2), .val (.int p3), .val (.int p4), .val (.int (2 : Int32)), .val (.int w5), .val (.int x), .val (.int y), .val (.int z), .val (.ref ai), .val (.ref o), .val (.ref r1), .val (.int (1 : Int32)), .unset] [(.ref o)]))
  obtain ⟨cq14, kq14, qa14, qb14, qc14⟩ := isOf hZ e12 ST6.1
  obtain ⟨_, _, ⟨T13, L13, k13, n13⟩, -, X13, ⟨Lc13, hQ13, l13, y13, z13⟩, st13⟩ := X12.virtualBack hx (y := (⟨"com/example/fair_witness/fairwitness/model/State", "valueIndices", "()[I"⟩ : MethodName)) (z := (⟨"com/example/fair_witness/fairwitness/model/State", "valueIndices", "()[I"⟩ : MethodName)) hown (mvT hZ (hw _ (List.mem_of_getElem? (i := 19) rfl))) (mvT hZ (hw _ (List.mem_of_getElem? (i := 20) rfl))) (notFace_of_selects (args := #[]) (mvT hZ (hw _ (List.mem_of_getElem? (i := 22) rfl)))) (mvT hZ (hw _ (List.mem_of_getElem? (i := 22) rfl))) (mvT hZ (hw _ (List.mem_of_getElem? (i := 21) rfl))) (by decide) (backOf (W := 0) (rm_vi2 l Z a0 hw [] o b x y z h12 n0 Z6 ST6) hZ (hw _ (List.mem_of_getElem? (i := 23) rfl)) (hw _ (List.mem_of_getElem? (i := 7) rfl)) (by decide) (by decide)) qa14 qc14 (g := (mkF m 144 #[.val (.int p1), .val (.int p2), .val (.int p3), .val (.int p4), .val (.int (2 : Int32)), .val (.int w5), .val (.int x), .val (.int y), .val (.int z), .val (.ref ai), .val (.ref o), .val (.ref r1), .val (.int (1 : Int32)), .unset] [(.ref o)])) rfl (by rw [hml]; rfl) (Steps.refl _) (argsL := []) (rest := []) (lenOf pd_ocAI rfl) rfl (by show 2 * 0 + _ ≤ _; exact Nat.le_of_eq rfl) (hb hby at_144) (fun _ _ => ⟨rfl, e12, (by decide : 4 + 1 ≤ _), (by decide : 11 + 3 ≤ _)⟩)
  dsimp only [Pt.U, Pt.locs, Pt.cells, Pt.slots] at X13 l13 y13 z13 st13 hQ13
  subst l13 y13 z13
  obtain ⟨rfl, Nq13, K13, kk13, V13⟩ := hQ13
  have N13 := Fr.app N12 Nq13
  refine OGo.by_ (fun t k => st13.trans k) ?_
  show OGo p e below _ (T13.setTop (mkF m 147 #[.val (.int p1), .val (.int p2), .val (.int p3), .val (.int p4), .val (.int (2 : Int32)), .val (.int w5), .val (.int x), .val (.int y), .val (.int z), .val (.ref ai), .val (.ref o), .val (.ref r1), .val (.int (1 : Int32)), .unset] [(.ref h12.size)]))
  refine OGo.by_ (fun t k => XS.astore X13.here hx rfl (hb hby at_147) rfl rfl (l' := #[.val (.int p1), .val (.int p2), .val (.int p3), .val (.int p4), .val (.int (2 : Int32)), .val (.int w5), .val (.int x), .val (.int y), .val (.int z), .val (.ref ai), .val (.ref o), .val (.ref r1), .val (.int (1 : Int32)), .val (.ref h12.size)]) rfl k) ?_
  show OGo p e below _ (T13.setTop (mkF m 149 #[.val (.int p1), .val (.int p2), .val (.int p3), .val (.int p4), .val (.int (2 : Int32)), .val (.int w5), .val (.int x), .val (.int y), .val (.int z), .val (.ref ai), .val (.ref o), .val (.ref r1), .val (.int (1 : Int32)), .val (.ref h12.size)] []))
  refine OGo.by_ (fun t k => XS.iload X13.here hx rfl (hb hby at_149) rfl k) ?_
  show OGo p e below _ (T13.setTop (mkF m 151 #[.val (.int p1), .val (.int p2), .val (.int p3), .val (.int p4), .val (.int (2 : Int32)), .val (.int w5), .val (.int x), .val (.int y), .val (.int z), .val (.ref ai), .val (.ref o), .val (.ref r1), .val (.int (1 : Int32)), .val (.ref h12.size)] [(.int (1 : Int32))]))
  refine OGo.by_ (fun t k => XS.ifNo X13.here hx rfl (hb hby at_151) rfl ((if0 _ _).trans (feq (by decide)).1) k) ?_
  show OGo p e below _ (T13.setTop (mkF m 154 #[.val (.int p1), .val (.int p2), .val (.int p3), .val (.int p4), .val (.int (2 : Int32)), .val (.int w5), .val (.int x), .val (.int y), .val (.int z), .val (.ref ai), .val (.ref o), .val (.ref r1), .val (.int (1 : Int32)), .val (.ref h12.size)] []))
  have Z7 : n0 ≤ T13.heap.size := Nat.le_trans Z6 K13.1
  refine OGo.by_ (fun t k => XS.aload X13.here hx rfl (hb hby at_154) rfl rfl k) ?_
  show OGo p e below _ (T13.setTop (mkF m 156 #[.val (.int p1), .val (.int p2), .val (.int p3), .val (.int p4), .val (.int (2 : Int32)), .val (.int w5), .val (.int x), .val (.int y), .val (.int z), .val (.ref ai), .val (.ref o), .val (.ref r1), .val (.int (1 : Int32)), .val (.ref h12.size)] [(.ref h12.size)]))
  refine OGo.by_ (fun t k => XS.iload X13.here hx rfl (hb hby at_156) rfl k) ?_
  show OGo p e below _ (T13.setTop (mkF m 158 #[.val (.int p1), .val (.int p2), .val (.int p3), .val (.int p4), .val (.int (2 : Int32)), .val (.int w5), .val (.int x), .val (.int y), .val (.int z), .val (.ref ai), .val (.ref o), .val (.ref r1), .val (.int (1 : Int32)), .val (.ref h12.size)] [(.int (2 : Int32)), (.ref h12.size)]))
  refine OGo.by_ (fun t k => XS.iload X13.here hx rfl (hb hby at_158) rfl k) ?_
  show OGo p e below _ (T13.setTop (mkF m 160 #[.val (.int p1), .val (.int p2), .val (.int p3), .val (.int p4), .val (.int (2 : Int32)), .val (.int w5), .val (.int x), .val (.int y), .val (.int z), .val (.ref ai), .val (.ref o), .val (.ref r1), .val (.int (1 : Int32)), .val (.ref h12.size)] [(.int x), (.int (2 : Int32)), (.ref h12.size)]))
  refine OGo.by_ (fun t k => XS.iload X13.here hx rfl (hb hby at_160) rfl k) ?_
  show OGo p e below _ (T13.setTop (mkF m 162 #[.val (.int p1), .val (.int p2), .val (.int p3), .val (.int p4), .val (.int (2 : Int32)), .val (.int w5), .val (.int x), .val (.int y), .val (.int z), .val (.ref ai), .val (.ref o), .val (.ref r1), .val (.int (1 : Int32)), .val (.ref h12.size)] [(.int y), (.int x), (.int (2 : Int32)), (.ref h12.size)]))
  refine OGo.by_ (fun t k => XS.iload X13.here hx rfl (hb hby at_162) rfl k) ?_
  show OGo p e below _ (T13.setTop (mkF m 164 #[.val (.int p1), .val (.int p2), .val (.int p3), .val (.int p4), .val (.int (2 : Int32)), .val (.int w5), .val (.int x), .val (.int y), .val (.int z), .val (.ref ai), .val (.ref o), .val (.ref r1), .val (.int (1 : Int32)), .val (.ref h12.size)] [(.int z), (.int y), (.int x), (.int (2 : Int32)), (.ref h12.size)]))
  obtain ⟨_, _, ⟨T15, L15, k15, n15⟩, -, X15, ⟨Lc15, hQ15, l15, y15, z15⟩, st15⟩ := Jvm.LawKit.callS X13 hx (y := (⟨"com/example/fair_witness/fairwitness/model/StateValueIndicesPinLaw", "same", "([IIIII)Z"⟩ : MethodName)) hown (mvT hZ (hw _ (List.mem_of_getElem? (i := 24) rfl))) (mvT hZ (hw _ (List.mem_of_getElem? (i := 25) rfl))) (mvT hZ (hw _ (List.mem_of_getElem? (i := 2) rfl))) (mvT hZ (hw _ (List.mem_of_getElem? (i := 26) rfl))) (by decide) (backOf (W := 0) (rm_sm2 l Z a0 hw [] h12.size kk13 x y z T13.heap n0 Z7 V13) hZ (hw _ (List.mem_of_getElem? (i := 26) rfl)) (hw _ (List.mem_of_getElem? (i := 2) rfl)) (by decide) (by decide)) (g := (mkF m 164 #[.val (.int p1), .val (.int p2), .val (.int p3), .val (.int p4), .val (.int (2 : Int32)), .val (.int w5), .val (.int x), .val (.int y), .val (.int z), .val (.ref ai), .val (.ref o), .val (.ref r1), .val (.int (1 : Int32)), .val (.ref h12.size)] [(.int z), (.int y), (.int x), (.int (2 : Int32)), (.ref h12.size)])) rfl (by rw [hml]; rfl) (argsL := [(.ref h12.size), (.int (2 : Int32)), (.int x), (.int y), (.int z)]) (rest := []) (lenOf pd_oAIIIIIcZ rfl) rfl (by show 2 * 0 + _ ≤ _; exact Nat.le_of_eq rfl) (hb hby at_164) (fun _ _ => ⟨rfl, rfl, (by decide : 5 + 0 ≤ _), (by decide : 14 + 0 ≤ _)⟩)
  dsimp only [Pt.U, Pt.locs, Pt.cells, Pt.slots] at X15 l15 y15 z15 st15 hQ15
  subst l15 y15 z15
  obtain ⟨rfl, Nq15, eq15⟩ := hQ15
  have N15 := Fr.app N13 Nq15
  refine OGo.by_ st15 ?_
  show OGo p e below _ (T15.setTop (mkF m 167 #[.val (.int p1), .val (.int p2), .val (.int p3), .val (.int p4), .val (.int (2 : Int32)), .val (.int w5), .val (.int x), .val (.int y), .val (.int z), .val (.ref ai), .val (.ref o), .val (.ref r1), .val (.int (1 : Int32)), .val (.ref h12.size)] [(.int (1 : Int32))]))
  refine OGo.by_ (fun t k => XS.ifNo X15.here hx rfl (hb hby at_167) rfl ((if0 _ _).trans (feq (by decide)).1) k) ?_
  show OGo p e below _ (T15.setTop (mkF m 170 #[.val (.int p1), .val (.int p2), .val (.int p3), .val (.int p4), .val (.int (2 : Int32)), .val (.int w5), .val (.int x), .val (.int y), .val (.int z), .val (.ref ai), .val (.ref o), .val (.ref r1), .val (.int (1 : Int32)), .val (.ref h12.size)] []))
  refine OGo.by_ (fun t k => XS.iconst X15.here hx rfl (hb hby at_170) k) ?_
  show OGo p e below _ (T15.setTop (mkF m 171 #[.val (.int p1), .val (.int p2), .val (.int p3), .val (.int p4), .val (.int (2 : Int32)), .val (.int w5), .val (.int x), .val (.int y), .val (.int z), .val (.ref ai), .val (.ref o), .val (.ref r1), .val (.int (1 : Int32)), .val (.ref h12.size)] [(.int (1 : Int32))]))
  refine OGo.by_ (fun t k => XS.goto X15.here hx rfl (pc0 := 171) (pc' := 175) rfl (hb hby at_171) (by decide) (by decide) k) ?_
  show OGo p e below _ (T15.setTop (mkF m 175 #[.val (.int p1), .val (.int p2), .val (.int p3), .val (.int p4), .val (.int (2 : Int32)), .val (.int w5), .val (.int x), .val (.int y), .val (.int z), .val (.ref ai), .val (.ref o), .val (.ref r1), .val (.int (1 : Int32)), .val (.ref h12.size)] [(.int (1 : Int32))]))
  exact own_retN X15 hx hlk (t := .boolean) hret (by simp) (hb hby at_175) (by decide) (by decide) (⟨rfl, N15⟩)
set_option maxRecDepth 65536 in
set_option maxHeartbeats 40000000 in
theorem sg_n3 {p : Program} {l : Launch} {e : Env} {s : State} {m : MethodId} {args : Array Value} {below : List Frame} {meth : Method} {c : Code} {T0 : State} {locs : List Loc} {Z : State} {a0 : Array Value} {h0 : Heap} {n0 : Nat} {p1 p2 p3 p4 w5 x y z : Int32}
    (X0 : Stand p l e room_1 s m args below meth c T0 locs 0 0) (hx : p.tables.exec = Jvm.exec) (hZ : Z.Warmed39 s.vm) (hw : ∀ d ∈ tables_1, d.before a0 Z = true) (hby : c.code = code) (hml : c.maxLocals = 14) (hown : s.vm.findClass "com/example/fair_witness/fairwitness/model/StateValueIndicesPinLaw" = some m.cls) (hnm : meth.name = "law") (hlk : meth.locks = false) (hret : meth.sig.returnType = some .boolean) (e0 : T0.heap = h0) (N0 : Fr n0 locs) (Z0 : n0 ≤ h0.size)  :
    OGo p e below (OEnd s (fun v h L => v = some (.int 1) ∧ Fr n0 L) room_1.cells room_1.slots) (T0.setTop (mkF m 66 #[.val (.int p1), .val (.int p2), .val (.int p3), .val (.int p4), .val (.int (3 : Int32)), .val (.int w5), .val (.int x), .val (.int y), .val (.int z), .unset, .unset, .unset, .unset, .unset] [])) := by
  refine OGo.by_ (fun t k => XS.iload X0.here hx rfl (hb hby at_66) rfl k) ?_
  show OGo p e below _ (T0.setTop (mkF m 68 #[.val (.int p1), .val (.int p2), .val (.int p3), .val (.int p4), .val (.int (3 : Int32)), .val (.int w5), .val (.int x), .val (.int y), .val (.int z), .unset, .unset, .unset, .unset, .unset] [(.int (3 : Int32))]))
  refine OGo.by_ (fun t k => XS.iload X0.here hx rfl (hb hby at_68) rfl k) ?_
  show OGo p e below _ (T0.setTop (mkF m 70 #[.val (.int p1), .val (.int p2), .val (.int p3), .val (.int p4), .val (.int (3 : Int32)), .val (.int w5), .val (.int x), .val (.int y), .val (.int z), .unset, .unset, .unset, .unset, .unset] [(.int x), (.int (3 : Int32))]))
  refine OGo.by_ (fun t k => XS.iload X0.here hx rfl (hb hby at_70) rfl k) ?_
  show OGo p e below _ (T0.setTop (mkF m 72 #[.val (.int p1), .val (.int p2), .val (.int p3), .val (.int p4), .val (.int (3 : Int32)), .val (.int w5), .val (.int x), .val (.int y), .val (.int z), .unset, .unset, .unset, .unset, .unset] [(.int y), (.int x), (.int (3 : Int32))]))
  refine OGo.by_ (fun t k => XS.iload X0.here hx rfl (hb hby at_72) rfl k) ?_
  show OGo p e below _ (T0.setTop (mkF m 74 #[.val (.int p1), .val (.int p2), .val (.int p3), .val (.int p4), .val (.int (3 : Int32)), .val (.int w5), .val (.int x), .val (.int y), .val (.int z), .unset, .unset, .unset, .unset, .unset] [(.int z), (.int y), (.int x), (.int (3 : Int32))]))
  obtain ⟨_, _, ⟨T1, L1, k1, n1⟩, -, X1, ⟨Lc1, hQ1, l1, y1, z1⟩, st1⟩ := Jvm.LawKit.callS X0 hx (y := (⟨"com/example/fair_witness/fairwitness/model/StateValueIndicesPinLaw", "make", "(IIII)[I"⟩ : MethodName)) hown (mvT hZ (hw _ (List.mem_of_getElem? (i := 0) rfl))) (mvT hZ (hw _ (List.mem_of_getElem? (i := 1) rfl))) (mvT hZ (hw _ (List.mem_of_getElem? (i := 2) rfl))) (mvT hZ (hw _ (List.mem_of_getElem? (i := 3) rfl))) (by decide) (backOf (W := 0) (rm_mk3 l Z a0 hw [] x y z h0 n0 Z0) hZ (hw _ (List.mem_of_getElem? (i := 3) rfl)) (hw _ (List.mem_of_getElem? (i := 2) rfl)) (by decide) (by decide)) (g := (mkF m 74 #[.val (.int p1), .val (.int p2), .val (.int p3), .val (.int p4), .val (.int (3 : Int32)), .val (.int w5), .val (.int x), .val (.int y), .val (.int z), .unset, .unset, .unset, .unset, .unset] [(.int z), (.int y), (.int x), (.int (3 : Int32))])) rfl (by rw [hml]; rfl) (argsL := [(.int (3 : Int32)), (.int x), (.int y), (.int z)]) (rest := []) (lenOf pd_oIIIIcAI rfl) rfl (by show 2 * 0 + _ ≤ _; exact Nat.le_of_eq rfl) (hb hby at_74) (fun _ _ => ⟨rfl, e0, (by decide : 0 + 1 ≤ _), (by decide : 0 + 3 ≤ _)⟩)
  dsimp only [Pt.U, Pt.locs, Pt.cells, Pt.slots] at X1 l1 y1 z1 st1 hQ1
  subst l1 y1 z1
  obtain ⟨rfl, Nq1, K1, E1, kk1, V1⟩ := hQ1
  have N1 := Fr.app N0 Nq1
  refine OGo.by_ st1 ?_
  show OGo p e below _ (T1.setTop (mkF m 77 #[.val (.int p1), .val (.int p2), .val (.int p3), .val (.int p4), .val (.int (3 : Int32)), .val (.int w5), .val (.int x), .val (.int y), .val (.int z), .unset, .unset, .unset, .unset, .unset] [(.ref h0.size)]))
  obtain ⟨ai, g_ai⟩ : ∃ q, q = h0.size := ⟨_, rfl⟩
  rw [← g_ai] at E1 V1
  rw [← g_ai]
  show OGo p e below _ (T1.setTop (mkF m 77 #[.val (.int p1), .val (.int p2), .val (.int p3), .val (.int p4), .val (.int (3 : Int32)), .val (.int w5), .val (.int x), .val (.int y), .val (.int z), .unset, .unset, .unset, .unset, .unset] [(.ref ai)]))
  have Z1 : n0 ≤ T1.heap.size := Nat.le_trans Z0 K1.1
  have lai : T1.heap.size > ai := V1.lt
  refine OGo.by_ (fun t k => XS.astore X1.here hx rfl (hb hby at_77) rfl rfl (l' := #[.val (.int p1), .val (.int p2), .val (.int p3), .val (.int p4), .val (.int (3 : Int32)), .val (.int w5), .val (.int x), .val (.int y), .val (.int z), .val (.ref ai), .unset, .unset, .unset, .unset]) rfl k) ?_
  show OGo p e below _ (T1.setTop (mkF m 79 #[.val (.int p1), .val (.int p2), .val (.int p3), .val (.int p4), .val (.int (3 : Int32)), .val (.int w5), .val (.int x), .val (.int y), .val (.int z), .val (.ref ai), .unset, .unset, .unset, .unset] []))
  obtain ⟨T2, h2, X2, e2, E2, A2, Dv2, -, st2⟩ := newO X1 hx hZ hown (hw _ (List.mem_of_getElem? (i := 5) rfl)) (hw _ (List.mem_of_getElem? (i := 6) rfl)) (hw _ (List.mem_of_getElem? (i := 7) rfl)) rfl (g := (mkF m 79 #[.val (.int p1), .val (.int p2), .val (.int p3), .val (.int p4), .val (.int (3 : Int32)), .val (.int w5), .val (.int x), .val (.int y), .val (.int z), .val (.ref ai), .unset, .unset, .unset, .unset] [])) rfl (hb hby at_79) (by decide) (by decide)
  obtain ⟨o, g_o⟩ : ∃ z, z = T1.heap.size := ⟨_, rfl⟩
  rw [← g_o] at A2 Dv2 st2
  have A_o := A2
  have lt_o := own_lt A2.lt
  have F_smallIndices_o : Fld Z h2 o "com/example/fair_witness/fairwitness/model/State" "smallIndices" "[B" .null := Dv2 (Or.inr (hw _ (List.mem_of_getElem? (i := 16) rfl))) (ty := (.array .byte)) (by decide)
  have F_valueIndices_o : Fld Z h2 o "com/example/fair_witness/fairwitness/model/State" "valueIndices" "[I" .null := Dv2 (Or.inr (hw _ (List.mem_of_getElem? (i := 18) rfl))) (ty := (.array .int)) (by decide)
  refine OGo.by_ st2 ?_
  show OGo p e below _ (T2.setTop (mkF m 82 #[.val (.int p1), .val (.int p2), .val (.int p3), .val (.int p4), .val (.int (3 : Int32)), .val (.int w5), .val (.int x), .val (.int y), .val (.int z), .val (.ref ai), .unset, .unset, .unset, .unset] [(.ref o)]))
  have Z2 : n0 ≤ h2.size := Nat.le_trans Z1 E2.1
  have go : n0 ≤ o := by omega
  have hio : ai ≠ o := own_ne (by omega)
  have gai : n0 ≤ ai := by omega
  refine OGo.by_ (fun t k => XS.dup X2.here hx rfl (hb hby at_82) rfl rfl k) ?_
  show OGo p e below _ (T2.setTop (mkF m 83 #[.val (.int p1), .val (.int p2), .val (.int p3), .val (.int p4), .val (.int (3 : Int32)), .val (.int w5), .val (.int x), .val (.int y), .val (.int z), .val (.ref ai), .unset, .unset, .unset, .unset] [(.ref o), (.ref o)]))
  refine OGo.by_ (fun t k => XS.aload X2.here hx rfl (hb hby at_83) rfl rfl k) ?_
  show OGo p e below _ (T2.setTop (mkF m 85 #[.val (.int p1), .val (.int p2), .val (.int p3), .val (.int p4), .val (.int (3 : Int32)), .val (.int w5), .val (.int x), .val (.int y), .val (.int z), .val (.ref ai), .unset, .unset, .unset, .unset] [(.ref ai), (.ref o), (.ref o)]))
  obtain ⟨_, _, ⟨T3, L3, k3, n3⟩, -, X3, ⟨Lc3, hQ3, l3, y3, z3⟩, st3⟩ := X2.specialBack hx (y := (⟨"com/example/fair_witness/fairwitness/model/State", "<init>", "([I)V"⟩ : MethodName)) rfl hown (mvT hZ (hw _ (List.mem_of_getElem? (i := 8) rfl))) (mvT hZ (hw _ (List.mem_of_getElem? (i := 9) rfl))) (mvT hZ (hw _ (List.mem_of_getElem? (i := 10) rfl))) (by decide) (backOf (W := 1) (rm_ini3 l Z a0 hw [] o ai kk1 x y z h2 n0 Z2 go A_o F_smallIndices_o F_valueIndices_o (E1.ext E2) (V1.ext E2) hio) hZ (hw _ (List.mem_of_getElem? (i := 10) rfl)) (hw _ (List.mem_of_getElem? (i := 7) rfl)) (by decide) (by decide)) (g := (mkF m 85 #[.val (.int p1), .val (.int p2), .val (.int p3), .val (.int p4), .val (.int (3 : Int32)), .val (.int w5), .val (.int x), .val (.int y), .val (.int z), .val (.ref ai), .unset, .unset, .unset, .unset] [(.ref ai), (.ref o), (.ref o)])) rfl (by rw [hml]; rfl) (Steps.refl _) (a := o) (argsL := [(.ref ai)]) (rest := [(.ref o)]) (lenOf pd_oAIcV rfl) rfl (by show 2 * 0 + _ ≤ _; exact Nat.le_of_eq rfl) (hb hby at_85) (fun _ _ => ⟨rfl, e2, (by decide : 2 + 1 ≤ _), (by decide : 5 + 3 ≤ _)⟩)
  dsimp only [Pt.U, Pt.locs, Pt.cells, Pt.slots] at X3 l3 y3 z3 st3 hQ3
  subst l3 y3 z3
  obtain ⟨rfl, Nq3, K3, b, gb, ST3⟩ := hQ3
  have N3 := Fr.app N1 Nq3
  refine OGo.by_ (fun t k => st3.trans k) ?_
  show OGo p e below _ (T3.setTop (mkF m 88 #[.val (.int p1), .val (.int p2), .val (.int p3), .val (.int p4), .val (.int (3 : Int32)), .val (.int w5), .val (.int x), .val (.int y), .val (.int z), .val (.ref ai), .unset, .unset, .unset, .unset] [(.ref o)]))
  have Z3 : n0 ≤ T3.heap.size := Nat.le_trans Z2 K3.1
  have lst := own_ST_lt ST3
  have Vi := (V1.ext E2).keep K3 (own_nin1 hio)
  have hE2 := E2.1
  have lai2 : h2.size > ai := (V1.ext E2).lt
  refine OGo.by_ (fun t k => XS.astore X3.here hx rfl (hb hby at_88) rfl rfl (l' := #[.val (.int p1), .val (.int p2), .val (.int p3), .val (.int p4), .val (.int (3 : Int32)), .val (.int w5), .val (.int x), .val (.int y), .val (.int z), .val (.ref ai), .val (.ref o), .unset, .unset, .unset]) rfl k) ?_
  show OGo p e below _ (T3.setTop (mkF m 90 #[.val (.int p1), .val (.int p2), .val (.int p3), .val (.int p4), .val (.int (3 : Int32)), .val (.int w5), .val (.int x), .val (.int y), .val (.int z), .val (.ref ai), .val (.ref o), .unset, .unset, .unset] []))
  refine OGo.by_ (fun t k => XS.iload X3.here hx rfl (hb hby at_90) rfl k) ?_
  show OGo p e below _ (T3.setTop (mkF m 92 #[.val (.int p1), .val (.int p2), .val (.int p3), .val (.int p4), .val (.int (3 : Int32)), .val (.int w5), .val (.int x), .val (.int y), .val (.int z), .val (.ref ai), .val (.ref o), .unset, .unset, .unset] [(.int (3 : Int32))]))
  refine OGo.by_ (fun t k => XS.ifNo X3.here hx rfl (hb hby at_92) rfl ((if0 _ _).trans (tlt (by decide)).2.2.2) k) ?_
  show OGo p e below _ (T3.setTop (mkF m 95 #[.val (.int p1), .val (.int p2), .val (.int p3), .val (.int p4), .val (.int (3 : Int32)), .val (.int w5), .val (.int x), .val (.int y), .val (.int z), .val (.ref ai), .val (.ref o), .unset, .unset, .unset] []))
  refine OGo.by_ (fun t k => XS.aload X3.here hx rfl (hb hby at_95) rfl rfl k) ?_
  show OGo p e below _ (T3.setTop (mkF m 97 #[.val (.int p1), .val (.int p2), .val (.int p3), .val (.int p4), .val (.int (3 : Int32)), .val (.int w5), .val (.int x), .val (.int y), .val (.int z), .val (.ref ai), .val (.ref o), .unset, .unset, .unset] [(.ref ai)]))
  refine OGo.by_ (fun t k => XS.iconst X3.here hx rfl (hb hby at_97) k) ?_
  show OGo p e below _ (T3.setTop (mkF m 98 #[.val (.int p1), .val (.int p2), .val (.int p3), .val (.int p4), .val (.int (3 : Int32)), .val (.int w5), .val (.int x), .val (.int y), .val (.int z), .val (.ref ai), .val (.ref o), .unset, .unset, .unset] [(.int (0 : Int32)), (.ref ai)]))
  refine OGo.by_ (fun t k => XS.aload X3.here hx rfl (hb hby at_98) rfl rfl k) ?_
  show OGo p e below _ (T3.setTop (mkF m 100 #[.val (.int p1), .val (.int p2), .val (.int p3), .val (.int p4), .val (.int (3 : Int32)), .val (.int w5), .val (.int x), .val (.int y), .val (.int z), .val (.ref ai), .val (.ref o), .unset, .unset, .unset] [(.ref ai), (.int (0 : Int32)), (.ref ai)]))
  refine OGo.by_ (fun t k => XS.iconst X3.here hx rfl (hb hby at_100) k) ?_
  show OGo p e below _ (T3.setTop (mkF m 101 #[.val (.int p1), .val (.int p2), .val (.int p3), .val (.int p4), .val (.int (3 : Int32)), .val (.int w5), .val (.int x), .val (.int y), .val (.int z), .val (.ref ai), .val (.ref o), .unset, .unset, .unset] [(.int (0 : Int32)), (.ref ai), (.int (0 : Int32)), (.ref ai)]))
  obtain ⟨cl4, Ar4, q4, S4, Nn4, H4, G4⟩ := id Vi
  have in4 := inb_of S4 ⟨(by decide : ¬ (0 : Int32) < 0), (by decide : (0 : Int32) < (3 : Int32))⟩
  refine OGo.by_ (fun t kk => X3.iaload hx (j := (0 : Int32)) (v := (.int x)) (by exact Ar4.1) (State.isArrayOf_alike hZ.alike Ar4.2.1) Ar4.2.2 in4 (H4.at in4 (rfl)) (g := (mkF m 101 #[.val (.int p1), .val (.int p2), .val (.int p3), .val (.int p4), .val (.int (3 : Int32)), .val (.int w5), .val (.int x), .val (.int y), .val (.int z), .val (.ref ai), .val (.ref o), .unset, .unset, .unset] [(.int (0 : Int32)), (.ref ai), (.int (0 : Int32)), (.ref ai)])) rfl rfl (hb hby at_101) _ kk) ?_
  show OGo p e below _ (T3.setTop (mkF m 102 #[.val (.int p1), .val (.int p2), .val (.int p3), .val (.int p4), .val (.int (3 : Int32)), .val (.int w5), .val (.int x), .val (.int y), .val (.int z), .val (.ref ai), .val (.ref o), .unset, .unset, .unset] [(.int x), (.int (0 : Int32)), (.ref ai)]))
  refine OGo.by_ (fun t k => XS.iconst X3.here hx rfl (hb hby at_102) k) ?_
  show OGo p e below _ (T3.setTop (mkF m 103 #[.val (.int p1), .val (.int p2), .val (.int p3), .val (.int p4), .val (.int (3 : Int32)), .val (.int w5), .val (.int x), .val (.int y), .val (.int z), .val (.ref ai), .val (.ref o), .unset, .unset, .unset] [(.int (1 : Int32)), (.int x), (.int (0 : Int32)), (.ref ai)]))
  refine OGo.by_ (fun t k => XS.ixor X3.here hx rfl (hb hby at_103) rfl k) ?_
  show OGo p e below _ (T3.setTop (mkF m 104 #[.val (.int p1), .val (.int p2), .val (.int p3), .val (.int p4), .val (.int (3 : Int32)), .val (.int w5), .val (.int x), .val (.int y), .val (.int z), .val (.ref ai), .val (.ref o), .unset, .unset, .unset] [(.int (x ^^^ (1 : Int32))), (.int (0 : Int32)), (.ref ai)]))
  obtain ⟨cl5, Ar5, q5, S5, Nn5, H5, G5⟩ := id Vi
  obtain ⟨T6, h6, X6, e6, W6, st6⟩ := stI X3 hx hZ rfl Ar5 (j := (0 : Int32)) (inb_of S5 ⟨(by decide : ¬ (0 : Int32) < 0), (by decide : (0 : Int32) < (3 : Int32))⟩) (g := (mkF m 104 #[.val (.int p1), .val (.int p2), .val (.int p3), .val (.int p4), .val (.int (3 : Int32)), .val (.int w5), .val (.int x), .val (.int y), .val (.int z), .val (.ref ai), .val (.ref o), .unset, .unset, .unset] [(.int (x ^^^ (1 : Int32))), (.int (0 : Int32)), (.ref ai)])) rfl rfl (hb hby at_104)
  refine OGo.by_ st6 ?_
  show OGo p e below _ (T6.setTop (mkF m 105 #[.val (.int p1), .val (.int p2), .val (.int p3), .val (.int p4), .val (.int (3 : Int32)), .val (.int w5), .val (.int x), .val (.int y), .val (.int z), .val (.ref ai), .val (.ref o), .unset, .unset, .unset] []))
  have N6 := Fr.snoc X6 N3 gai
  have STb := own_ST_keep ST3 (Keep.of_wr W6) (own_nin1 (own_ne' (by omega))) (own_nin1 (own_ne' (by omega)))
  have Z4 : n0 ≤ h6.size := by rw [W6.size]; exact Z3
  have lstb := own_ST_lt STb
  refine OGo.by_ (fun t k => XS.aload X6.here hx rfl (hb hby at_105) rfl rfl k) ?_
  show OGo p e below _ (T6.setTop (mkF m 107 #[.val (.int p1), .val (.int p2), .val (.int p3), .val (.int p4), .val (.int (3 : Int32)), .val (.int w5), .val (.int x), .val (.int y), .val (.int z), .val (.ref ai), .val (.ref o), .unset, .unset, .unset] [(.ref o)]))
  obtain ⟨cq8, kq8, qa8, qb8, qc8⟩ := isOf hZ e6 STb.1
  obtain ⟨_, _, ⟨T7, L7, k7, n7⟩, -, X7, ⟨Lc7, hQ7, l7, y7, z7⟩, st7⟩ := X6.virtualBack hx (y := (⟨"com/example/fair_witness/fairwitness/model/State", "valueIndices", "()[I"⟩ : MethodName)) (z := (⟨"com/example/fair_witness/fairwitness/model/State", "valueIndices", "()[I"⟩ : MethodName)) hown (mvT hZ (hw _ (List.mem_of_getElem? (i := 19) rfl))) (mvT hZ (hw _ (List.mem_of_getElem? (i := 20) rfl))) (notFace_of_selects (args := #[]) (mvT hZ (hw _ (List.mem_of_getElem? (i := 22) rfl)))) (mvT hZ (hw _ (List.mem_of_getElem? (i := 22) rfl))) (mvT hZ (hw _ (List.mem_of_getElem? (i := 21) rfl))) (by decide) (backOf (W := 0) (rm_vi3 l Z a0 hw [] o b x y z h6 n0 Z4 STb) hZ (hw _ (List.mem_of_getElem? (i := 23) rfl)) (hw _ (List.mem_of_getElem? (i := 7) rfl)) (by decide) (by decide)) qa8 qc8 (g := (mkF m 107 #[.val (.int p1), .val (.int p2), .val (.int p3), .val (.int p4), .val (.int (3 : Int32)), .val (.int w5), .val (.int x), .val (.int y), .val (.int z), .val (.ref ai), .val (.ref o), .unset, .unset, .unset] [(.ref o)])) rfl (by rw [hml]; rfl) (Steps.refl _) (argsL := []) (rest := []) (lenOf pd_ocAI rfl) rfl (by show 2 * 0 + _ ≤ _; exact Nat.le_of_eq rfl) (hb hby at_107) (fun _ _ => ⟨rfl, e6, (by decide : 3 + 1 ≤ _), (by decide : 8 + 3 ≤ _)⟩)
  dsimp only [Pt.U, Pt.locs, Pt.cells, Pt.slots] at X7 l7 y7 z7 st7 hQ7
  subst l7 y7 z7
  obtain ⟨rfl, Nq7, K7, kk7, V7⟩ := hQ7
  have N7 := Fr.app N6 Nq7
  refine OGo.by_ (fun t k => st7.trans k) ?_
  show OGo p e below _ (T7.setTop (mkF m 110 #[.val (.int p1), .val (.int p2), .val (.int p3), .val (.int p4), .val (.int (3 : Int32)), .val (.int w5), .val (.int x), .val (.int y), .val (.int z), .val (.ref ai), .val (.ref o), .unset, .unset, .unset] [(.ref h6.size)]))
  obtain ⟨r1, g_r1⟩ : ∃ q, q = h6.size := ⟨_, rfl⟩
  rw [← g_r1] at V7
  rw [← g_r1]
  show OGo p e below _ (T7.setTop (mkF m 110 #[.val (.int p1), .val (.int p2), .val (.int p3), .val (.int p4), .val (.int (3 : Int32)), .val (.int w5), .val (.int x), .val (.int y), .val (.int z), .val (.ref ai), .val (.ref o), .unset, .unset, .unset] [(.ref r1)]))
  have Z5 : n0 ≤ T7.heap.size := Nat.le_trans Z4 K7.1
  have ST5 := own_ST_keep STb K7 nin0 nin0
  have gr1 : n0 ≤ r1 := by omega
  refine OGo.by_ (fun t k => XS.astore X7.here hx rfl (hb hby at_110) rfl rfl (l' := #[.val (.int p1), .val (.int p2), .val (.int p3), .val (.int p4), .val (.int (3 : Int32)), .val (.int w5), .val (.int x), .val (.int y), .val (.int z), .val (.ref ai), .val (.ref o), .val (.ref r1), .unset, .unset]) rfl k) ?_
  show OGo p e below _ (T7.setTop (mkF m 112 #[.val (.int p1), .val (.int p2), .val (.int p3), .val (.int p4), .val (.int (3 : Int32)), .val (.int w5), .val (.int x), .val (.int y), .val (.int z), .val (.ref ai), .val (.ref o), .val (.ref r1), .unset, .unset] []))
  refine OGo.by_ (fun t k => XS.aload X7.here hx rfl (hb hby at_112) rfl rfl k) ?_
  show OGo p e below _ (T7.setTop (mkF m 114 #[.val (.int p1), .val (.int p2), .val (.int p3), .val (.int p4), .val (.int (3 : Int32)), .val (.int w5), .val (.int x), .val (.int y), .val (.int z), .val (.ref ai), .val (.ref o), .val (.ref r1), .unset, .unset] [(.ref r1)]))
  refine OGo.by_ (fun t k => XS.iload X7.here hx rfl (hb hby at_114) rfl k) ?_
  show OGo p e below _ (T7.setTop (mkF m 116 #[.val (.int p1), .val (.int p2), .val (.int p3), .val (.int p4), .val (.int (3 : Int32)), .val (.int w5), .val (.int x), .val (.int y), .val (.int z), .val (.ref ai), .val (.ref o), .val (.ref r1), .unset, .unset] [(.int (3 : Int32)), (.ref r1)]))
  refine OGo.by_ (fun t k => XS.iload X7.here hx rfl (hb hby at_116) rfl k) ?_
  show OGo p e below _ (T7.setTop (mkF m 118 #[.val (.int p1), .val (.int p2), .val (.int p3), .val (.int p4), .val (.int (3 : Int32)), .val (.int w5), .val (.int x), .val (.int y), .val (.int z), .val (.ref ai), .val (.ref o), .val (.ref r1), .unset, .unset] [(.int x), (.int (3 : Int32)), (.ref r1)]))
  refine OGo.by_ (fun t k => XS.iload X7.here hx rfl (hb hby at_118) rfl k) ?_
  show OGo p e below _ (T7.setTop (mkF m 120 #[.val (.int p1), .val (.int p2), .val (.int p3), .val (.int p4), .val (.int (3 : Int32)), .val (.int w5), .val (.int x), .val (.int y), .val (.int z), .val (.ref ai), .val (.ref o), .val (.ref r1), .unset, .unset] [(.int y), (.int x), (.int (3 : Int32)), (.ref r1)]))
  refine OGo.by_ (fun t k => XS.iload X7.here hx rfl (hb hby at_120) rfl k) ?_
  show OGo p e below _ (T7.setTop (mkF m 122 #[.val (.int p1), .val (.int p2), .val (.int p3), .val (.int p4), .val (.int (3 : Int32)), .val (.int w5), .val (.int x), .val (.int y), .val (.int z), .val (.ref ai), .val (.ref o), .val (.ref r1), .unset, .unset] [(.int z), (.int y), (.int x), (.int (3 : Int32)), (.ref r1)]))
  obtain ⟨_, _, ⟨T9, L9, k9, n9⟩, -, X9, ⟨Lc9, hQ9, l9, y9, z9⟩, st9⟩ := Jvm.LawKit.callS X7 hx (y := (⟨"com/example/fair_witness/fairwitness/model/StateValueIndicesPinLaw", "same", "([IIIII)Z"⟩ : MethodName)) hown (mvT hZ (hw _ (List.mem_of_getElem? (i := 24) rfl))) (mvT hZ (hw _ (List.mem_of_getElem? (i := 25) rfl))) (mvT hZ (hw _ (List.mem_of_getElem? (i := 2) rfl))) (mvT hZ (hw _ (List.mem_of_getElem? (i := 26) rfl))) (by decide) (backOf (W := 0) (rm_sm3 l Z a0 hw [] r1 kk7 x y z T7.heap n0 Z5 V7) hZ (hw _ (List.mem_of_getElem? (i := 26) rfl)) (hw _ (List.mem_of_getElem? (i := 2) rfl)) (by decide) (by decide)) (g := (mkF m 122 #[.val (.int p1), .val (.int p2), .val (.int p3), .val (.int p4), .val (.int (3 : Int32)), .val (.int w5), .val (.int x), .val (.int y), .val (.int z), .val (.ref ai), .val (.ref o), .val (.ref r1), .unset, .unset] [(.int z), (.int y), (.int x), (.int (3 : Int32)), (.ref r1)])) rfl (by rw [hml]; rfl) (argsL := [(.ref r1), (.int (3 : Int32)), (.int x), (.int y), (.int z)]) (rest := []) (lenOf pd_oAIIIIIcZ rfl) rfl (by show 2 * 0 + _ ≤ _; exact Nat.le_of_eq rfl) (hb hby at_122) (fun _ _ => ⟨rfl, rfl, (by decide : 4 + 0 ≤ _), (by decide : 11 + 0 ≤ _)⟩)
  dsimp only [Pt.U, Pt.locs, Pt.cells, Pt.slots] at X9 l9 y9 z9 st9 hQ9
  subst l9 y9 z9
  obtain ⟨rfl, Nq9, eq9⟩ := hQ9
  have N9 := Fr.app N7 Nq9
  refine OGo.by_ st9 ?_
  show OGo p e below _ (T9.setTop (mkF m 125 #[.val (.int p1), .val (.int p2), .val (.int p3), .val (.int p4), .val (.int (3 : Int32)), .val (.int w5), .val (.int x), .val (.int y), .val (.int z), .val (.ref ai), .val (.ref o), .val (.ref r1), .unset, .unset] [(.int (1 : Int32))]))
  refine OGo.by_ (fun t k => XS.istore X9.here hx rfl (hb hby at_125) rfl (l' := #[.val (.int p1), .val (.int p2), .val (.int p3), .val (.int p4), .val (.int (3 : Int32)), .val (.int w5), .val (.int x), .val (.int y), .val (.int z), .val (.ref ai), .val (.ref o), .val (.ref r1), .val (.int (1 : Int32)), .unset]) rfl k) ?_
  show OGo p e below _ (T9.setTop (mkF m 127 #[.val (.int p1), .val (.int p2), .val (.int p3), .val (.int p4), .val (.int (3 : Int32)), .val (.int w5), .val (.int x), .val (.int y), .val (.int z), .val (.ref ai), .val (.ref o), .val (.ref r1), .val (.int (1 : Int32)), .unset] []))
  refine OGo.by_ (fun t k => XS.iload X9.here hx rfl (hb hby at_127) rfl k) ?_
  show OGo p e below _ (T9.setTop (mkF m 129 #[.val (.int p1), .val (.int p2), .val (.int p3), .val (.int p4), .val (.int (3 : Int32)), .val (.int w5), .val (.int x), .val (.int y), .val (.int z), .val (.ref ai), .val (.ref o), .val (.ref r1), .val (.int (1 : Int32)), .unset] [(.int (3 : Int32))]))
  refine OGo.by_ (fun t k => XS.ifNo X9.here hx rfl (hb hby at_129) rfl ((if0 _ _).trans (tlt (by decide)).2.2.2) k) ?_
  show OGo p e below _ (T9.setTop (mkF m 132 #[.val (.int p1), .val (.int p2), .val (.int p3), .val (.int p4), .val (.int (3 : Int32)), .val (.int w5), .val (.int x), .val (.int y), .val (.int z), .val (.ref ai), .val (.ref o), .val (.ref r1), .val (.int (1 : Int32)), .unset] []))
  refine OGo.by_ (fun t k => XS.aload X9.here hx rfl (hb hby at_132) rfl rfl k) ?_
  show OGo p e below _ (T9.setTop (mkF m 134 #[.val (.int p1), .val (.int p2), .val (.int p3), .val (.int p4), .val (.int (3 : Int32)), .val (.int w5), .val (.int x), .val (.int y), .val (.int z), .val (.ref ai), .val (.ref o), .val (.ref r1), .val (.int (1 : Int32)), .unset] [(.ref r1)]))
  refine OGo.by_ (fun t k => XS.iconst X9.here hx rfl (hb hby at_134) k) ?_
  show OGo p e below _ (T9.setTop (mkF m 135 #[.val (.int p1), .val (.int p2), .val (.int p3), .val (.int p4), .val (.int (3 : Int32)), .val (.int w5), .val (.int x), .val (.int y), .val (.int z), .val (.ref ai), .val (.ref o), .val (.ref r1), .val (.int (1 : Int32)), .unset] [(.int (0 : Int32)), (.ref r1)]))
  refine OGo.by_ (fun t k => XS.aload X9.here hx rfl (hb hby at_135) rfl rfl k) ?_
  show OGo p e below _ (T9.setTop (mkF m 137 #[.val (.int p1), .val (.int p2), .val (.int p3), .val (.int p4), .val (.int (3 : Int32)), .val (.int w5), .val (.int x), .val (.int y), .val (.int z), .val (.ref ai), .val (.ref o), .val (.ref r1), .val (.int (1 : Int32)), .unset] [(.ref r1), (.int (0 : Int32)), (.ref r1)]))
  refine OGo.by_ (fun t k => XS.iconst X9.here hx rfl (hb hby at_137) k) ?_
  show OGo p e below _ (T9.setTop (mkF m 138 #[.val (.int p1), .val (.int p2), .val (.int p3), .val (.int p4), .val (.int (3 : Int32)), .val (.int w5), .val (.int x), .val (.int y), .val (.int z), .val (.ref ai), .val (.ref o), .val (.ref r1), .val (.int (1 : Int32)), .unset] [(.int (0 : Int32)), (.ref r1), (.int (0 : Int32)), (.ref r1)]))
  obtain ⟨cl10, Ar10, q10, S10, Nn10, H10, G10⟩ := id V7
  have in10 := inb_of S10 ⟨(by decide : ¬ (0 : Int32) < 0), (by decide : (0 : Int32) < (3 : Int32))⟩
  refine OGo.by_ (fun t kk => X9.iaload hx (j := (0 : Int32)) (v := (.int x)) (by rw [eq9]; exact Ar10.1) (State.isArrayOf_alike hZ.alike Ar10.2.1) Ar10.2.2 in10 (H10.at in10 (rfl)) (g := (mkF m 138 #[.val (.int p1), .val (.int p2), .val (.int p3), .val (.int p4), .val (.int (3 : Int32)), .val (.int w5), .val (.int x), .val (.int y), .val (.int z), .val (.ref ai), .val (.ref o), .val (.ref r1), .val (.int (1 : Int32)), .unset] [(.int (0 : Int32)), (.ref r1), (.int (0 : Int32)), (.ref r1)])) rfl rfl (hb hby at_138) _ kk) ?_
  show OGo p e below _ (T9.setTop (mkF m 139 #[.val (.int p1), .val (.int p2), .val (.int p3), .val (.int p4), .val (.int (3 : Int32)), .val (.int w5), .val (.int x), .val (.int y), .val (.int z), .val (.ref ai), .val (.ref o), .val (.ref r1), .val (.int (1 : Int32)), .unset] [(.int x), (.int (0 : Int32)), (.ref r1)]))
  refine OGo.by_ (fun t k => XS.iconst X9.here hx rfl (hb hby at_139) k) ?_
  show OGo p e below _ (T9.setTop (mkF m 140 #[.val (.int p1), .val (.int p2), .val (.int p3), .val (.int p4), .val (.int (3 : Int32)), .val (.int w5), .val (.int x), .val (.int y), .val (.int z), .val (.ref ai), .val (.ref o), .val (.ref r1), .val (.int (1 : Int32)), .unset] [(.int (1 : Int32)), (.int x), (.int (0 : Int32)), (.ref r1)]))
  refine OGo.by_ (fun t k => XS.ixor X9.here hx rfl (hb hby at_140) rfl k) ?_
  show OGo p e below _ (T9.setTop (mkF m 141 #[.val (.int p1), .val (.int p2), .val (.int p3), .val (.int p4), .val (.int (3 : Int32)), .val (.int w5), .val (.int x), .val (.int y), .val (.int z), .val (.ref ai), .val (.ref o), .val (.ref r1), .val (.int (1 : Int32)), .unset] [(.int (x ^^^ (1 : Int32))), (.int (0 : Int32)), (.ref r1)]))
  obtain ⟨cl11, Ar11, q11, S11, Nn11, H11, G11⟩ := id V7
  obtain ⟨T12, h12, X12, e12, W12, st12⟩ := stI X9 hx hZ eq9 Ar11 (j := (0 : Int32)) (inb_of S11 ⟨(by decide : ¬ (0 : Int32) < 0), (by decide : (0 : Int32) < (3 : Int32))⟩) (g := (mkF m 141 #[.val (.int p1), .val (.int p2), .val (.int p3), .val (.int p4), .val (.int (3 : Int32)), .val (.int w5), .val (.int x), .val (.int y), .val (.int z), .val (.ref ai), .val (.ref o), .val (.ref r1), .val (.int (1 : Int32)), .unset] [(.int (x ^^^ (1 : Int32))), (.int (0 : Int32)), (.ref r1)])) rfl rfl (hb hby at_141)
  refine OGo.by_ st12 ?_
  show OGo p e below _ (T12.setTop (mkF m 142 #[.val (.int p1), .val (.int p2), .val (.int p3), .val (.int p4), .val (.int (3 : Int32)), .val (.int w5), .val (.int x), .val (.int y), .val (.int z), .val (.ref ai), .val (.ref o), .val (.ref r1), .val (.int (1 : Int32)), .unset] []))
  have N12 := Fr.snoc X12 N9 gr1
  have ST6 := own_ST_keep ST5 (Keep.of_wr W12) (own_nin1 (own_ne (by omega))) (own_nin1 (own_ne (by omega)))
  have Z6 : n0 ≤ h12.size := by rw [W12.size]; exact Z5
  refine OGo.by_ (fun t k => XS.aload X12.here hx rfl (hb hby at_142) rfl rfl k) ?_
  show OGo p e below _ (T12.setTop (mkF m 144 #[.val (.int p1), .val (.int p2), .val (.int p3), .val (.int p4), .val (.int (3 : Int32)), .val (.int w5), .val (.int x), .val (.int y), .val (.int z), .val (.ref ai), .val (.ref o), .val (.ref r1), .val (.int (1 : Int32)), .unset] [(.ref o)]))
  obtain ⟨cq14, kq14, qa14, qb14, qc14⟩ := isOf hZ e12 ST6.1
  obtain ⟨_, _, ⟨T13, L13, k13, n13⟩, -, X13, ⟨Lc13, hQ13, l13, y13, z13⟩, st13⟩ := X12.virtualBack hx (y := (⟨"com/example/fair_witness/fairwitness/model/State", "valueIndices", "()[I"⟩ : MethodName)) (z := (⟨"com/example/fair_witness/fairwitness/model/State", "valueIndices", "()[I"⟩ : MethodName)) hown (mvT hZ (hw _ (List.mem_of_getElem? (i := 19) rfl))) (mvT hZ (hw _ (List.mem_of_getElem? (i := 20) rfl))) (notFace_of_selects (args := #[]) (mvT hZ (hw _ (List.mem_of_getElem? (i := 22) rfl)))) (mvT hZ (hw _ (List.mem_of_getElem? (i := 22) rfl))) (mvT hZ (hw _ (List.mem_of_getElem? (i := 21) rfl))) (by decide) (backOf (W := 0) (rm_vi3 l Z a0 hw [] o b x y z h12 n0 Z6 ST6) hZ (hw _ (List.mem_of_getElem? (i := 23) rfl)) (hw _ (List.mem_of_getElem? (i := 7) rfl)) (by decide) (by decide)) qa14 qc14 (g := (mkF m 144 #[.val (.int p1), .val (.int p2), .val (.int p3), .val (.int p4), .val (.int (3 : Int32)), .val (.int w5), .val (.int x), .val (.int y), .val (.int z), .val (.ref ai), .val (.ref o), .val (.ref r1), .val (.int (1 : Int32)), .unset] [(.ref o)])) rfl (by rw [hml]; rfl) (Steps.refl _) (argsL := []) (rest := []) (lenOf pd_ocAI rfl) rfl (by show 2 * 0 + _ ≤ _; exact Nat.le_of_eq rfl) (hb hby at_144) (fun _ _ => ⟨rfl, e12, (by decide : 4 + 1 ≤ _), (by decide : 11 + 3 ≤ _)⟩)
  dsimp only [Pt.U, Pt.locs, Pt.cells, Pt.slots] at X13 l13 y13 z13 st13 hQ13
  subst l13 y13 z13
  obtain ⟨rfl, Nq13, K13, kk13, V13⟩ := hQ13
  have N13 := Fr.app N12 Nq13
  refine OGo.by_ (fun t k => st13.trans k) ?_
  show OGo p e below _ (T13.setTop (mkF m 147 #[.val (.int p1), .val (.int p2), .val (.int p3), .val (.int p4), .val (.int (3 : Int32)), .val (.int w5), .val (.int x), .val (.int y), .val (.int z), .val (.ref ai), .val (.ref o), .val (.ref r1), .val (.int (1 : Int32)), .unset] [(.ref h12.size)]))
  refine OGo.by_ (fun t k => XS.astore X13.here hx rfl (hb hby at_147) rfl rfl (l' := #[.val (.int p1), .val (.int p2), .val (.int p3), .val (.int p4), .val (.int (3 : Int32)), .val (.int w5), .val (.int x), .val (.int y), .val (.int z), .val (.ref ai), .val (.ref o), .val (.ref r1), .val (.int (1 : Int32)), .val (.ref h12.size)]) rfl k) ?_
  show OGo p e below _ (T13.setTop (mkF m 149 #[.val (.int p1), .val (.int p2), .val (.int p3), .val (.int p4), .val (.int (3 : Int32)), .val (.int w5), .val (.int x), .val (.int y), .val (.int z), .val (.ref ai), .val (.ref o), .val (.ref r1), .val (.int (1 : Int32)), .val (.ref h12.size)] []))
  refine OGo.by_ (fun t k => XS.iload X13.here hx rfl (hb hby at_149) rfl k) ?_
  show OGo p e below _ (T13.setTop (mkF m 151 #[.val (.int p1), .val (.int p2), .val (.int p3), .val (.int p4), .val (.int (3 : Int32)), .val (.int w5), .val (.int x), .val (.int y), .val (.int z), .val (.ref ai), .val (.ref o), .val (.ref r1), .val (.int (1 : Int32)), .val (.ref h12.size)] [(.int (1 : Int32))]))
  refine OGo.by_ (fun t k => XS.ifNo X13.here hx rfl (hb hby at_151) rfl ((if0 _ _).trans (feq (by decide)).1) k) ?_
  show OGo p e below _ (T13.setTop (mkF m 154 #[.val (.int p1), .val (.int p2), .val (.int p3), .val (.int p4), .val (.int (3 : Int32)), .val (.int w5), .val (.int x), .val (.int y), .val (.int z), .val (.ref ai), .val (.ref o), .val (.ref r1), .val (.int (1 : Int32)), .val (.ref h12.size)] []))
  have Z7 : n0 ≤ T13.heap.size := Nat.le_trans Z6 K13.1
  refine OGo.by_ (fun t k => XS.aload X13.here hx rfl (hb hby at_154) rfl rfl k) ?_
  show OGo p e below _ (T13.setTop (mkF m 156 #[.val (.int p1), .val (.int p2), .val (.int p3), .val (.int p4), .val (.int (3 : Int32)), .val (.int w5), .val (.int x), .val (.int y), .val (.int z), .val (.ref ai), .val (.ref o), .val (.ref r1), .val (.int (1 : Int32)), .val (.ref h12.size)] [(.ref h12.size)]))
  refine OGo.by_ (fun t k => XS.iload X13.here hx rfl (hb hby at_156) rfl k) ?_
  show OGo p e below _ (T13.setTop (mkF m 158 #[.val (.int p1), .val (.int p2), .val (.int p3), .val (.int p4), .val (.int (3 : Int32)), .val (.int w5), .val (.int x), .val (.int y), .val (.int z), .val (.ref ai), .val (.ref o), .val (.ref r1), .val (.int (1 : Int32)), .val (.ref h12.size)] [(.int (3 : Int32)), (.ref h12.size)]))
  refine OGo.by_ (fun t k => XS.iload X13.here hx rfl (hb hby at_158) rfl k) ?_
  show OGo p e below _ (T13.setTop (mkF m 160 #[.val (.int p1), .val (.int p2), .val (.int p3), .val (.int p4), .val (.int (3 : Int32)), .val (.int w5), .val (.int x), .val (.int y), .val (.int z), .val (.ref ai), .val (.ref o), .val (.ref r1), .val (.int (1 : Int32)), .val (.ref h12.size)] [(.int x), (.int (3 : Int32)), (.ref h12.size)]))
  refine OGo.by_ (fun t k => XS.iload X13.here hx rfl (hb hby at_160) rfl k) ?_
  show OGo p e below _ (T13.setTop (mkF m 162 #[.val (.int p1), .val (.int p2), .val (.int p3), .val (.int p4), .val (.int (3 : Int32)), .val (.int w5), .val (.int x), .val (.int y), .val (.int z), .val (.ref ai), .val (.ref o), .val (.ref r1), .val (.int (1 : Int32)), .val (.ref h12.size)] [(.int y), (.int x), (.int (3 : Int32)), (.ref h12.size)]))
  refine OGo.by_ (fun t k => XS.iload X13.here hx rfl (hb hby at_162) rfl k) ?_
  show OGo p e below _ (T13.setTop (mkF m 164 #[.val (.int p1), .val (.int p2), .val (.int p3), .val (.int p4), .val (.int (3 : Int32)), .val (.int w5), .val (.int x), .val (.int y), .val (.int z), .val (.ref ai), .val (.ref o), .val (.ref r1), .val (.int (1 : Int32)), .val (.ref h12.size)] [(.int z), (.int y), (.int x), (.int (3 : Int32)), (.ref h12.size)]))
  obtain ⟨_, _, ⟨T15, L15, k15, n15⟩, -, X15, ⟨Lc15, hQ15, l15, y15, z15⟩, st15⟩ := Jvm.LawKit.callS X13 hx (y := (⟨"com/example/fair_witness/fairwitness/model/StateValueIndicesPinLaw", "same", "([IIIII)Z"⟩ : MethodName)) hown (mvT hZ (hw _ (List.mem_of_getElem? (i := 24) rfl))) (mvT hZ (hw _ (List.mem_of_getElem? (i := 25) rfl))) (mvT hZ (hw _ (List.mem_of_getElem? (i := 2) rfl))) (mvT hZ (hw _ (List.mem_of_getElem? (i := 26) rfl))) (by decide) (backOf (W := 0) (rm_sm3 l Z a0 hw [] h12.size kk13 x y z T13.heap n0 Z7 V13) hZ (hw _ (List.mem_of_getElem? (i := 26) rfl)) (hw _ (List.mem_of_getElem? (i := 2) rfl)) (by decide) (by decide)) (g := (mkF m 164 #[.val (.int p1), .val (.int p2), .val (.int p3), .val (.int p4), .val (.int (3 : Int32)), .val (.int w5), .val (.int x), .val (.int y), .val (.int z), .val (.ref ai), .val (.ref o), .val (.ref r1), .val (.int (1 : Int32)), .val (.ref h12.size)] [(.int z), (.int y), (.int x), (.int (3 : Int32)), (.ref h12.size)])) rfl (by rw [hml]; rfl) (argsL := [(.ref h12.size), (.int (3 : Int32)), (.int x), (.int y), (.int z)]) (rest := []) (lenOf pd_oAIIIIIcZ rfl) rfl (by show 2 * 0 + _ ≤ _; exact Nat.le_of_eq rfl) (hb hby at_164) (fun _ _ => ⟨rfl, rfl, (by decide : 5 + 0 ≤ _), (by decide : 14 + 0 ≤ _)⟩)
  dsimp only [Pt.U, Pt.locs, Pt.cells, Pt.slots] at X15 l15 y15 z15 st15 hQ15
  subst l15 y15 z15
  obtain ⟨rfl, Nq15, eq15⟩ := hQ15
  have N15 := Fr.app N13 Nq15
  refine OGo.by_ st15 ?_
  show OGo p e below _ (T15.setTop (mkF m 167 #[.val (.int p1), .val (.int p2), .val (.int p3), .val (.int p4), .val (.int (3 : Int32)), .val (.int w5), .val (.int x), .val (.int y), .val (.int z), .val (.ref ai), .val (.ref o), .val (.ref r1), .val (.int (1 : Int32)), .val (.ref h12.size)] [(.int (1 : Int32))]))
  refine OGo.by_ (fun t k => XS.ifNo X15.here hx rfl (hb hby at_167) rfl ((if0 _ _).trans (feq (by decide)).1) k) ?_
  show OGo p e below _ (T15.setTop (mkF m 170 #[.val (.int p1), .val (.int p2), .val (.int p3), .val (.int p4), .val (.int (3 : Int32)), .val (.int w5), .val (.int x), .val (.int y), .val (.int z), .val (.ref ai), .val (.ref o), .val (.ref r1), .val (.int (1 : Int32)), .val (.ref h12.size)] []))
  refine OGo.by_ (fun t k => XS.iconst X15.here hx rfl (hb hby at_170) k) ?_
  show OGo p e below _ (T15.setTop (mkF m 171 #[.val (.int p1), .val (.int p2), .val (.int p3), .val (.int p4), .val (.int (3 : Int32)), .val (.int w5), .val (.int x), .val (.int y), .val (.int z), .val (.ref ai), .val (.ref o), .val (.ref r1), .val (.int (1 : Int32)), .val (.ref h12.size)] [(.int (1 : Int32))]))
  refine OGo.by_ (fun t k => XS.goto X15.here hx rfl (pc0 := 171) (pc' := 175) rfl (hb hby at_171) (by decide) (by decide) k) ?_
  show OGo p e below _ (T15.setTop (mkF m 175 #[.val (.int p1), .val (.int p2), .val (.int p3), .val (.int p4), .val (.int (3 : Int32)), .val (.int w5), .val (.int x), .val (.int y), .val (.int z), .val (.ref ai), .val (.ref o), .val (.ref r1), .val (.int (1 : Int32)), .val (.ref h12.size)] [(.int (1 : Int32))]))
  exact own_retN X15 hx hlk (t := .boolean) hret (by simp) (hb hby at_175) (by decide) (by decide) (⟨rfl, N15⟩)
theorem ef_law (m : MethodId) (x0 : Int32) (x1 : Int32) (x2 : Int32) (x3 : Int32) : entryFrame m #[(.int x0), (.int x1), (.int x2), (.int x3)] maxLocals = mkF m 0 #[.val (.int x0), .val (.int x1), .val (.int x2), .val (.int x3), .unset, .unset, .unset, .unset, .unset, .unset, .unset, .unset, .unset, .unset] [] := by first | (simp [entryFrame, mkF, argsToLocals, Value.category, maxLocals]; done) | rfl
def Q_law (Z : State) (p1 p2 p3 p4 : Int32) (h0 : Heap) (n0 : Nat) (v : Option Value) (h : Heap) (L : List Loc) : Prop := v = some (.int 1) ∧ Fr n0 L
set_option maxRecDepth 65536 in
set_option maxHeartbeats 40000000 in
theorem rm_law (l : Launch) (Z : State) (a0 : Array Value) (hw : ∀ d ∈ tables_1, d.before a0 Z = true) (ws : List Jvm.Cond) (p1 p2 p3 p4 : Int32) (h0 : Heap) (n0 : Nat) (Z0 : n0 ≤ h0.size)  :
    MetFree l x (head1 (Jvm.Cond.code x code maxLocals ret :: ws) room_1) (fun a_ U => a_ = #[(.int p1), (.int p2), (.int p3), (.int p4)] ∧ Z.Warmed39 U.vm ∧ U.heap = h0) (fun _ _ _ _ _ => True) (fun _ U o U' => ∃ v L, o = .returned v ∧ Q_law Z p1 p2 p3 p4 h0 n0 v U'.heap L ∧ FrameEnd U o U' L room_1.cells room_1.slots) := by
  refine MetFree.of_bodySF (plainFor_of_name pn_com_example_fair_witness_fairwitness_model_StateValueIndicesPinLaw) hisR ?_
  intro p e s m args below meth c s₁ Bd hml0 hP hK
  obtain ⟨rfl, hZ, hh⟩ := hP
  have hx := Bd.exec
  have hby := Bd.bytes
  have hml : c.maxLocals = 14 := hml0
  have hown : s.vm.findClass "com/example/fair_witness/fairwitness/model/StateValueIndicesPinLaw" = some m.cls := findClass_of_methodNamed Bd.named
  have hnm := (name_of_methodNamed Bd.named Bd.method).1
  have X0 : Stand p l e room_1 s m #[(.int p1), (.int p2), (.int p3), (.int p4)] below meth c s₁ [] 0 0 := Stand.of_body Bd
  have e0 : s₁.heap = h0 := by rw [← hh, Bd.state]; rfl
  have N0 := Fr.nil n0
  have hlk := Bd.notSynchronized
  have hret := Bd.returns
  show OGo p e below (OEnd s (Q_law Z p1 p2 p3 p4 h0 n0) room_1.cells room_1.slots) (s₁.setTop (entryFrame m #[(.int p1), (.int p2), (.int p3), (.int p4)] maxLocals))
  rw [ef_law]
  show OGo p e below _ (s₁.setTop (mkF m 0 #[.val (.int p1), .val (.int p2), .val (.int p3), .val (.int p4), .unset, .unset, .unset, .unset, .unset, .unset, .unset, .unset, .unset, .unset] []))
  refine OGo.by_ (fun t k => XS.iloadN X0.here hx rfl (hb hby at_0) rfl k) ?_
  show OGo p e below _ (s₁.setTop (mkF m 1 #[.val (.int p1), .val (.int p2), .val (.int p3), .val (.int p4), .unset, .unset, .unset, .unset, .unset, .unset, .unset, .unset, .unset, .unset] [(.int p4)]))
  refine OGo.by_ (fun t k => XS.iconst X0.here hx rfl (hb hby at_1) k) ?_
  show OGo p e below _ (s₁.setTop (mkF m 2 #[.val (.int p1), .val (.int p2), .val (.int p3), .val (.int p4), .unset, .unset, .unset, .unset, .unset, .unset, .unset, .unset, .unset, .unset] [(.int (3 : Int32)), (.int p4)]))
  refine OGo.by_ (fun t k => XS.iand X0.here hx rfl (hb hby at_2) rfl k) ?_
  show OGo p e below _ (s₁.setTop (mkF m 3 #[.val (.int p1), .val (.int p2), .val (.int p3), .val (.int p4), .unset, .unset, .unset, .unset, .unset, .unset, .unset, .unset, .unset, .unset] [(.int (p4 &&& (3 : Int32)))]))
  refine OGo.by_ (fun t k => XS.istore X0.here hx rfl (hb hby at_3) rfl (l' := #[.val (.int p1), .val (.int p2), .val (.int p3), .val (.int p4), .val (.int (p4 &&& (3 : Int32))), .unset, .unset, .unset, .unset, .unset, .unset, .unset, .unset, .unset]) rfl k) ?_
  show OGo p e below _ (s₁.setTop (mkF m 5 #[.val (.int p1), .val (.int p2), .val (.int p3), .val (.int p4), .val (.int (p4 &&& (3 : Int32))), .unset, .unset, .unset, .unset, .unset, .unset, .unset, .unset, .unset] []))
  refine OGo.by_ (fun t k => XS.iloadN X0.here hx rfl (hb hby at_5) rfl k) ?_
  show OGo p e below _ (s₁.setTop (mkF m 6 #[.val (.int p1), .val (.int p2), .val (.int p3), .val (.int p4), .val (.int (p4 &&& (3 : Int32))), .unset, .unset, .unset, .unset, .unset, .unset, .unset, .unset, .unset] [(.int p4)]))
  refine OGo.by_ (fun t k => XS.iconst X0.here hx rfl (hb hby at_6) k) ?_
  show OGo p e below _ (s₁.setTop (mkF m 7 #[.val (.int p1), .val (.int p2), .val (.int p3), .val (.int p4), .val (.int (p4 &&& (3 : Int32))), .unset, .unset, .unset, .unset, .unset, .unset, .unset, .unset, .unset] [(.int (4 : Int32)), (.int p4)]))
  refine OGo.by_ (fun t k => XS.iand X0.here hx rfl (hb hby at_7) rfl k) ?_
  show OGo p e below _ (s₁.setTop (mkF m 8 #[.val (.int p1), .val (.int p2), .val (.int p3), .val (.int p4), .val (.int (p4 &&& (3 : Int32))), .unset, .unset, .unset, .unset, .unset, .unset, .unset, .unset, .unset] [(.int (p4 &&& (4 : Int32)))]))
  have D1 : ∀ t, Steps p.tables e below (s₁.setTop (mkF m 16 #[.val (.int p1), .val (.int p2), .val (.int p3), .val (.int p4), .val (.int (p4 &&& (3 : Int32))), .unset, .unset, .unset, .unset, .unset, .unset, .unset, .unset, .unset] [(.int (if (p4 &&& (4 : Int32)) = (0 : Int32) then (0 : Int32) else (1 : Int32)))])) t → Steps p.tables e below (s₁.setTop (mkF m 8 #[.val (.int p1), .val (.int p2), .val (.int p3), .val (.int p4), .val (.int (p4 &&& (3 : Int32))), .unset, .unset, .unset, .unset, .unset, .unset, .unset, .unset, .unset] [(.int (p4 &&& (4 : Int32)))])) t := by
    intro t k
    by_cases hc : (p4 &&& (4 : Int32)) = (0 : Int32)
    · rw [show (if (p4 &&& (4 : Int32)) = (0 : Int32) then (0 : Int32) else (1 : Int32)) = (0 : Int32) from if_pos hc] at k
      refine XS.ifYes X0.here hx rfl (pc0 := 8) (pc' := 15) rfl (hb hby at_8) rfl ((if0 _ _).trans (teq hc).1) (by decide) (by decide) ?_
      show Steps p.tables e below (s₁.setTop (mkF m 15 #[.val (.int p1), .val (.int p2), .val (.int p3), .val (.int p4), .val (.int (p4 &&& (3 : Int32))), .unset, .unset, .unset, .unset, .unset, .unset, .unset, .unset, .unset] [])) _
      refine XS.iconst X0.here hx rfl (hb hby at_15) ?_
      show Steps p.tables e below (s₁.setTop (mkF m 16 #[.val (.int p1), .val (.int p2), .val (.int p3), .val (.int p4), .val (.int (p4 &&& (3 : Int32))), .unset, .unset, .unset, .unset, .unset, .unset, .unset, .unset, .unset] [(.int (0 : Int32))])) _
      first | exact k | (simp only [if_pos hc]; exact k)
    · rw [show (if (p4 &&& (4 : Int32)) = (0 : Int32) then (0 : Int32) else (1 : Int32)) = (1 : Int32) from if_neg hc] at k
      refine XS.ifNo X0.here hx rfl (hb hby at_8) rfl ((if0 _ _).trans (feq hc).1) ?_
      show Steps p.tables e below (s₁.setTop (mkF m 11 #[.val (.int p1), .val (.int p2), .val (.int p3), .val (.int p4), .val (.int (p4 &&& (3 : Int32))), .unset, .unset, .unset, .unset, .unset, .unset, .unset, .unset, .unset] [])) _
      refine XS.iconst X0.here hx rfl (hb hby at_11) ?_
      show Steps p.tables e below (s₁.setTop (mkF m 12 #[.val (.int p1), .val (.int p2), .val (.int p3), .val (.int p4), .val (.int (p4 &&& (3 : Int32))), .unset, .unset, .unset, .unset, .unset, .unset, .unset, .unset, .unset] [(.int (1 : Int32))])) _
      refine XS.goto X0.here hx rfl (pc0 := 12) (pc' := 16) rfl (hb hby at_12) (by decide) (by decide) ?_
      show Steps p.tables e below (s₁.setTop (mkF m 16 #[.val (.int p1), .val (.int p2), .val (.int p3), .val (.int p4), .val (.int (p4 &&& (3 : Int32))), .unset, .unset, .unset, .unset, .unset, .unset, .unset, .unset, .unset] [(.int (1 : Int32))])) _
      first | exact k | (simp only [if_neg hc]; exact k)
  refine OGo.by_ D1 ?_
  show OGo p e below _ (s₁.setTop (mkF m 16 #[.val (.int p1), .val (.int p2), .val (.int p3), .val (.int p4), .val (.int (p4 &&& (3 : Int32))), .unset, .unset, .unset, .unset, .unset, .unset, .unset, .unset, .unset] [(.int (if (p4 &&& (4 : Int32)) = (0 : Int32) then (0 : Int32) else (1 : Int32)))]))
  refine OGo.by_ (fun t k => XS.istore X0.here hx rfl (hb hby at_16) rfl (l' := #[.val (.int p1), .val (.int p2), .val (.int p3), .val (.int p4), .val (.int (p4 &&& (3 : Int32))), .val (.int (if (p4 &&& (4 : Int32)) = (0 : Int32) then (0 : Int32) else (1 : Int32))), .unset, .unset, .unset, .unset, .unset, .unset, .unset, .unset]) rfl k) ?_
  show OGo p e below _ (s₁.setTop (mkF m 18 #[.val (.int p1), .val (.int p2), .val (.int p3), .val (.int p4), .val (.int (p4 &&& (3 : Int32))), .val (.int (if (p4 &&& (4 : Int32)) = (0 : Int32) then (0 : Int32) else (1 : Int32))), .unset, .unset, .unset, .unset, .unset, .unset, .unset, .unset] []))
  refine OGo.by_ (fun t k => XS.iload X0.here hx rfl (hb hby at_18) rfl k) ?_
  show OGo p e below _ (s₁.setTop (mkF m 20 #[.val (.int p1), .val (.int p2), .val (.int p3), .val (.int p4), .val (.int (p4 &&& (3 : Int32))), .val (.int (if (p4 &&& (4 : Int32)) = (0 : Int32) then (0 : Int32) else (1 : Int32))), .unset, .unset, .unset, .unset, .unset, .unset, .unset, .unset] [(.int (if (p4 &&& (4 : Int32)) = (0 : Int32) then (0 : Int32) else (1 : Int32)))]))
  have D2 : ∀ t, Steps p.tables e below (s₁.setTop (mkF m 32 #[.val (.int p1), .val (.int p2), .val (.int p3), .val (.int p4), .val (.int (p4 &&& (3 : Int32))), .val (.int (if (p4 &&& (4 : Int32)) = (0 : Int32) then (0 : Int32) else (1 : Int32))), .unset, .unset, .unset, .unset, .unset, .unset, .unset, .unset] [(.int (if (if (p4 &&& (4 : Int32)) = (0 : Int32) then (0 : Int32) else (1 : Int32)) = (0 : Int32) then p1 else (p1 &&& (511 : Int32))))])) t → Steps p.tables e below (s₁.setTop (mkF m 20 #[.val (.int p1), .val (.int p2), .val (.int p3), .val (.int p4), .val (.int (p4 &&& (3 : Int32))), .val (.int (if (p4 &&& (4 : Int32)) = (0 : Int32) then (0 : Int32) else (1 : Int32))), .unset, .unset, .unset, .unset, .unset, .unset, .unset, .unset] [(.int (if (p4 &&& (4 : Int32)) = (0 : Int32) then (0 : Int32) else (1 : Int32)))])) t := by
    intro t k
    by_cases hc : (if (p4 &&& (4 : Int32)) = (0 : Int32) then (0 : Int32) else (1 : Int32)) = (0 : Int32)
    · rw [show (if (if (p4 &&& (4 : Int32)) = (0 : Int32) then (0 : Int32) else (1 : Int32)) = (0 : Int32) then p1 else (p1 &&& (511 : Int32))) = p1 from if_pos hc] at k
      refine XS.ifYes X0.here hx rfl (pc0 := 20) (pc' := 31) rfl (hb hby at_20) rfl ((if0 _ _).trans (teq hc).1) (by decide) (by decide) ?_
      show Steps p.tables e below (s₁.setTop (mkF m 31 #[.val (.int p1), .val (.int p2), .val (.int p3), .val (.int p4), .val (.int (p4 &&& (3 : Int32))), .val (.int (if (p4 &&& (4 : Int32)) = (0 : Int32) then (0 : Int32) else (1 : Int32))), .unset, .unset, .unset, .unset, .unset, .unset, .unset, .unset] [])) _
      refine XS.iloadN X0.here hx rfl (hb hby at_31) rfl ?_
      show Steps p.tables e below (s₁.setTop (mkF m 32 #[.val (.int p1), .val (.int p2), .val (.int p3), .val (.int p4), .val (.int (p4 &&& (3 : Int32))), .val (.int (if (p4 &&& (4 : Int32)) = (0 : Int32) then (0 : Int32) else (1 : Int32))), .unset, .unset, .unset, .unset, .unset, .unset, .unset, .unset] [(.int p1)])) _
      first | exact k | (simp only [if_pos hc]; exact k)
    · rw [show (if (if (p4 &&& (4 : Int32)) = (0 : Int32) then (0 : Int32) else (1 : Int32)) = (0 : Int32) then p1 else (p1 &&& (511 : Int32))) = (p1 &&& (511 : Int32)) from if_neg hc] at k
      refine XS.ifNo X0.here hx rfl (hb hby at_20) rfl ((if0 _ _).trans (feq hc).1) ?_
      show Steps p.tables e below (s₁.setTop (mkF m 23 #[.val (.int p1), .val (.int p2), .val (.int p3), .val (.int p4), .val (.int (p4 &&& (3 : Int32))), .val (.int (if (p4 &&& (4 : Int32)) = (0 : Int32) then (0 : Int32) else (1 : Int32))), .unset, .unset, .unset, .unset, .unset, .unset, .unset, .unset] [])) _
      refine XS.iloadN X0.here hx rfl (hb hby at_23) rfl ?_
      show Steps p.tables e below (s₁.setTop (mkF m 24 #[.val (.int p1), .val (.int p2), .val (.int p3), .val (.int p4), .val (.int (p4 &&& (3 : Int32))), .val (.int (if (p4 &&& (4 : Int32)) = (0 : Int32) then (0 : Int32) else (1 : Int32))), .unset, .unset, .unset, .unset, .unset, .unset, .unset, .unset] [(.int p1)])) _
      refine XS.sipush X0.here hx rfl (hb hby at_24) ?_
      show Steps p.tables e below (s₁.setTop (mkF m 27 #[.val (.int p1), .val (.int p2), .val (.int p3), .val (.int p4), .val (.int (p4 &&& (3 : Int32))), .val (.int (if (p4 &&& (4 : Int32)) = (0 : Int32) then (0 : Int32) else (1 : Int32))), .unset, .unset, .unset, .unset, .unset, .unset, .unset, .unset] [(.int (511 : Int32)), (.int p1)])) _
      refine XS.iand X0.here hx rfl (hb hby at_27) rfl ?_
      show Steps p.tables e below (s₁.setTop (mkF m 28 #[.val (.int p1), .val (.int p2), .val (.int p3), .val (.int p4), .val (.int (p4 &&& (3 : Int32))), .val (.int (if (p4 &&& (4 : Int32)) = (0 : Int32) then (0 : Int32) else (1 : Int32))), .unset, .unset, .unset, .unset, .unset, .unset, .unset, .unset] [(.int (p1 &&& (511 : Int32)))])) _
      refine XS.goto X0.here hx rfl (pc0 := 28) (pc' := 32) rfl (hb hby at_28) (by decide) (by decide) ?_
      show Steps p.tables e below (s₁.setTop (mkF m 32 #[.val (.int p1), .val (.int p2), .val (.int p3), .val (.int p4), .val (.int (p4 &&& (3 : Int32))), .val (.int (if (p4 &&& (4 : Int32)) = (0 : Int32) then (0 : Int32) else (1 : Int32))), .unset, .unset, .unset, .unset, .unset, .unset, .unset, .unset] [(.int (p1 &&& (511 : Int32)))])) _
      first | exact k | (simp only [if_neg hc]; exact k)
  refine OGo.by_ D2 ?_
  show OGo p e below _ (s₁.setTop (mkF m 32 #[.val (.int p1), .val (.int p2), .val (.int p3), .val (.int p4), .val (.int (p4 &&& (3 : Int32))), .val (.int (if (p4 &&& (4 : Int32)) = (0 : Int32) then (0 : Int32) else (1 : Int32))), .unset, .unset, .unset, .unset, .unset, .unset, .unset, .unset] [(.int (if (if (p4 &&& (4 : Int32)) = (0 : Int32) then (0 : Int32) else (1 : Int32)) = (0 : Int32) then p1 else (p1 &&& (511 : Int32))))]))
  refine OGo.by_ (fun t k => XS.istore X0.here hx rfl (hb hby at_32) rfl (l' := #[.val (.int p1), .val (.int p2), .val (.int p3), .val (.int p4), .val (.int (p4 &&& (3 : Int32))), .val (.int (if (p4 &&& (4 : Int32)) = (0 : Int32) then (0 : Int32) else (1 : Int32))), .val (.int (if (if (p4 &&& (4 : Int32)) = (0 : Int32) then (0 : Int32) else (1 : Int32)) = (0 : Int32) then p1 else (p1 &&& (511 : Int32)))), .unset, .unset, .unset, .unset, .unset, .unset, .unset]) rfl k) ?_
  show OGo p e below _ (s₁.setTop (mkF m 34 #[.val (.int p1), .val (.int p2), .val (.int p3), .val (.int p4), .val (.int (p4 &&& (3 : Int32))), .val (.int (if (p4 &&& (4 : Int32)) = (0 : Int32) then (0 : Int32) else (1 : Int32))), .val (.int (if (if (p4 &&& (4 : Int32)) = (0 : Int32) then (0 : Int32) else (1 : Int32)) = (0 : Int32) then p1 else (p1 &&& (511 : Int32)))), .unset, .unset, .unset, .unset, .unset, .unset, .unset] []))
  refine OGo.by_ (fun t k => XS.iload X0.here hx rfl (hb hby at_34) rfl k) ?_
  show OGo p e below _ (s₁.setTop (mkF m 36 #[.val (.int p1), .val (.int p2), .val (.int p3), .val (.int p4), .val (.int (p4 &&& (3 : Int32))), .val (.int (if (p4 &&& (4 : Int32)) = (0 : Int32) then (0 : Int32) else (1 : Int32))), .val (.int (if (if (p4 &&& (4 : Int32)) = (0 : Int32) then (0 : Int32) else (1 : Int32)) = (0 : Int32) then p1 else (p1 &&& (511 : Int32)))), .unset, .unset, .unset, .unset, .unset, .unset, .unset] [(.int (if (p4 &&& (4 : Int32)) = (0 : Int32) then (0 : Int32) else (1 : Int32)))]))
  have D3 : ∀ t, Steps p.tables e below (s₁.setTop (mkF m 48 #[.val (.int p1), .val (.int p2), .val (.int p3), .val (.int p4), .val (.int (p4 &&& (3 : Int32))), .val (.int (if (p4 &&& (4 : Int32)) = (0 : Int32) then (0 : Int32) else (1 : Int32))), .val (.int (if (if (p4 &&& (4 : Int32)) = (0 : Int32) then (0 : Int32) else (1 : Int32)) = (0 : Int32) then p1 else (p1 &&& (511 : Int32)))), .unset, .unset, .unset, .unset, .unset, .unset, .unset] [(.int (if (if (p4 &&& (4 : Int32)) = (0 : Int32) then (0 : Int32) else (1 : Int32)) = (0 : Int32) then p2 else (p2 &&& (511 : Int32))))])) t → Steps p.tables e below (s₁.setTop (mkF m 36 #[.val (.int p1), .val (.int p2), .val (.int p3), .val (.int p4), .val (.int (p4 &&& (3 : Int32))), .val (.int (if (p4 &&& (4 : Int32)) = (0 : Int32) then (0 : Int32) else (1 : Int32))), .val (.int (if (if (p4 &&& (4 : Int32)) = (0 : Int32) then (0 : Int32) else (1 : Int32)) = (0 : Int32) then p1 else (p1 &&& (511 : Int32)))), .unset, .unset, .unset, .unset, .unset, .unset, .unset] [(.int (if (p4 &&& (4 : Int32)) = (0 : Int32) then (0 : Int32) else (1 : Int32)))])) t := by
    intro t k
    by_cases hc : (if (p4 &&& (4 : Int32)) = (0 : Int32) then (0 : Int32) else (1 : Int32)) = (0 : Int32)
    · rw [show (if (if (p4 &&& (4 : Int32)) = (0 : Int32) then (0 : Int32) else (1 : Int32)) = (0 : Int32) then p2 else (p2 &&& (511 : Int32))) = p2 from if_pos hc] at k
      refine XS.ifYes X0.here hx rfl (pc0 := 36) (pc' := 47) rfl (hb hby at_36) rfl ((if0 _ _).trans (teq hc).1) (by decide) (by decide) ?_
      show Steps p.tables e below (s₁.setTop (mkF m 47 #[.val (.int p1), .val (.int p2), .val (.int p3), .val (.int p4), .val (.int (p4 &&& (3 : Int32))), .val (.int (if (p4 &&& (4 : Int32)) = (0 : Int32) then (0 : Int32) else (1 : Int32))), .val (.int (if (if (p4 &&& (4 : Int32)) = (0 : Int32) then (0 : Int32) else (1 : Int32)) = (0 : Int32) then p1 else (p1 &&& (511 : Int32)))), .unset, .unset, .unset, .unset, .unset, .unset, .unset] [])) _
      refine XS.iloadN X0.here hx rfl (hb hby at_47) rfl ?_
      show Steps p.tables e below (s₁.setTop (mkF m 48 #[.val (.int p1), .val (.int p2), .val (.int p3), .val (.int p4), .val (.int (p4 &&& (3 : Int32))), .val (.int (if (p4 &&& (4 : Int32)) = (0 : Int32) then (0 : Int32) else (1 : Int32))), .val (.int (if (if (p4 &&& (4 : Int32)) = (0 : Int32) then (0 : Int32) else (1 : Int32)) = (0 : Int32) then p1 else (p1 &&& (511 : Int32)))), .unset, .unset, .unset, .unset, .unset, .unset, .unset] [(.int p2)])) _
      first | exact k | (simp only [if_pos hc]; exact k)
    · rw [show (if (if (p4 &&& (4 : Int32)) = (0 : Int32) then (0 : Int32) else (1 : Int32)) = (0 : Int32) then p2 else (p2 &&& (511 : Int32))) = (p2 &&& (511 : Int32)) from if_neg hc] at k
      refine XS.ifNo X0.here hx rfl (hb hby at_36) rfl ((if0 _ _).trans (feq hc).1) ?_
      show Steps p.tables e below (s₁.setTop (mkF m 39 #[.val (.int p1), .val (.int p2), .val (.int p3), .val (.int p4), .val (.int (p4 &&& (3 : Int32))), .val (.int (if (p4 &&& (4 : Int32)) = (0 : Int32) then (0 : Int32) else (1 : Int32))), .val (.int (if (if (p4 &&& (4 : Int32)) = (0 : Int32) then (0 : Int32) else (1 : Int32)) = (0 : Int32) then p1 else (p1 &&& (511 : Int32)))), .unset, .unset, .unset, .unset, .unset, .unset, .unset] [])) _
      refine XS.iloadN X0.here hx rfl (hb hby at_39) rfl ?_
      show Steps p.tables e below (s₁.setTop (mkF m 40 #[.val (.int p1), .val (.int p2), .val (.int p3), .val (.int p4), .val (.int (p4 &&& (3 : Int32))), .val (.int (if (p4 &&& (4 : Int32)) = (0 : Int32) then (0 : Int32) else (1 : Int32))), .val (.int (if (if (p4 &&& (4 : Int32)) = (0 : Int32) then (0 : Int32) else (1 : Int32)) = (0 : Int32) then p1 else (p1 &&& (511 : Int32)))), .unset, .unset, .unset, .unset, .unset, .unset, .unset] [(.int p2)])) _
      refine XS.sipush X0.here hx rfl (hb hby at_40) ?_
      show Steps p.tables e below (s₁.setTop (mkF m 43 #[.val (.int p1), .val (.int p2), .val (.int p3), .val (.int p4), .val (.int (p4 &&& (3 : Int32))), .val (.int (if (p4 &&& (4 : Int32)) = (0 : Int32) then (0 : Int32) else (1 : Int32))), .val (.int (if (if (p4 &&& (4 : Int32)) = (0 : Int32) then (0 : Int32) else (1 : Int32)) = (0 : Int32) then p1 else (p1 &&& (511 : Int32)))), .unset, .unset, .unset, .unset, .unset, .unset, .unset] [(.int (511 : Int32)), (.int p2)])) _
      refine XS.iand X0.here hx rfl (hb hby at_43) rfl ?_
      show Steps p.tables e below (s₁.setTop (mkF m 44 #[.val (.int p1), .val (.int p2), .val (.int p3), .val (.int p4), .val (.int (p4 &&& (3 : Int32))), .val (.int (if (p4 &&& (4 : Int32)) = (0 : Int32) then (0 : Int32) else (1 : Int32))), .val (.int (if (if (p4 &&& (4 : Int32)) = (0 : Int32) then (0 : Int32) else (1 : Int32)) = (0 : Int32) then p1 else (p1 &&& (511 : Int32)))), .unset, .unset, .unset, .unset, .unset, .unset, .unset] [(.int (p2 &&& (511 : Int32)))])) _
      refine XS.goto X0.here hx rfl (pc0 := 44) (pc' := 48) rfl (hb hby at_44) (by decide) (by decide) ?_
      show Steps p.tables e below (s₁.setTop (mkF m 48 #[.val (.int p1), .val (.int p2), .val (.int p3), .val (.int p4), .val (.int (p4 &&& (3 : Int32))), .val (.int (if (p4 &&& (4 : Int32)) = (0 : Int32) then (0 : Int32) else (1 : Int32))), .val (.int (if (if (p4 &&& (4 : Int32)) = (0 : Int32) then (0 : Int32) else (1 : Int32)) = (0 : Int32) then p1 else (p1 &&& (511 : Int32)))), .unset, .unset, .unset, .unset, .unset, .unset, .unset] [(.int (p2 &&& (511 : Int32)))])) _
      first | exact k | (simp only [if_neg hc]; exact k)
  refine OGo.by_ D3 ?_
  show OGo p e below _ (s₁.setTop (mkF m 48 #[.val (.int p1), .val (.int p2), .val (.int p3), .val (.int p4), .val (.int (p4 &&& (3 : Int32))), .val (.int (if (p4 &&& (4 : Int32)) = (0 : Int32) then (0 : Int32) else (1 : Int32))), .val (.int (if (if (p4 &&& (4 : Int32)) = (0 : Int32) then (0 : Int32) else (1 : Int32)) = (0 : Int32) then p1 else (p1 &&& (511 : Int32)))), .unset, .unset, .unset, .unset, .unset, .unset, .unset] [(.int (if (if (p4 &&& (4 : Int32)) = (0 : Int32) then (0 : Int32) else (1 : Int32)) = (0 : Int32) then p2 else (p2 &&& (511 : Int32))))]))
  refine OGo.by_ (fun t k => XS.istore X0.here hx rfl (hb hby at_48) rfl (l' := #[.val (.int p1), .val (.int p2), .val (.int p3), .val (.int p4), .val (.int (p4 &&& (3 : Int32))), .val (.int (if (p4 &&& (4 : Int32)) = (0 : Int32) then (0 : Int32) else (1 : Int32))), .val (.int (if (if (p4 &&& (4 : Int32)) = (0 : Int32) then (0 : Int32) else (1 : Int32)) = (0 : Int32) then p1 else (p1 &&& (511 : Int32)))), .val (.int (if (if (p4 &&& (4 : Int32)) = (0 : Int32) then (0 : Int32) else (1 : Int32)) = (0 : Int32) then p2 else (p2 &&& (511 : Int32)))), .unset, .unset, .unset, .unset, .unset, .unset]) rfl k) ?_
  show OGo p e below _ (s₁.setTop (mkF m 50 #[.val (.int p1), .val (.int p2), .val (.int p3), .val (.int p4), .val (.int (p4 &&& (3 : Int32))), .val (.int (if (p4 &&& (4 : Int32)) = (0 : Int32) then (0 : Int32) else (1 : Int32))), .val (.int (if (if (p4 &&& (4 : Int32)) = (0 : Int32) then (0 : Int32) else (1 : Int32)) = (0 : Int32) then p1 else (p1 &&& (511 : Int32)))), .val (.int (if (if (p4 &&& (4 : Int32)) = (0 : Int32) then (0 : Int32) else (1 : Int32)) = (0 : Int32) then p2 else (p2 &&& (511 : Int32)))), .unset, .unset, .unset, .unset, .unset, .unset] []))
  refine OGo.by_ (fun t k => XS.iload X0.here hx rfl (hb hby at_50) rfl k) ?_
  show OGo p e below _ (s₁.setTop (mkF m 52 #[.val (.int p1), .val (.int p2), .val (.int p3), .val (.int p4), .val (.int (p4 &&& (3 : Int32))), .val (.int (if (p4 &&& (4 : Int32)) = (0 : Int32) then (0 : Int32) else (1 : Int32))), .val (.int (if (if (p4 &&& (4 : Int32)) = (0 : Int32) then (0 : Int32) else (1 : Int32)) = (0 : Int32) then p1 else (p1 &&& (511 : Int32)))), .val (.int (if (if (p4 &&& (4 : Int32)) = (0 : Int32) then (0 : Int32) else (1 : Int32)) = (0 : Int32) then p2 else (p2 &&& (511 : Int32)))), .unset, .unset, .unset, .unset, .unset, .unset] [(.int (if (p4 &&& (4 : Int32)) = (0 : Int32) then (0 : Int32) else (1 : Int32)))]))
  have D4 : ∀ t, Steps p.tables e below (s₁.setTop (mkF m 64 #[.val (.int p1), .val (.int p2), .val (.int p3), .val (.int p4), .val (.int (p4 &&& (3 : Int32))), .val (.int (if (p4 &&& (4 : Int32)) = (0 : Int32) then (0 : Int32) else (1 : Int32))), .val (.int (if (if (p4 &&& (4 : Int32)) = (0 : Int32) then (0 : Int32) else (1 : Int32)) = (0 : Int32) then p1 else (p1 &&& (511 : Int32)))), .val (.int (if (if (p4 &&& (4 : Int32)) = (0 : Int32) then (0 : Int32) else (1 : Int32)) = (0 : Int32) then p2 else (p2 &&& (511 : Int32)))), .unset, .unset, .unset, .unset, .unset, .unset] [(.int (if (if (p4 &&& (4 : Int32)) = (0 : Int32) then (0 : Int32) else (1 : Int32)) = (0 : Int32) then p3 else (p3 &&& (511 : Int32))))])) t → Steps p.tables e below (s₁.setTop (mkF m 52 #[.val (.int p1), .val (.int p2), .val (.int p3), .val (.int p4), .val (.int (p4 &&& (3 : Int32))), .val (.int (if (p4 &&& (4 : Int32)) = (0 : Int32) then (0 : Int32) else (1 : Int32))), .val (.int (if (if (p4 &&& (4 : Int32)) = (0 : Int32) then (0 : Int32) else (1 : Int32)) = (0 : Int32) then p1 else (p1 &&& (511 : Int32)))), .val (.int (if (if (p4 &&& (4 : Int32)) = (0 : Int32) then (0 : Int32) else (1 : Int32)) = (0 : Int32) then p2 else (p2 &&& (511 : Int32)))), .unset, .unset, .unset, .unset, .unset, .unset] [(.int (if (p4 &&& (4 : Int32)) = (0 : Int32) then (0 : Int32) else (1 : Int32)))])) t := by
    intro t k
    by_cases hc : (if (p4 &&& (4 : Int32)) = (0 : Int32) then (0 : Int32) else (1 : Int32)) = (0 : Int32)
    · rw [show (if (if (p4 &&& (4 : Int32)) = (0 : Int32) then (0 : Int32) else (1 : Int32)) = (0 : Int32) then p3 else (p3 &&& (511 : Int32))) = p3 from if_pos hc] at k
      refine XS.ifYes X0.here hx rfl (pc0 := 52) (pc' := 63) rfl (hb hby at_52) rfl ((if0 _ _).trans (teq hc).1) (by decide) (by decide) ?_
      show Steps p.tables e below (s₁.setTop (mkF m 63 #[.val (.int p1), .val (.int p2), .val (.int p3), .val (.int p4), .val (.int (p4 &&& (3 : Int32))), .val (.int (if (p4 &&& (4 : Int32)) = (0 : Int32) then (0 : Int32) else (1 : Int32))), .val (.int (if (if (p4 &&& (4 : Int32)) = (0 : Int32) then (0 : Int32) else (1 : Int32)) = (0 : Int32) then p1 else (p1 &&& (511 : Int32)))), .val (.int (if (if (p4 &&& (4 : Int32)) = (0 : Int32) then (0 : Int32) else (1 : Int32)) = (0 : Int32) then p2 else (p2 &&& (511 : Int32)))), .unset, .unset, .unset, .unset, .unset, .unset] [])) _
      refine XS.iloadN X0.here hx rfl (hb hby at_63) rfl ?_
      show Steps p.tables e below (s₁.setTop (mkF m 64 #[.val (.int p1), .val (.int p2), .val (.int p3), .val (.int p4), .val (.int (p4 &&& (3 : Int32))), .val (.int (if (p4 &&& (4 : Int32)) = (0 : Int32) then (0 : Int32) else (1 : Int32))), .val (.int (if (if (p4 &&& (4 : Int32)) = (0 : Int32) then (0 : Int32) else (1 : Int32)) = (0 : Int32) then p1 else (p1 &&& (511 : Int32)))), .val (.int (if (if (p4 &&& (4 : Int32)) = (0 : Int32) then (0 : Int32) else (1 : Int32)) = (0 : Int32) then p2 else (p2 &&& (511 : Int32)))), .unset, .unset, .unset, .unset, .unset, .unset] [(.int p3)])) _
      first | exact k | (simp only [if_pos hc]; exact k)
    · rw [show (if (if (p4 &&& (4 : Int32)) = (0 : Int32) then (0 : Int32) else (1 : Int32)) = (0 : Int32) then p3 else (p3 &&& (511 : Int32))) = (p3 &&& (511 : Int32)) from if_neg hc] at k
      refine XS.ifNo X0.here hx rfl (hb hby at_52) rfl ((if0 _ _).trans (feq hc).1) ?_
      show Steps p.tables e below (s₁.setTop (mkF m 55 #[.val (.int p1), .val (.int p2), .val (.int p3), .val (.int p4), .val (.int (p4 &&& (3 : Int32))), .val (.int (if (p4 &&& (4 : Int32)) = (0 : Int32) then (0 : Int32) else (1 : Int32))), .val (.int (if (if (p4 &&& (4 : Int32)) = (0 : Int32) then (0 : Int32) else (1 : Int32)) = (0 : Int32) then p1 else (p1 &&& (511 : Int32)))), .val (.int (if (if (p4 &&& (4 : Int32)) = (0 : Int32) then (0 : Int32) else (1 : Int32)) = (0 : Int32) then p2 else (p2 &&& (511 : Int32)))), .unset, .unset, .unset, .unset, .unset, .unset] [])) _
      refine XS.iloadN X0.here hx rfl (hb hby at_55) rfl ?_
      show Steps p.tables e below (s₁.setTop (mkF m 56 #[.val (.int p1), .val (.int p2), .val (.int p3), .val (.int p4), .val (.int (p4 &&& (3 : Int32))), .val (.int (if (p4 &&& (4 : Int32)) = (0 : Int32) then (0 : Int32) else (1 : Int32))), .val (.int (if (if (p4 &&& (4 : Int32)) = (0 : Int32) then (0 : Int32) else (1 : Int32)) = (0 : Int32) then p1 else (p1 &&& (511 : Int32)))), .val (.int (if (if (p4 &&& (4 : Int32)) = (0 : Int32) then (0 : Int32) else (1 : Int32)) = (0 : Int32) then p2 else (p2 &&& (511 : Int32)))), .unset, .unset, .unset, .unset, .unset, .unset] [(.int p3)])) _
      refine XS.sipush X0.here hx rfl (hb hby at_56) ?_
      show Steps p.tables e below (s₁.setTop (mkF m 59 #[.val (.int p1), .val (.int p2), .val (.int p3), .val (.int p4), .val (.int (p4 &&& (3 : Int32))), .val (.int (if (p4 &&& (4 : Int32)) = (0 : Int32) then (0 : Int32) else (1 : Int32))), .val (.int (if (if (p4 &&& (4 : Int32)) = (0 : Int32) then (0 : Int32) else (1 : Int32)) = (0 : Int32) then p1 else (p1 &&& (511 : Int32)))), .val (.int (if (if (p4 &&& (4 : Int32)) = (0 : Int32) then (0 : Int32) else (1 : Int32)) = (0 : Int32) then p2 else (p2 &&& (511 : Int32)))), .unset, .unset, .unset, .unset, .unset, .unset] [(.int (511 : Int32)), (.int p3)])) _
      refine XS.iand X0.here hx rfl (hb hby at_59) rfl ?_
      show Steps p.tables e below (s₁.setTop (mkF m 60 #[.val (.int p1), .val (.int p2), .val (.int p3), .val (.int p4), .val (.int (p4 &&& (3 : Int32))), .val (.int (if (p4 &&& (4 : Int32)) = (0 : Int32) then (0 : Int32) else (1 : Int32))), .val (.int (if (if (p4 &&& (4 : Int32)) = (0 : Int32) then (0 : Int32) else (1 : Int32)) = (0 : Int32) then p1 else (p1 &&& (511 : Int32)))), .val (.int (if (if (p4 &&& (4 : Int32)) = (0 : Int32) then (0 : Int32) else (1 : Int32)) = (0 : Int32) then p2 else (p2 &&& (511 : Int32)))), .unset, .unset, .unset, .unset, .unset, .unset] [(.int (p3 &&& (511 : Int32)))])) _
      refine XS.goto X0.here hx rfl (pc0 := 60) (pc' := 64) rfl (hb hby at_60) (by decide) (by decide) ?_
      show Steps p.tables e below (s₁.setTop (mkF m 64 #[.val (.int p1), .val (.int p2), .val (.int p3), .val (.int p4), .val (.int (p4 &&& (3 : Int32))), .val (.int (if (p4 &&& (4 : Int32)) = (0 : Int32) then (0 : Int32) else (1 : Int32))), .val (.int (if (if (p4 &&& (4 : Int32)) = (0 : Int32) then (0 : Int32) else (1 : Int32)) = (0 : Int32) then p1 else (p1 &&& (511 : Int32)))), .val (.int (if (if (p4 &&& (4 : Int32)) = (0 : Int32) then (0 : Int32) else (1 : Int32)) = (0 : Int32) then p2 else (p2 &&& (511 : Int32)))), .unset, .unset, .unset, .unset, .unset, .unset] [(.int (p3 &&& (511 : Int32)))])) _
      first | exact k | (simp only [if_neg hc]; exact k)
  refine OGo.by_ D4 ?_
  show OGo p e below _ (s₁.setTop (mkF m 64 #[.val (.int p1), .val (.int p2), .val (.int p3), .val (.int p4), .val (.int (p4 &&& (3 : Int32))), .val (.int (if (p4 &&& (4 : Int32)) = (0 : Int32) then (0 : Int32) else (1 : Int32))), .val (.int (if (if (p4 &&& (4 : Int32)) = (0 : Int32) then (0 : Int32) else (1 : Int32)) = (0 : Int32) then p1 else (p1 &&& (511 : Int32)))), .val (.int (if (if (p4 &&& (4 : Int32)) = (0 : Int32) then (0 : Int32) else (1 : Int32)) = (0 : Int32) then p2 else (p2 &&& (511 : Int32)))), .unset, .unset, .unset, .unset, .unset, .unset] [(.int (if (if (p4 &&& (4 : Int32)) = (0 : Int32) then (0 : Int32) else (1 : Int32)) = (0 : Int32) then p3 else (p3 &&& (511 : Int32))))]))
  refine OGo.by_ (fun t k => XS.istore X0.here hx rfl (hb hby at_64) rfl (l' := #[.val (.int p1), .val (.int p2), .val (.int p3), .val (.int p4), .val (.int (p4 &&& (3 : Int32))), .val (.int (if (p4 &&& (4 : Int32)) = (0 : Int32) then (0 : Int32) else (1 : Int32))), .val (.int (if (if (p4 &&& (4 : Int32)) = (0 : Int32) then (0 : Int32) else (1 : Int32)) = (0 : Int32) then p1 else (p1 &&& (511 : Int32)))), .val (.int (if (if (p4 &&& (4 : Int32)) = (0 : Int32) then (0 : Int32) else (1 : Int32)) = (0 : Int32) then p2 else (p2 &&& (511 : Int32)))), .val (.int (if (if (p4 &&& (4 : Int32)) = (0 : Int32) then (0 : Int32) else (1 : Int32)) = (0 : Int32) then p3 else (p3 &&& (511 : Int32)))), .unset, .unset, .unset, .unset, .unset]) rfl k) ?_
  show OGo p e below _ (s₁.setTop (mkF m 66 #[.val (.int p1), .val (.int p2), .val (.int p3), .val (.int p4), .val (.int (p4 &&& (3 : Int32))), .val (.int (if (p4 &&& (4 : Int32)) = (0 : Int32) then (0 : Int32) else (1 : Int32))), .val (.int (if (if (p4 &&& (4 : Int32)) = (0 : Int32) then (0 : Int32) else (1 : Int32)) = (0 : Int32) then p1 else (p1 &&& (511 : Int32)))), .val (.int (if (if (p4 &&& (4 : Int32)) = (0 : Int32) then (0 : Int32) else (1 : Int32)) = (0 : Int32) then p2 else (p2 &&& (511 : Int32)))), .val (.int (if (if (p4 &&& (4 : Int32)) = (0 : Int32) then (0 : Int32) else (1 : Int32)) = (0 : Int32) then p3 else (p3 &&& (511 : Int32)))), .unset, .unset, .unset, .unset, .unset] []))
  rcases own_and3 p4 with hq | hq | hq | hq
  · rw [hq]; exact sg_n0 X0 hx hZ hw hby hml hown hnm hlk hret e0 N0 Z0
  · rw [hq]; exact sg_n1 X0 hx hZ hw hby hml hown hnm hlk hret e0 N0 Z0
  · rw [hq]; exact sg_n2 X0 hx hZ hw hby hml hown hnm hlk hret e0 N0 Z0
  · rw [hq]; exact sg_n3 X0 hx hZ hw hby hml hown hnm hlk hret e0 N0 Z0
set_option maxRecDepth 65536 in
set_option maxHeartbeats 40000000 in
theorem comes_1 {Post : Tables → Env → Array Value → State → Outcome → State → Prop} (hpost : ∀ tb e args s v u, (limb_1_1.after args s (.returned v) u = true ∧ limb_1_2.after args s (.returned v) u = true ∧ True) → FrameEnd s (.returned v) u (Jvm.fieldLocs frame_1_writes args s ++ Jvm.arrayLocs frame_1_arrays args s ++ Jvm.staticLocs frame_1_statics s) 24 128 → Post tb e args s (.returned v) u) :
    ArmFor flags0 classFile x code maxLocals ret World_1 tables_1 room_1 Calls_1 rest_1 Pre_1 Post := by
  intro l hfl _ _ p e ha hc hk s m args below hf hA hF happ hP
  obtain ⟨hcalls, hrest, hpre⟩ := hP
  obtain ⟨-, -, -, hnamed, -, -, -, hat⟩ := (Spec.applies_iff hf).mp happ
  obtain ⟨hg, hn⟩ := and_e (Cond.before_iff.mp (show (Jvm.Cond.and given_1 narrow_1).before args s = true from hpre))
  obtain ⟨hcount, hg0⟩ := and_e hg
  obtain ⟨ga0, hg1⟩ := and_e hg0
  obtain ⟨ga1, hg2⟩ := and_e hg1
  obtain ⟨ga2, hg3⟩ := and_e hg2
  have ga3 := hg3
  obtain ⟨w0, w1, w2, w3, rfl⟩ : ∃ w0 w1 w2 w3 : Value, args = #[w0, w1, w2, w3] := by
    have hs : args.size = 4 := by simpa [Cond.value, given_1] using hcount
    obtain ⟨L⟩ := args
    match L, hs with
    | [w0, w1, w2, w3], _ => exact ⟨w0, w1, w2, w3, rfl⟩
  have hw := fun d (hd : d ∈ tables_1) => atoms_spec (ws := Jvm.Cond.code x code maxLocals ret :: tables_1) hat d (List.mem_cons_of_mem _ hd)
  have hfit : Fit s := fun {y c} hc i hi => by
    obtain ⟨ha, rfl⟩ := Array.getElem?_eq_some_iff.mp hc
    have q := List.all_eq_true.mp ((Array.all_eq_true_iff_forall_mem.mp hF) _ (Array.getElem_mem ha)) i (List.mem_range.mpr hi)
    simpa [Array.getElem?_eq_getElem hi] using q
  obtain ⟨i0, ei0⟩ := is_v ga0
  obtain rfl : w0 = (.int i0) := Option.some.inj ei0
  obtain ⟨i1, ei1⟩ := is_v ga1
  obtain rfl : w1 = (.int i1) := Option.some.inj ei1
  obtain ⟨i2, ei2⟩ := is_v ga2
  obtain rfl : w2 = (.int i2) := Option.some.inj ei2
  obtain ⟨i3, ei3⟩ := is_v ga3
  obtain rfl : w3 = (.int i3) := Option.some.inj ei3
  obtain ⟨n, o, h1, h2, h3, _, L, rfl, ⟨rfl, N⟩, hq⟩ := rm_law l s _ hw tables_1 i0 i1 i2 i3 s.heap s.heap.size (Nat.le_refl _) p e ha hc hk s m _ below hf ((Spec.applies_iff_loose hf).mp happ).1 ⟨rfl, State.Warmed39.refl s, rfl⟩ trivial
  refine ⟨n, _, h1, h2, h3, hpost _ _ _ _ _ _ ⟨Cond.after_iff.mpr rfl, Cond.after_iff.mpr (eq_i res_at (Term.int_eval (1)) rfl), trivial⟩ ⟨hq.1, hq.2.1, (hq.2.2.sift fun y hy => Or.inr (N y hy)).mono (by decide) (by decide)⟩⟩
theorem main_1_1 : Claimed_1_1 := comes_1 fun _ _ _ _ _ _ h hF => ⟨h.1, hF⟩
theorem main_1_2 : Claimed_1_2 := comes_1 fun _ _ _ _ _ _ h hF => ⟨h.2.1, hF⟩
end Jvm.Pilot.@@N@@
namespace Jvm.Pilot.@@N@@
open Jvm Jvm.ClassFile Sem Op Lib Jvm.Free Jvm.Stand Jvm.Pilot.@@N@@.Jvm.D
/-! MADE BY PROGRAM (witnessworld.py) out of the Statement's table words and the real class files: 9 classes; the members and pool entries that the words name. The judged class is class 1, her method 3. -/
namespace start1
open Jvm.ClassFile
def u (s : String) : CpInfo := .utf8 (stringToUtf16 s)
/-- a pool by its gaps: so many unusable entries, then the entry; so many at the end -/
def gap : Nat → List CpInfo → List CpInfo
  | 0, r => r
  | n + 1, r => .unusable :: gap n r
def poolList (es : List (Nat × CpInfo)) (last : Nat) : List CpInfo := es.foldr (fun e r => gap e.1 (e.2 :: r)) (gap last [])
def pool (es : List (Nat × CpInfo)) (last : Nat) : Array CpInfo := ⟨poolList es last⟩
def fileOf (pool : Array CpInfo) (this : Nat) (attrs : Array Attribute := #[]) (ms : Array MethodInfo := #[]) (fl : Nat := 33) (sup : Nat := 0) (ifs : Array Nat := #[]) (fds : Array FieldInfo := #[]) : ClassFile where
  minorVersion := 0
  majorVersion := 65
  constantPool := pool
  accessFlags := fl
  thisClass := this
  superClass := sup
  interfaces := ifs
  fields := fds
  methods := ms
  attributes := attrs
def plain (name : String) (sup : Option ClassId) : Class where
  name := name
  kind := .ordinary
  loader := none
  accessFlags := 33
  super := sup
  interfaces := #[]
  cf := none
  fields := #[]
  methods := #[]
  instanceTypes := #[]
  staticTypes := #[]
  resolved := #[]
  callSites := []
  init := .initialized
  statics := none
  mirror := none

def pool0 : Array CpInfo := pool [(5, u "<init>"), (0, u "()V"), (1, .class_ 10), (1, u "java/lang/Object"), (85, u "clone"), (0, u "()Ljava/lang/Object;")] 26

def k0c0 : Code := { maxStack := 0, maxLocals := 1, code := object_method_1_code, exceptionTable := #[], attributes := #[] }
def k0m0 : Method := { name := "<init>", desc := "()V", sig := { parameters := [], returnType := none }, accessFlags := 1, code := some k0c0 }
def k0m1 : Method := { name := "clone", desc := "()Ljava/lang/Object;", sig := { parameters := [], returnType := some (.object "java/lang/Object") }, accessFlags := 260, code := none }
/-- java/lang/Object -/
def k0 : Class := { plain "java/lang/Object" none with
  accessFlags := 33
  interfaces := #[]
  cf := some (fileOf pool0 8 #[] #[{ accessFlags := 1, nameIndex := 5, descriptorIndex := 6, attributes := #[] }, { accessFlags := 260, nameIndex := 96, descriptorIndex := 97, attributes := #[] }] 33 0 #[] #[])
  fields := #[]
  methods := #[k0m0, k0m1]
  instanceTypes := #[]
  staticTypes := #[]
  resolved := Array.replicate 124 none
  statics := none }

def pool1 : Array CpInfo := pool [(2, .class_ 4), (1, u "java/lang/Object"), (0, u "<init>"), (0, u "()V"), (0, .methodref 8 9), (0, .class_ 10), (0, .nameAndType 11 12), (0, u "com/example/fair_witness/fairwitness/model/StateValueIndicesPinLaw"), (0, u "make"), (0, u "(IIII)[I"), (0, .class_ 14), (0, u "com/example/fair_witness/fairwitness/model/State"), (0, .methodref 13 16), (0, .nameAndType 5 17), (0, u "([I)V"), (0, .methodref 13 19), (0, .nameAndType 20 21), (0, u "valueIndices"), (0, u "()[I"), (0, .methodref 8 23), (0, .nameAndType 24 25), (0, u "same"), (0, u "([IIIII)Z"), (3, u "law"), (0, u "(IIII)Z")] 4

def k1m0 : Method := { name := "<init>", desc := "()V", sig := { parameters := [], returnType := none }, accessFlags := 1, code := none }
def k1c1 : Code := { maxStack := 4, maxLocals := 4, code := method_2_code, exceptionTable := #[], attributes := #[] }
def k1m1 : Method := { name := "make", desc := "(IIII)[I", sig := { parameters := [.int, .int, .int, .int], returnType := some (.array .int) }, accessFlags := 10, code := some k1c1 }
def k1c2 : Code := { maxStack := 2, maxLocals := 5, code := method_3_code, exceptionTable := #[], attributes := #[] }
def k1m2 : Method := { name := "same", desc := "([IIIII)Z", sig := { parameters := [(.array .int), .int, .int, .int, .int], returnType := some .boolean }, accessFlags := 10, code := some k1c2 }
def k1c3 : Code := { maxStack := 5, maxLocals := 14, code := code, exceptionTable := #[], attributes := #[] }
def k1m3 : Method := { name := "law", desc := "(IIII)Z", sig := { parameters := [.int, .int, .int, .int], returnType := some .boolean }, accessFlags := 9, code := some k1c3 }
/-- com/example/fair_witness/fairwitness/model/StateValueIndicesPinLaw -/
def k1 : Class := { plain "com/example/fair_witness/fairwitness/model/StateValueIndicesPinLaw" (some 0) with
  accessFlags := 49
  interfaces := #[]
  cf := some (fileOf pool1 8 #[] #[{ accessFlags := 1, nameIndex := 5, descriptorIndex := 6, attributes := #[] }, { accessFlags := 10, nameIndex := 11, descriptorIndex := 12, attributes := #[] }, { accessFlags := 10, nameIndex := 24, descriptorIndex := 25, attributes := #[] }, { accessFlags := 9, nameIndex := 29, descriptorIndex := 30, attributes := #[] }] 49 2 #[] #[])
  fields := #[]
  methods := #[k1m0, k1m1, k1m2, k1m3]
  instanceTypes := #[]
  staticTypes := #[]
  resolved := Array.replicate 35 none
  statics := none }

def pool2 : Array CpInfo := pool [(1, .methodref 2 3), (0, .class_ 4), (0, .nameAndType 5 6), (0, u "java/lang/Object"), (0, u "<init>"), (0, u "()V"), (0, .fieldref 8 9), (0, .class_ 10), (0, .nameAndType 11 12), (0, u "com/example/fair_witness/fairwitness/model/State"), (0, u "smallIndices"), (0, u "[B"), (0, .fieldref 8 14), (0, .nameAndType 15 16), (0, u "valueIndices"), (0, u "[I"), (0, .methodref 18 19), (0, .class_ 16), (0, .nameAndType 20 21), (0, u "clone"), (0, u "()Ljava/lang/Object;"), (22, u "([I)V"), (5, u "()[I")] 3

def k2c0 : Code := { maxStack := 4, maxLocals := 7, code := prog_92_method_1_code, exceptionTable := #[], attributes := #[] }
def k2m0 : Method := { name := "<init>", desc := "([I)V", sig := { parameters := [(.array .int)], returnType := none }, accessFlags := 1, code := some k2c0 }
def k2c1 : Code := { maxStack := 4, maxLocals := 3, code := prog_92_method_3_code, exceptionTable := #[], attributes := #[] }
def k2m1 : Method := { name := "valueIndices", desc := "()[I", sig := { parameters := [], returnType := some (.array .int) }, accessFlags := 1, code := some k2c1 }
/-- com/example/fair_witness/fairwitness/model/State -/
def k2 : Class := { plain "com/example/fair_witness/fairwitness/model/State" (some 0) with
  accessFlags := 33
  interfaces := #[]
  cf := some (fileOf pool2 8 #[] #[{ accessFlags := 1, nameIndex := 5, descriptorIndex := 44, attributes := #[] }, { accessFlags := 1, nameIndex := 15, descriptorIndex := 50, attributes := #[] }] 33 2 #[] #[{ accessFlags := 18, nameIndex := 11, descriptorIndex := 12, attributes := #[] }, { accessFlags := 18, nameIndex := 15, descriptorIndex := 16, attributes := #[] }])
  fields := #[{ name := "smallIndices", type := (.array .byte), accessFlags := 18, slot := 0, constantValue := 0 }, { name := "valueIndices", type := (.array .int), accessFlags := 18, slot := 1, constantValue := 0 }]
  methods := #[k2m0, k2m1]
  instanceTypes := #[(.array .byte), (.array .int)]
  staticTypes := #[]
  resolved := Array.replicate 54 none
  statics := none }

def pool3 : Array CpInfo := pool [(1, .class_ 2), (0, u "java/lang/Cloneable"), (0, .class_ 4), (0, u "java/lang/Object")] 2

/-- java/lang/Cloneable -/
def k3 : Class := { plain "java/lang/Cloneable" (some 0) with
  accessFlags := 1537
  interfaces := #[]
  cf := some (fileOf pool3 1 #[] #[] 1537 3 #[] #[])
  fields := #[]
  methods := #[]
  instanceTypes := #[]
  staticTypes := #[]
  resolved := Array.replicate 7 none
  statics := none }

def pool4 : Array CpInfo := pool [(1, u "java/io/Serializable"), (0, .class_ 1), (0, u "java/lang/Object"), (0, .class_ 3)] 3

/-- java/io/Serializable -/
def k4 : Class := { plain "java/io/Serializable" (some 0) with
  accessFlags := 1537
  interfaces := #[]
  cf := some (fileOf pool4 2 #[] #[] 1537 4 #[] #[])
  fields := #[]
  methods := #[]
  instanceTypes := #[]
  staticTypes := #[]
  resolved := Array.replicate 8 none
  statics := none }

/-- the primitive byte -/
def k5 : Class := { plain "byte" none with kind := .primitive 'B', accessFlags := 0x411 }
/-- [B -/
def k6 : Class := { plain "[B" (some 0) with kind := .array 5 .byte, interfaces := #[3, 4], accessFlags := 1041 }

/-- the primitive int -/
def k7 : Class := { plain "int" none with kind := .primitive 'I', accessFlags := 0x411 }
/-- [I -/
def k8 : Class := { plain "[I" (some 0) with kind := .array 7 .int, interfaces := #[3, 4], accessFlags := 1041 }

def heap : Heap := #[]
def classes : Array Class := #[k0, k1, k2, k3, k4, k5, k6, k7, k8]
def interned : List (Array UInt16 × Addr) := []
def slotsUsed : Nat := 0
def theMethod : MethodId := ⟨1, 3⟩
def args0 : Array Value := #[.int 3, .int 1, .int 7, .int 6]
def aboutOver (below : List Frame) : State where
  vm := { classes := classes, interned := interned.toArray }
  heap := heap
  slotsUsed := slotsUsed
  threads := #[{ frames := .invoking theMethod args0 :: below }]
def below0 : List Frame := [.native { method := ⟨0, 0⟩, args := #[] }]
def about1 : State := aboutOver below0
def p0 : Program := .bare "" "" ""
def e0 : Env := launch0.env 0 0 0
theorem w_frames : about1.frames = Frame.invoking theMethod args0 :: below0 := rfl
set_option maxRecDepth 65536 in
theorem w_args : argsFit about1.vm theMethod args0 = true := by decide +kernel
set_option maxRecDepth 65536 in
theorem w_heap : heapFits about1 = true := by decide +kernel
set_option maxRecDepth 65536 in
theorem w_runnable : about1.curStatus? = some .runnable := by decide +kernel
set_option maxRecDepth 65536 in
theorem w_alone : about1.alone = true := by decide +kernel
set_option maxRecDepth 65536 in
theorem w_named : about1.methodNamed? x = some theMethod := by decide +kernel
set_option maxRecDepth 65536 in
theorem w_hears : about1.hears theMethod below0 = true := by decide +kernel
set_option maxRecDepth 65536 in
theorem w_ripe : about1.ripe theMethod args0 below0 = true := by decide +kernel
theorem w_running : about1.status = .running := rfl
set_option maxRecDepth 65536 in
theorem w_room : about1.hasRoom e0.platform room_1 = true :=
  launch0.hasRoom_least _ room_1 (by decide +kernel) (by decide +kernel) (by decide +kernel) (by decide +kernel) (by decide +kernel) (by decide +kernel)
theorem allAtoms_all (ts : List Jvm.Cond) (a : Array Jvm.Value) (st : Jvm.State) : (allAtoms ts).before a st = ts.all (fun c => c.before a st) := by
  induction ts with
  | nil => rfl
  | cons c t ih =>
    show (Jvm.Cond.and c (allAtoms t)).before a st = _
    rw [Jvm.Cond.before_and, ih, List.all_cons]
def words1 : List Jvm.Cond := Jvm.Cond.code x code maxLocals ret :: tables_1
/-- a 'code' word, met by the world's own term for the bytes: nothing is compared byte by byte -/
theorem code_word {y : MethodName} {bytes : ByteArray} {mx : Nat} {rt : Option FieldType} {a : Array Value} {s : State} {m : MethodId} {meth : Method} {c : Code} (h1 : s.methodNamed? y = some m) (h2 : s.vm.method? m = some meth) (h3 : meth.code = some c) (h4 : c.code = bytes)
    (h5 : (c.maxLocals == mx && c.exceptionTable.isEmpty && decide (c.maxStack ≤ mostOperands) && decide (meth.sig.returnType = rt) && !meth.locks && decide (parseMethodDescriptor y.desc = some meth.sig)) = true) : (Jvm.Cond.code y bytes mx rt).before a s = true := by
  simp only [Bool.and_eq_true, beq_iff_eq, Bool.not_eq_true', decide_eq_true_eq] at h5
  obtain ⟨⟨⟨⟨⟨g1, g2⟩, g3⟩, g4⟩, g5⟩, g6⟩ := h5
  simp [Cond.before, Cond.holds, Cond.value, h1, h2, h3, h4, g1, g2, g3, g4, g5, g6]
def isCode : Jvm.Cond → Bool
  | .code _ _ _ _ => true
  | _ => false
theorem all_split {L : List Jvm.Cond} {P : Jvm.Cond → Bool} (h1 : L.all (fun c => isCode c || P c) = true) (h2 : ∀ c ∈ L.filter isCode, P c = true) : L.all P = true := by
  refine List.all_eq_true.mpr fun c hc => ?_
  have h := List.all_eq_true.mp h1 c hc
  rcases Bool.eq_false_or_eq_true (isCode c) with hi | hi
  · exact h2 c (List.mem_filter.mpr ⟨hc, hi⟩)
  · simpa [hi] using h
set_option maxRecDepth 65536 in
theorem w_c0 : (Jvm.Cond.code x code maxLocals ret).before args0 about1 = true := code_word (m := ⟨1, 3⟩) (meth := k1m3) (c := k1c3) (by decide +kernel) rfl rfl rfl (by decide +kernel)
set_option maxRecDepth 65536 in
theorem w_c1 : (Jvm.Cond.code ({ cls := "com/example/fair_witness/fairwitness/model/StateValueIndicesPinLaw", name := "make", desc := "(IIII)[I" } : Jvm.MethodName) method_2_code (4 : Nat) (Option.some (Jvm.ClassFile.FieldType.array Jvm.ClassFile.FieldType.int))).before args0 about1 = true := code_word (m := ⟨1, 1⟩) (meth := k1m1) (c := k1c1) (by decide +kernel) rfl rfl rfl (by decide +kernel)
set_option maxRecDepth 65536 in
theorem w_c2 : (Jvm.Cond.code ({ cls := "com/example/fair_witness/fairwitness/model/State", name := "<init>", desc := "([I)V" } : Jvm.MethodName) prog_92_method_1_code (7 : Nat) (Option.none : Option Jvm.ClassFile.FieldType)).before args0 about1 = true := code_word (m := ⟨2, 0⟩) (meth := k2m0) (c := k2c0) (by decide +kernel) rfl rfl rfl (by decide +kernel)
set_option maxRecDepth 65536 in
theorem w_c3 : (Jvm.Cond.code ({ cls := "java/lang/Object", name := "<init>", desc := "()V" } : Jvm.MethodName) object_method_1_code (1 : Nat) (Option.none : Option Jvm.ClassFile.FieldType)).before args0 about1 = true := code_word (m := ⟨0, 0⟩) (meth := k0m0) (c := k0c0) (by decide +kernel) rfl rfl rfl (by decide +kernel)
set_option maxRecDepth 65536 in
theorem w_c4 : (Jvm.Cond.code ({ cls := "com/example/fair_witness/fairwitness/model/State", name := "valueIndices", desc := "()[I" } : Jvm.MethodName) prog_92_method_3_code (3 : Nat) (Option.some (Jvm.ClassFile.FieldType.array Jvm.ClassFile.FieldType.int))).before args0 about1 = true := code_word (m := ⟨2, 1⟩) (meth := k2m1) (c := k2c1) (by decide +kernel) rfl rfl rfl (by decide +kernel)
set_option maxRecDepth 65536 in
theorem w_c5 : (Jvm.Cond.code ({ cls := "com/example/fair_witness/fairwitness/model/StateValueIndicesPinLaw", name := "same", desc := "([IIIII)Z" } : Jvm.MethodName) method_3_code (5 : Nat) (Option.some Jvm.ClassFile.FieldType.boolean)).before args0 about1 = true := code_word (m := ⟨1, 2⟩) (meth := k1m2) (c := k1c2) (by decide +kernel) rfl rfl rfl (by decide +kernel)
def codes1 : List Jvm.Cond := [Jvm.Cond.code x code maxLocals ret, Jvm.Cond.code ({ cls := "com/example/fair_witness/fairwitness/model/StateValueIndicesPinLaw", name := "make", desc := "(IIII)[I" } : Jvm.MethodName) method_2_code (4 : Nat) (Option.some (Jvm.ClassFile.FieldType.array Jvm.ClassFile.FieldType.int)), Jvm.Cond.code ({ cls := "com/example/fair_witness/fairwitness/model/State", name := "<init>", desc := "([I)V" } : Jvm.MethodName) prog_92_method_1_code (7 : Nat) (Option.none : Option Jvm.ClassFile.FieldType), Jvm.Cond.code ({ cls := "java/lang/Object", name := "<init>", desc := "()V" } : Jvm.MethodName) object_method_1_code (1 : Nat) (Option.none : Option Jvm.ClassFile.FieldType), Jvm.Cond.code ({ cls := "com/example/fair_witness/fairwitness/model/State", name := "valueIndices", desc := "()[I" } : Jvm.MethodName) prog_92_method_3_code (3 : Nat) (Option.some (Jvm.ClassFile.FieldType.array Jvm.ClassFile.FieldType.int)), Jvm.Cond.code ({ cls := "com/example/fair_witness/fairwitness/model/StateValueIndicesPinLaw", name := "same", desc := "([IIIII)Z" } : Jvm.MethodName) method_3_code (5 : Nat) (Option.some Jvm.ClassFile.FieldType.boolean)]
set_option maxRecDepth 65536 in
theorem codes_eq : words1.filter isCode = codes1 := rfl
theorem w_codes : ∀ c ∈ words1.filter isCode, c.before args0 about1 = true := by
  rw [codes_eq]
  intro c hc
  simp only [codes1, List.mem_cons, List.not_mem_nil, or_false] at hc
  rcases hc with rfl | rfl | rfl | rfl | rfl | rfl
  · exact w_c0
  · exact w_c1
  · exact w_c2
  · exact w_c3
  · exact w_c4
  · exact w_c5
set_option maxRecDepth 65536 in
theorem w_t1 : (words1.take 24).all (fun c => isCode c || c.before args0 about1) = true := by decide +kernel
set_option maxRecDepth 65536 in
theorem w_t2 : (words1.drop 24).all (fun c => isCode c || c.before args0 about1) = true := by decide +kernel
theorem w_tables : (allAtoms (Jvm.Cond.code x code maxLocals ret :: tables_1)).before args0 about1 = true := by
  rw [allAtoms_all]
  show words1.all (fun c => c.before args0 about1) = true
  refine all_split ?_ w_codes
  rw [← List.take_append_drop 24 words1, List.all_append, w_t1, w_t2]
  rfl
set_option maxRecDepth 65536 in
theorem w_case : (Jvm.Cond.and given_1 narrow_1).before args0 about1 = true := by decide +kernel
theorem w_applies : (headSpec (Jvm.Cond.code x code maxLocals ret :: tables_1) room_1).applies x e0.platform about1 = true :=
  (Spec.applies_iff w_frames).mpr ⟨w_running, w_runnable, w_alone, w_named, w_hears, w_ripe, w_room, w_tables⟩
theorem atStart : AtStart classFile x code maxLocals ret World_1 tables_1 room_1 Calls_1 rest_1 Pre_1 launch0 p0 e0 about1 theMethod args0 below0 :=
  ⟨lists_1, trivial, launch0.admits_env _ _ _, launch0.least_env, fairChoices_fair.cas, fairChoices_fair.clock, w_frames, w_args, w_heap, w_applies, trivial, trivial, w_case⟩
end start1
theorem witness_1 : WitnessClaimed_1 := ⟨start1.p0, start1.e0, start1.about1, start1.theMethod, start1.args0, start1.below0, start1.atStart⟩
end Jvm.Pilot.@@N@@
