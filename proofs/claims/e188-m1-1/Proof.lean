import JvmDerived
import JvmDerived.Pilot.@@N@@Statement
import JvmDerived.Pilot.@@N@@Code
set_option linter.unusedVariables false
set_option linter.unusedSimpArgs false
namespace Jvm.RoadKit
open Sem ClassFile Op Lib Jvm.Stand Jvm.Free Jvm.LawKit
section OwnKit
variable {p : Program} {l : Launch} {e : Env} {R : Room} {s : State} {m : MethodId} {args : Array Value} {below : List Frame} {meth : Method} {c : Code} {T : State} {locs : List Loc} {cells slots : Nat}
/-- the run from U ends the invocation, and P holds there -/
def OGo (p : Program) (e : Env) (below : List Frame) (P : Outcome → State → Prop) (U : State) : Prop :=
  ∃ s₂ o, Steps p.tables e below U s₂ ∧ s₂.status = .running ∧ Ended s₂ below o ∧ P o s₂
theorem OGo.by_ {P : Outcome → State → Prop} {U U' : State} (h : ∀ t, Steps p.tables e below U' t → Steps p.tables e below U t) (g : OGo p e below P U') : OGo p e below P U := by
  obtain ⟨t, o, a, b⟩ := g
  exact ⟨t, o, h t a, b⟩
abbrev OEnd (s : State) (Q : Option Value → Heap → List Loc → Prop) (k n : Nat) (o : Outcome) (U' : State) : Prop :=
  ∃ v L, o = .returned v ∧ Q v U'.heap L ∧ FrameEnd s o U' L k n
theorem own_lt {a : Addr} {n : Nat} (h : a < n) : @LT.lt Nat instLTNat a n := h
theorem own_ne {a b : Addr} (h : @LT.lt Nat instLTNat a b) : a ≠ b := Nat.ne_of_lt h
theorem own_ne' {a b : Addr} (h : @LT.lt Nat instLTNat b a) : a ≠ b := Nat.ne_of_gt h
variable {Q : Option Value → Heap → List Loc → Prop} {k n : Nat} {pc : Nat} {Ls : Array Slot} {rest : List Value}
theorem own_retW (X : Stand p l e R s m args below meth c T locs cells slots) (hx : p.tables.exec = Jvm.exec) (hlk : meth.locks = false) {w : Value} {t : FieldType} {i : Instr} (hret : meth.sig.returnType = some t) (hn : narrow t w = w)
    (hi : (i = .ireturn ∧ (t = .int ∨ t = .boolean ∨ t = .byte ∨ t = .char ∨ t = .short) ∧ ∃ z, w = .int z) ∨ (i = .lreturn ∧ t = .long ∧ ∃ z, w = .long z) ∨ (i = .dreturn ∧ t = .double ∧ ∃ z, w = .double z) ∨ (i = .freturn ∧ t = .float ∧ ∃ z, w = .float z) ∨ (i = .areturn ∧ t.isReference = true ∧ w.isRef = true))
    (hd : decode c.code pc = .ok (i, 1)) (hk : cells ≤ k) (hs : slots ≤ n) (hQ : Q (some w) T.heap locs) : OGo p e below (OEnd s Q k n) (T.setTop (mkF m pc Ls (w :: rest))) := by
  obtain ⟨fs, hr, hrun, hended, hW, hsame⟩ := X.leave (v := some w) (fun h => by rw [hret] at h; cases h) hlk
  exact ⟨_, _, retOut X hx hret hn hi hd hr, hrun, hended, _, _, rfl, hQ, ⟨_, rfl⟩, hW, hsame.mono hk hs⟩
theorem own_retI (X : Stand p l e R s m args below meth c T locs cells slots) (hx : p.tables.exec = Jvm.exec) (hlk : meth.locks = false) {z : Int32} (hret : meth.sig.returnType = some .int)
    (hd : decode c.code pc = .ok (.ireturn, 1)) (hk : cells ≤ k) (hs : slots ≤ n) (hQ : Q (some (.int z)) T.heap locs) : OGo p e below (OEnd s Q k n) (T.setTop (mkF m pc Ls (.int z :: rest))) :=
  own_retW X hx hlk hret rfl (Or.inl ⟨rfl, Or.inl rfl, z, rfl⟩) hd hk hs hQ
theorem own_retJ (X : Stand p l e R s m args below meth c T locs cells slots) (hx : p.tables.exec = Jvm.exec) (hlk : meth.locks = false) {z : Int64} (hret : meth.sig.returnType = some .long)
    (hd : decode c.code pc = .ok (.lreturn, 1)) (hk : cells ≤ k) (hs : slots ≤ n) (hQ : Q (some (.long z)) T.heap locs) : OGo p e below (OEnd s Q k n) (T.setTop (mkF m pc Ls (.long z :: rest))) :=
  own_retW X hx hlk hret rfl (Or.inr (Or.inl ⟨rfl, rfl, z, rfl⟩)) hd hk hs hQ
theorem own_retA (X : Stand p l e R s m args below meth c T locs cells slots) (hx : p.tables.exec = Jvm.exec) (hlk : meth.locks = false) {w : Value} {t : FieldType} (hret : meth.sig.returnType = some t) (ht : t.isReference = true) (hw : w.isRef = true)
    (hd : decode c.code pc = .ok (.areturn, 1)) (hk : cells ≤ k) (hs : slots ≤ n) (hQ : Q (some w) T.heap locs) : OGo p e below (OEnd s Q k n) (T.setTop (mkF m pc Ls (w :: rest))) :=
  own_retW X hx hlk hret (by cases t <;> cases w <;> simp [FieldType.isReference, Value.isRef] at ht hw <;> rfl) (Or.inr (Or.inr (Or.inr (Or.inr ⟨rfl, ht, hw⟩)))) hd hk hs hQ
theorem own_retN (X : Stand p l e R s m args below meth c T locs cells slots) (hx : p.tables.exec = Jvm.exec) (hlk : meth.locks = false) {z : Int32} {t : FieldType} (hret : meth.sig.returnType = some t) (ht : t = .boolean ∨ t = .byte ∨ t = .char ∨ t = .short)
    (hd : decode c.code pc = .ok (.ireturn, 1)) (hk : cells ≤ k) (hs : slots ≤ n) (hQ : Q (some (.int (nar t z))) T.heap locs) : OGo p e below (OEnd s Q k n) (T.setTop (mkF m pc Ls (.int z :: rest))) := by
  obtain ⟨fs, hr, hrun, hended, hW, hsame⟩ := X.leave (v := some (.int (nar t z))) (fun h => by rw [hret] at h; cases h) hlk
  exact ⟨_, _, retN X hx hret ht hd hr, hrun, hended, _, _, rfl, hQ, ⟨_, rfl⟩, hW, hsame.mono hk hs⟩
theorem own_ret (X : Stand p l e R s m args below meth c T locs cells slots) (hx : p.tables.exec = Jvm.exec) (hlk : meth.locks = false) (hret : meth.sig.returnType = none)
    (hd : decode c.code pc = .ok (.return_, 1)) (hk : cells ≤ k) (hs : slots ≤ n) (hQ : Q none T.heap locs) : OGo p e below (OEnd s Q k n) (T.setTop (mkF m pc Ls [])) := by
  obtain ⟨fs, hr, hrun, hended, hW, hsame⟩ := X.leave (v := none) (fun _ => rfl) hlk
  exact ⟨_, _, X.returnOut hx hret hd hr, hrun, hended, _, _, rfl, hQ, ⟨_, rfl⟩, hW, hsame.mono hk hs⟩
abbrev OEndW (s : State) (Q : Option Value → Heap → List Loc → Prop) (k n : Nat) (o : Outcome) (U' : State) : Prop :=
  ∃ v L, o = .returned v ∧ Q v U'.heap L ∧ ReturnedEndW s o U' L k n
variable {vm₁ : Vm} {j : Nat}
theorem own_wretW (X : Stand p l e R (s.setVm vm₁) m args below meth c T locs cells slots) (hS : s.Since vm₁ j) (hj : j ≤ T.heap.size) (hx : p.tables.exec = Jvm.exec) (hlk : meth.locks = false) {w : Value} {t : FieldType} {i : Instr} (hret : meth.sig.returnType = some t) (hn : narrow t w = w)
    (hi : (i = .ireturn ∧ (t = .int ∨ t = .boolean ∨ t = .byte ∨ t = .char ∨ t = .short) ∧ ∃ z, w = .int z) ∨ (i = .lreturn ∧ t = .long ∧ ∃ z, w = .long z) ∨ (i = .dreturn ∧ t = .double ∧ ∃ z, w = .double z) ∨ (i = .freturn ∧ t = .float ∧ ∃ z, w = .float z) ∨ (i = .areturn ∧ t.isReference = true ∧ w.isRef = true))
    (hd : decode c.code pc = .ok (i, 1)) (hk : cells ≤ k) (hs : slots ≤ n) (hQ : Q (some w) T.heap locs) : OGo p e below (OEndW s Q k n) (T.setTop (mkF m pc Ls (w :: rest))) := by
  obtain ⟨fs, hr, hrun, hended, h1, h2, h3, h4⟩ := X.leaveW hS hj (v := some w) (fun h => by rw [hret] at h; cases h) hlk
  exact ⟨_, _, retOut X hx hret hn hi hd hr, hrun, hended, _, _, rfl, hQ, h1, h2, h3, h4.mono hk hs⟩
theorem own_wretI (X : Stand p l e R (s.setVm vm₁) m args below meth c T locs cells slots) (hS : s.Since vm₁ j) (hj : j ≤ T.heap.size) (hx : p.tables.exec = Jvm.exec) (hlk : meth.locks = false) {z : Int32} (hret : meth.sig.returnType = some .int)
    (hd : decode c.code pc = .ok (.ireturn, 1)) (hk : cells ≤ k) (hs : slots ≤ n) (hQ : Q (some (.int z)) T.heap locs) : OGo p e below (OEndW s Q k n) (T.setTop (mkF m pc Ls (.int z :: rest))) :=
  own_wretW X hS hj hx hlk hret rfl (Or.inl ⟨rfl, Or.inl rfl, z, rfl⟩) hd hk hs hQ
theorem own_wretA (X : Stand p l e R (s.setVm vm₁) m args below meth c T locs cells slots) (hS : s.Since vm₁ j) (hj : j ≤ T.heap.size) (hx : p.tables.exec = Jvm.exec) (hlk : meth.locks = false) {w : Value} {t : FieldType} (hret : meth.sig.returnType = some t) (ht : t.isReference = true) (hw : w.isRef = true)
    (hd : decode c.code pc = .ok (.areturn, 1)) (hk : cells ≤ k) (hs : slots ≤ n) (hQ : Q (some w) T.heap locs) : OGo p e below (OEndW s Q k n) (T.setTop (mkF m pc Ls (w :: rest))) :=
  own_wretW X hS hj hx hlk hret (by cases t <;> cases w <;> simp [FieldType.isReference, Value.isRef] at ht hw <;> rfl) (Or.inr (Or.inr (Or.inr (Or.inr ⟨rfl, ht, hw⟩)))) hd hk hs hQ
theorem own_wretN (X : Stand p l e R (s.setVm vm₁) m args below meth c T locs cells slots) (hS : s.Since vm₁ j) (hj : j ≤ T.heap.size) (hx : p.tables.exec = Jvm.exec) (hlk : meth.locks = false) {z : Int32} {t : FieldType} (hret : meth.sig.returnType = some t) (ht : t = .boolean ∨ t = .byte ∨ t = .char ∨ t = .short)
    (hd : decode c.code pc = .ok (.ireturn, 1)) (hk : cells ≤ k) (hs : slots ≤ n) (hQ : Q (some (.int (nar t z))) T.heap locs) : OGo p e below (OEndW s Q k n) (T.setTop (mkF m pc Ls (.int z :: rest))) := by
  obtain ⟨fs, hr, hrun, hended, h1, h2, h3, h4⟩ := X.leaveW hS hj (v := some (.int (nar t z))) (fun h => by rw [hret] at h; cases h) hlk
  exact ⟨_, _, retN X hx hret ht hd hr, hrun, hended, _, _, rfl, hQ, h1, h2, h3, h4.mono hk hs⟩
theorem own_wret (X : Stand p l e R (s.setVm vm₁) m args below meth c T locs cells slots) (hS : s.Since vm₁ j) (hj : j ≤ T.heap.size) (hx : p.tables.exec = Jvm.exec) (hlk : meth.locks = false) (hret : meth.sig.returnType = none)
    (hd : decode c.code pc = .ok (.return_, 1)) (hk : cells ≤ k) (hs : slots ≤ n) (hQ : Q none T.heap locs) : OGo p e below (OEndW s Q k n) (T.setTop (mkF m pc Ls [])) := by
  obtain ⟨fs, hr, hrun, hended, h1, h2, h3, h4⟩ := X.leaveW hS hj (v := none) (fun _ => rfl) hlk
  exact ⟨_, _, X.returnOut hx hret hd hr, hrun, hended, _, _, rfl, hQ, h1, h2, h3, h4.mono hk hs⟩
end OwnKit
end Jvm.RoadKit
namespace Jvm.Pilot.@@N@@
open Jvm Jvm.ClassFile Sem Op Lib Jvm.Free Jvm.Stand Jvm.LawKit Jvm.RoadKit Bundle Jvm.Pilot.@@N@@.Jvm.D
theorem own_mask (a mk : Int32) (k : Nat) (hk : k < 32) (hm : mk.toBitVec.toNat = 2 ^ k - 1) : (a &&& mk).toInt = a.toInt % 2 ^ k := by
  have e1 : (a &&& mk).toInt = (a.toBitVec &&& mk.toBitVec).toInt := rfl
  have e2 : (a.toBitVec &&& mk.toBitVec).toNat = a.toBitVec.toNat % 2 ^ k := by
    rw [BitVec.toNat_and, hm]; exact Nat.and_two_pow_sub_one_eq_mod _ k
  have e3 : a.toInt = a.toBitVec.toInt := rfl
  have hp : 2 ^ k ∣ 2 ^ 32 := Nat.pow_dvd_pow 2 (Nat.le_of_lt hk)
  have hp2 : 2 ^ k ≤ 2 ^ 31 := Nat.pow_le_pow_right (by decide) (Nat.le_of_lt_succ hk)
  have hlt : a.toBitVec.toNat % 2 ^ k < 2 ^ k := Nat.mod_lt _ (Nat.two_pow_pos k)
  rw [e1, e3, BitVec.toInt_eq_toNat_cond, BitVec.toInt_eq_toNat_cond, e2]
  have c : ((2 ^ k : Nat) : Int) = (2 : Int) ^ k := by norm_cast
  obtain ⟨q, hq⟩ := hp
  rw [if_pos (by omega)]
  split
  · rw [← c, ← Int.natCast_emod]
  · rw [← c, hq]
    rw [Int.natCast_mul, Int.sub_mul_emod_self_left, Int.natCast_emod]
def own_dvA (p : Int32) : Int32 := if p < (65 : Int32) then (-1 : Int32) else if (70 : Int32) < p then (-1 : Int32) else ((p - (65 : Int32)) + (10 : Int32))
def own_dvB (p : Int32) : Int32 := if p < (97 : Int32) then own_dvA p else if (102 : Int32) < p then own_dvA p else ((p - (97 : Int32)) + (10 : Int32))
def own_dv (p : Int32) : Int32 := if p < (48 : Int32) then own_dvB p else if (57 : Int32) < p then own_dvB p else (p - (48 : Int32))
def own_low (r : Int32) : Int32 := if r < (10 : Int32) then r + (48 : Int32) else r + (87 : Int32)
def own_up (r : Int32) : Int32 := if r < (10 : Int32) then r + (48 : Int32) else r + (55 : Int32)
def own_LOW : List Value := [.int 48, .int 49, .int 50, .int 51, .int 52, .int 53, .int 54, .int 55, .int 56, .int 57, .int 97, .int 98, .int 99, .int 100, .int 101, .int 102]
def own_UP : List Value := [.int 48, .int 49, .int 50, .int 51, .int 52, .int 53, .int 54, .int 55, .int 56, .int 57, .int 65, .int 66, .int 67, .int 68, .int 69, .int 70]
theorem own_sub (p k : Int32) (h1 : 0 ≤ p.toInt - k.toInt) (h2 : p.toInt - k.toInt < 1000) : (p - k).toInt = p.toInt - k.toInt := by
  have h := c_isub p k
  have r := rng32 (p - k)
  omega
theorem own_addI (p k : Int32) (h1 : 0 ≤ p.toInt + k.toInt) (h2 : p.toInt + k.toInt < 1000) : (p + k).toInt = p.toInt + k.toInt := by
  have h := c_iadd p k
  have r := rng32 (p + k)
  omega
theorem own_lits : (-1 : Int32).toInt = -1 ∧ (0 : Int32).toInt = 0 ∧ (10 : Int32).toInt = 10 ∧ (15 : Int32).toInt = 15 ∧ (48 : Int32).toInt = 48 ∧ (57 : Int32).toInt = 57 ∧ (65 : Int32).toInt = 65 ∧ (70 : Int32).toInt = 70 ∧ (97 : Int32).toInt = 97 ∧ (102 : Int32).toInt = 102 ∧ (87 : Int32).toInt = 87 ∧ (55 : Int32).toInt = 55 := by decide
theorem own_dv_cases (p : Int32) : (own_dv p).toInt = -1 ∨ ((48 ≤ p.toInt ∧ p.toInt ≤ 57) ∧ (own_dv p).toInt = p.toInt - 48) ∨ ((97 ≤ p.toInt ∧ p.toInt ≤ 102) ∧ (own_dv p).toInt = p.toInt - 87) ∨ ((65 ≤ p.toInt ∧ p.toInt ≤ 70) ∧ (own_dv p).toInt = p.toInt - 55) := by
  obtain ⟨l1, l2, l3, l4, l5, l6, l7, l8, l9, l10, l11, l12⟩ := own_lits
  have hA : (own_dvA p).toInt = -1 ∨ ((65 ≤ p.toInt ∧ p.toInt ≤ 70) ∧ (own_dvA p).toInt = p.toInt - 55) := by
    unfold own_dvA
    by_cases a : p < (65 : Int32)
    · rw [if_pos a]; exact Or.inl l1
    rw [if_neg a]
    by_cases b : (70 : Int32) < p
    · rw [if_pos b]; exact Or.inl l1
    rw [if_neg b]
    rw [Int32.lt_iff_toInt_lt] at a b
    have e := own_sub p 65 (by omega) (by omega)
    have e2 := own_addI (p - 65) 10 (by omega) (by omega)
    right; omega
  have hB : (own_dvB p).toInt = -1 ∨ ((97 ≤ p.toInt ∧ p.toInt ≤ 102) ∧ (own_dvB p).toInt = p.toInt - 87) ∨ ((65 ≤ p.toInt ∧ p.toInt ≤ 70) ∧ (own_dvB p).toInt = p.toInt - 55) := by
    unfold own_dvB
    by_cases a : p < (97 : Int32)
    · rw [if_pos a]; omega
    rw [if_neg a]
    by_cases b : (102 : Int32) < p
    · rw [if_pos b]; omega
    rw [if_neg b]
    rw [Int32.lt_iff_toInt_lt] at a b
    have e := own_sub p 97 (by omega) (by omega)
    have e2 := own_addI (p - 97) 10 (by omega) (by omega)
    right; left; omega
  unfold own_dv
  by_cases a : p < (48 : Int32)
  · rw [if_pos a]; omega
  rw [if_neg a]
  by_cases b : (57 : Int32) < p
  · rw [if_pos b]; omega
  rw [if_neg b]
  rw [Int32.lt_iff_toInt_lt] at a b
  have e := own_sub p 48 (by omega) (by omega)
  right; left; omega
theorem own_L1 (p : Int32) : ¬ own_dv p < (-1 : Int32) := by
  have h := own_dv_cases p
  rw [Int32.lt_iff_toInt_lt, own_lits.1]; omega
theorem own_L2 (p : Int32) : ¬ (15 : Int32) < own_dv p := by
  have h := own_dv_cases p
  rw [Int32.lt_iff_toInt_lt, own_lits.2.2.2.1]; omega
theorem own_16 {r : Int32} (h0 : ¬ r < (0 : Int32)) (h : ¬ (15 : Int32) < r) : r = 0 ∨ r = 1 ∨ r = 2 ∨ r = 3 ∨ r = 4 ∨ r = 5 ∨ r = 6 ∨ r = 7 ∨ r = 8 ∨ r = 9 ∨ r = 10 ∨ r = 11 ∨ r = 12 ∨ r = 13 ∨ r = 14 ∨ r = 15 := by
  rw [Int32.lt_iff_toInt_lt] at h0 h
  have e : (0 : Int32).toInt = 0 ∧ (1 : Int32).toInt = 1 ∧ (2 : Int32).toInt = 2 ∧ (3 : Int32).toInt = 3 ∧ (4 : Int32).toInt = 4 ∧ (5 : Int32).toInt = 5 ∧ (6 : Int32).toInt = 6 ∧ (7 : Int32).toInt = 7 ∧ (8 : Int32).toInt = 8 ∧ (9 : Int32).toInt = 9 ∧ (10 : Int32).toInt = 10 ∧ (11 : Int32).toInt = 11 ∧ (12 : Int32).toInt = 12 ∧ (13 : Int32).toInt = 13 ∧ (14 : Int32).toInt = 14 ∧ (15 : Int32).toInt = 15 := by decide
  simp only [← Int32.toInt_inj]
  omega
theorem own_chars {r : Int32} (h0 : ¬ r < (0 : Int32)) (h : ¬ (15 : Int32) < r) : (own_LOW.getD r.toNatClampNeg (.int (0 : Int32)) = .int (own_low r) ∧ (own_low r &&& (255 : Int32)) = own_low r ∧ own_dv (own_low r) = r) ∧ (own_UP.getD r.toNatClampNeg (.int (0 : Int32)) = .int (own_up r) ∧ (own_up r &&& (255 : Int32)) = own_up r ∧ own_dv (own_up r) = r) ∧ r < (16 : Int32) := by
  rcases own_16 h0 h with rfl | rfl | rfl | rfl | rfl | rfl | rfl | rfl | rfl | rfl | rfl | rfl | rfl | rfl | rfl | rfl <;> exact ⟨⟨rfl, by decide, by decide⟩, ⟨rfl, by decide, by decide⟩, by decide⟩
theorem own_L3 {p : Int32} (h0 : ¬ own_dv p < (0 : Int32)) (hn : ¬ p = own_low (own_dv p)) : p = own_up (own_dv p) := by
  obtain ⟨l1, l2, l3, l4, l5, l6, l7, l8, l9, l10, l11, l12⟩ := own_lits
  have h := own_dv_cases p
  rw [Int32.lt_iff_toInt_lt] at h0
  rw [← Int32.toInt_inj] at hn ⊢
  unfold own_low at hn
  unfold own_up
  have e1 := own_addI (own_dv p) 48 (by omega) (by omega)
  have e2 := own_addI (own_dv p) 87 (by omega) (by omega)
  have e3 := own_addI (own_dv p) 55 (by omega) (by omega)
  by_cases a : own_dv p < (10 : Int32)
  · rw [if_pos a] at hn ⊢
    rw [Int32.lt_iff_toInt_lt] at a
    omega
  · rw [if_neg a] at hn ⊢
    rw [Int32.lt_iff_toInt_lt] at a
    omega
theorem own_v15 (p : Int32) : ¬ (p &&& (15 : Int32)) < (0 : Int32) ∧ ¬ (15 : Int32) < (p &&& (15 : Int32)) := by
  have h : (p &&& (15 : Int32)).toInt = p.toInt % 2 ^ 4 := own_mask p 15 4 (by decide) (by decide)
  rw [Int32.lt_iff_toInt_lt, Int32.lt_iff_toInt_lt, own_lits.2.1, own_lits.2.2.2.1]
  omega
theorem own_nc (x : Int32) : nar .char ((x &&& (255 : Int32)).toUInt32.toUInt16.toUInt32.toInt32) = x &&& (255 : Int32) := by
  show ((x &&& (255 : Int32)).toUInt32.toUInt16.toUInt32.toInt32).toUInt32.toUInt16.toUInt32.toInt32 = _
  rw [i2c_mask, i2c_mask]
theorem own_nc2 {x y : Int32} (h : (x &&& (255 : Int32)) = y) : nar .char y = y := by
  subst h
  exact i2c_mask x
def own_EL : List (String × Nat) := [("com/example/railhead/railhead/io/HexTextDigitValuePinLaw", 13), ("com/example/railhead/railhead/io/HexTextDigitValuePinLaw", 21)]
theorem own_strA {a0 : Array Value} {Z : State} (hw : ∀ d ∈ tables_1, d.before a0 Z = true) : ∀ a ∈ Bundle.stringAtoms, a.before a0 Z = true := by
  intro a ha
  simp only [Bundle.stringAtoms, Bundle.sN, List.mem_cons, List.not_mem_nil, or_false] at ha
  rcases ha with rfl | rfl | rfl | rfl | rfl | rfl | rfl
  · exact (hw _ (List.mem_of_getElem? (i := 5) rfl))
  · exact (hw _ (List.mem_of_getElem? (i := 6) rfl))
  · exact (hw _ (List.mem_of_getElem? (i := 7) rfl))
  · exact (hw _ (List.mem_of_getElem? (i := 8) rfl))
  · exact (hw _ (List.mem_of_getElem? (i := 9) rfl))
  · exact (hw _ (List.mem_of_getElem? (i := 10) rfl))
  · exact (hw _ (List.mem_of_getElem? (i := 11) rfl))
theorem own_ew {a0 : Array Value} {Z : State} (hw : ∀ d ∈ tables_1, d.before a0 Z = true) : EW Z a0 own_EL := EW.cons (hw _ (List.mem_of_getElem? (i := 4) rfl)) (by decide) (EW.cons (hw _ (List.mem_of_getElem? (i := 37) rfl)) (by decide) EW.nil)
theorem d_cxn_0 : decode jdk_41_method_11_code 0 = .ok (.iload_n 0, 1) := by decide +kernel
theorem d_cxn_1 : decode jdk_41_method_11_code 1 = .ok (.ifCond .lt 8, 3) := by decide +kernel
theorem d_cxn_4 : decode jdk_41_method_11_code 4 = .ok (.iload_n 0, 1) := by decide +kernel
theorem d_cxn_5 : decode jdk_41_method_11_code 5 = .ok (.iload_n 1, 1) := by decide +kernel
theorem d_cxn_6 : decode jdk_41_method_11_code 6 = .ok (.if_icmp .lt 10, 3) := by decide +kernel
theorem d_cxn_16 : decode jdk_41_method_11_code 16 = .ok (.iload_n 0, 1) := by decide +kernel
theorem d_cxn_17 : decode jdk_41_method_11_code 17 = .ok (.ireturn, 1) := by decide +kernel
theorem pn_jdk_internal_util_Preconditions : plainName "jdk/internal/util/Preconditions" = true := by first | (simp [plainName, overriddenIn]; done) | decide +kernel
theorem ef_cxn (m : MethodId) (x0 : Int32) (x1 : Int32) : entryFrame m #[(.int x0), (.int x1), .null] 3 = mkF m 0 #[.val (.int x0), .val (.int x1), .val .null] [] := by first | (simp [entryFrame, mkF, argsToLocals, Value.category]; done) | rfl
def Q_cxn (Z : State) (p1 p2 : Int32) (h0 : Heap) (n0 : Nat) (v : Option Value) (h : Heap) (L : List Loc) : Prop := v = some (.int p1) ∧ Fr n0 L ∧ h = h0
set_option maxRecDepth 65536 in
set_option maxHeartbeats 40000000 in
theorem rm_cxn (l : Launch) (Z : State) (a0 : Array Value) (hw : ∀ d ∈ tables_1, d.before a0 Z = true) (ws : List Jvm.Cond) (p1 p2 : Int32) (h0 : Heap) (n0 : Nat) (Z0 : n0 ≤ h0.size) (h0' : ¬ p1 < (0 : Int32)) (h1' : p1 < p2) :
    MetFree l (⟨"jdk/internal/util/Preconditions", "checkIndex", "(IILjava/util/function/BiFunction;)I"⟩ : MethodName) (head1 (Jvm.Cond.code (⟨"jdk/internal/util/Preconditions", "checkIndex", "(IILjava/util/function/BiFunction;)I"⟩ : MethodName) jdk_41_method_11_code 3 (some .int) :: ws) ({ frames := 0, cells := 0, slots := 0, locals := 0 } : Room)) (fun a_ U => a_ = #[(.int p1), (.int p2), .null] ∧ Z.Warmed39 U.vm ∧ U.heap = h0) (fun _ _ _ _ _ => True) (fun _ U o U' => ∃ v L, o = .returned v ∧ Q_cxn Z p1 p2 h0 n0 v U'.heap L ∧ FrameEnd U o U' L ({ frames := 0, cells := 0, slots := 0, locals := 0 } : Room).cells ({ frames := 0, cells := 0, slots := 0, locals := 0 } : Room).slots) := by
  refine MetFree.of_bodySF (plainFor_of_name pn_jdk_internal_util_Preconditions) hisR ?_
  intro p e s m args below meth c s₁ Bd hml0 hP hK
  obtain ⟨rfl, hZ, hh⟩ := hP
  have hx := Bd.exec
  have hby := Bd.bytes
  have hml : c.maxLocals = 3 := hml0
  have hown : s.vm.findClass "jdk/internal/util/Preconditions" = some m.cls := findClass_of_methodNamed Bd.named
  have hnm := (name_of_methodNamed Bd.named Bd.method).1
  have X0 : Stand p l e ({ frames := 0, cells := 0, slots := 0, locals := 0 } : Room) s m #[(.int p1), (.int p2), .null] below meth c s₁ [] 0 0 := Stand.of_body Bd
  have e0 : s₁.heap = h0 := by rw [← hh, Bd.state]; rfl
  have N0 := Fr.nil n0
  have hlk := Bd.notSynchronized
  have hret := Bd.returns
  show OGo p e below (OEnd s (Q_cxn Z p1 p2 h0 n0) ({ frames := 0, cells := 0, slots := 0, locals := 0 } : Room).cells ({ frames := 0, cells := 0, slots := 0, locals := 0 } : Room).slots) (s₁.setTop (entryFrame m #[(.int p1), (.int p2), .null] 3))
  rw [ef_cxn]
  show OGo p e below _ (s₁.setTop (mkF m 0 #[.val (.int p1), .val (.int p2), .val .null] []))
  refine OGo.by_ (fun t k => XS.iloadN X0.here hx rfl (hb hby d_cxn_0) rfl k) ?_
  show OGo p e below _ (s₁.setTop (mkF m 1 #[.val (.int p1), .val (.int p2), .val .null] [(.int p1)]))
  refine OGo.by_ (fun t k => XS.ifNo X0.here hx rfl (hb hby d_cxn_1) rfl ((if0 _ _).trans (flt h0').1) k) ?_
  show OGo p e below _ (s₁.setTop (mkF m 4 #[.val (.int p1), .val (.int p2), .val .null] []))
  refine OGo.by_ (fun t k => XS.iloadN X0.here hx rfl (hb hby d_cxn_4) rfl k) ?_
  show OGo p e below _ (s₁.setTop (mkF m 5 #[.val (.int p1), .val (.int p2), .val .null] [(.int p1)]))
  refine OGo.by_ (fun t k => XS.iloadN X0.here hx rfl (hb hby d_cxn_5) rfl k) ?_
  show OGo p e below _ (s₁.setTop (mkF m 6 #[.val (.int p1), .val (.int p2), .val .null] [(.int p2), (.int p1)]))
  refine OGo.by_ (fun t k => XS.icmpYes X0.here hx rfl (pc0 := 6) (pc' := 16) rfl (hb hby d_cxn_6) rfl (tlt h1').1 (by decide) (by decide) k) ?_
  show OGo p e below _ (s₁.setTop (mkF m 16 #[.val (.int p1), .val (.int p2), .val .null] []))
  refine OGo.by_ (fun t k => XS.iloadN X0.here hx rfl (hb hby d_cxn_16) rfl k) ?_
  show OGo p e below _ (s₁.setTop (mkF m 17 #[.val (.int p1), .val (.int p2), .val .null] [(.int p1)]))
  exact own_retI X0 hx hlk hret (hb hby d_cxn_17) (by decide) (by decide) (⟨rfl, N0, e0⟩)
theorem d_cxr_0 : decode jdk_41_method_11_code 0 = .ok (.iload_n 0, 1) := by decide +kernel
theorem d_cxr_1 : decode jdk_41_method_11_code 1 = .ok (.ifCond .lt 8, 3) := by decide +kernel
theorem d_cxr_4 : decode jdk_41_method_11_code 4 = .ok (.iload_n 0, 1) := by decide +kernel
theorem d_cxr_5 : decode jdk_41_method_11_code 5 = .ok (.iload_n 1, 1) := by decide +kernel
theorem d_cxr_6 : decode jdk_41_method_11_code 6 = .ok (.if_icmp .lt 10, 3) := by decide +kernel
theorem d_cxr_16 : decode jdk_41_method_11_code 16 = .ok (.iload_n 0, 1) := by decide +kernel
theorem d_cxr_17 : decode jdk_41_method_11_code 17 = .ok (.ireturn, 1) := by decide +kernel
theorem ef_cxr (m : MethodId) (x0 : Int32) (x1 : Int32) (x2 : Addr) : entryFrame m #[(.int x0), (.int x1), (.ref x2)] 3 = mkF m 0 #[.val (.int x0), .val (.int x1), .val (.ref x2)] [] := by first | (simp [entryFrame, mkF, argsToLocals, Value.category]; done) | rfl
def Q_cxr (Z : State) (p1 p2 : Int32) (f : Addr) (h0 : Heap) (n0 : Nat) (v : Option Value) (h : Heap) (L : List Loc) : Prop := v = some (.int p1) ∧ Fr n0 L ∧ h = h0
set_option maxRecDepth 65536 in
set_option maxHeartbeats 40000000 in
theorem rm_cxr (l : Launch) (Z : State) (a0 : Array Value) (hw : ∀ d ∈ tables_1, d.before a0 Z = true) (ws : List Jvm.Cond) (p1 p2 : Int32) (f : Addr) (h0 : Heap) (n0 : Nat) (Z0 : n0 ≤ h0.size) (h0' : ¬ p1 < (0 : Int32)) (h1' : p1 < p2) :
    MetFree l (⟨"jdk/internal/util/Preconditions", "checkIndex", "(IILjava/util/function/BiFunction;)I"⟩ : MethodName) (head1 (Jvm.Cond.code (⟨"jdk/internal/util/Preconditions", "checkIndex", "(IILjava/util/function/BiFunction;)I"⟩ : MethodName) jdk_41_method_11_code 3 (some .int) :: ws) ({ frames := 0, cells := 0, slots := 0, locals := 0 } : Room)) (fun a_ U => a_ = #[(.int p1), (.int p2), (.ref f)] ∧ Z.Warmed39 U.vm ∧ U.heap = h0) (fun _ _ _ _ _ => True) (fun _ U o U' => ∃ v L, o = .returned v ∧ Q_cxr Z p1 p2 f h0 n0 v U'.heap L ∧ FrameEnd U o U' L ({ frames := 0, cells := 0, slots := 0, locals := 0 } : Room).cells ({ frames := 0, cells := 0, slots := 0, locals := 0 } : Room).slots) := by
  refine MetFree.of_bodySF (plainFor_of_name pn_jdk_internal_util_Preconditions) hisR ?_
  intro p e s m args below meth c s₁ Bd hml0 hP hK
  obtain ⟨rfl, hZ, hh⟩ := hP
  have hx := Bd.exec
  have hby := Bd.bytes
  have hml : c.maxLocals = 3 := hml0
  have hown : s.vm.findClass "jdk/internal/util/Preconditions" = some m.cls := findClass_of_methodNamed Bd.named
  have hnm := (name_of_methodNamed Bd.named Bd.method).1
  have X0 : Stand p l e ({ frames := 0, cells := 0, slots := 0, locals := 0 } : Room) s m #[(.int p1), (.int p2), (.ref f)] below meth c s₁ [] 0 0 := Stand.of_body Bd
  have e0 : s₁.heap = h0 := by rw [← hh, Bd.state]; rfl
  have N0 := Fr.nil n0
  have hlk := Bd.notSynchronized
  have hret := Bd.returns
  show OGo p e below (OEnd s (Q_cxr Z p1 p2 f h0 n0) ({ frames := 0, cells := 0, slots := 0, locals := 0 } : Room).cells ({ frames := 0, cells := 0, slots := 0, locals := 0 } : Room).slots) (s₁.setTop (entryFrame m #[(.int p1), (.int p2), (.ref f)] 3))
  rw [ef_cxr]
  show OGo p e below _ (s₁.setTop (mkF m 0 #[.val (.int p1), .val (.int p2), .val (.ref f)] []))
  refine OGo.by_ (fun t k => XS.iloadN X0.here hx rfl (hb hby d_cxr_0) rfl k) ?_
  show OGo p e below _ (s₁.setTop (mkF m 1 #[.val (.int p1), .val (.int p2), .val (.ref f)] [(.int p1)]))
  refine OGo.by_ (fun t k => XS.ifNo X0.here hx rfl (hb hby d_cxr_1) rfl ((if0 _ _).trans (flt h0').1) k) ?_
  show OGo p e below _ (s₁.setTop (mkF m 4 #[.val (.int p1), .val (.int p2), .val (.ref f)] []))
  refine OGo.by_ (fun t k => XS.iloadN X0.here hx rfl (hb hby d_cxr_4) rfl k) ?_
  show OGo p e below _ (s₁.setTop (mkF m 5 #[.val (.int p1), .val (.int p2), .val (.ref f)] [(.int p1)]))
  refine OGo.by_ (fun t k => XS.iloadN X0.here hx rfl (hb hby d_cxr_5) rfl k) ?_
  show OGo p e below _ (s₁.setTop (mkF m 6 #[.val (.int p1), .val (.int p2), .val (.ref f)] [(.int p2), (.int p1)]))
  refine OGo.by_ (fun t k => XS.icmpYes X0.here hx rfl (pc0 := 6) (pc' := 16) rfl (hb hby d_cxr_6) rfl (tlt h1').1 (by decide) (by decide) k) ?_
  show OGo p e below _ (s₁.setTop (mkF m 16 #[.val (.int p1), .val (.int p2), .val (.ref f)] []))
  refine OGo.by_ (fun t k => XS.iloadN X0.here hx rfl (hb hby d_cxr_16) rfl k) ?_
  show OGo p e below _ (s₁.setTop (mkF m 17 #[.val (.int p1), .val (.int p2), .val (.ref f)] [(.int p1)]))
  exact own_retI X0 hx hlk hret (hb hby d_cxr_17) (by decide) (by decide) (⟨rfl, N0, e0⟩)
theorem d_sci_0 : decode jdk_42_method_155_code 0 = .ok (.iload_n 0, 1) := by decide +kernel
theorem d_sci_1 : decode jdk_42_method_155_code 1 = .ok (.iload_n 1, 1) := by decide +kernel
theorem d_sci_2 : decode jdk_42_method_155_code 2 = .ok (.getstatic 1053, 3) := by decide +kernel
theorem d_sci_5 : decode jdk_42_method_155_code 5 = .ok (.invokestatic 1059, 3) := by decide +kernel
theorem pd_oIILjava_util_function_BiFunction_cI : parseMethodDescriptor "(IILjava/util/function/BiFunction;)I" = some ⟨[.int, .int, (.object "java/util/function/BiFunction")], some .int⟩ := by decide +kernel
theorem d_sci_8 : decode jdk_42_method_155_code 8 = .ok (.pop, 1) := by decide +kernel
theorem d_sci_9 : decode jdk_42_method_155_code 9 = .ok (.return_, 1) := by decide +kernel
theorem pn_java_lang_String : plainName "java/lang/String" = true := by first | (simp [plainName, overriddenIn]; done) | decide +kernel
theorem ef_sci (m : MethodId) (x0 : Int32) (x1 : Int32) : entryFrame m #[(.int x0), (.int x1)] 2 = mkF m 0 #[.val (.int x0), .val (.int x1)] [] := by first | (simp [entryFrame, mkF, argsToLocals, Value.category]; done) | rfl
def Q_sci (Z : State) (p1 p2 : Int32) (wv : Value) (h0 : Heap) (n0 : Nat) (v : Option Value) (h : Heap) (L : List Loc) : Prop := v = none ∧ Fr n0 L ∧ h = h0
set_option maxRecDepth 65536 in
set_option maxHeartbeats 40000000 in
theorem rm_sci (l : Launch) (Z : State) (a0 : Array Value) (hw : ∀ d ∈ tables_1, d.before a0 Z = true) (ws : List Jvm.Cond) (p1 p2 : Int32) (wv : Value) (h0 : Heap) (n0 : Nat) (Z0 : n0 ≤ h0.size) (SF : Sta Z h0 "jdk/internal/util/Preconditions" "SIOOBE_FORMATTER" "Ljava/util/function/BiFunction;" wv) (hwv : wv.isRef = true) (h0' : ¬ p1 < (0 : Int32)) (h1' : p1 < p2) :
    MetFree l (⟨"java/lang/String", "checkIndex", "(II)V"⟩ : MethodName) (head1 (Jvm.Cond.code (⟨"java/lang/String", "checkIndex", "(II)V"⟩ : MethodName) jdk_42_method_155_code 2 none :: ws) ({ frames := 1, cells := 0, slots := 0, locals := 14 } : Room)) (fun a_ U => a_ = #[(.int p1), (.int p2)] ∧ Z.Warmed39 U.vm ∧ U.heap = h0) (fun _ _ _ _ _ => True) (fun _ U o U' => ∃ v L, o = .returned v ∧ Q_sci Z p1 p2 wv h0 n0 v U'.heap L ∧ FrameEnd U o U' L ({ frames := 1, cells := 0, slots := 0, locals := 14 } : Room).cells ({ frames := 1, cells := 0, slots := 0, locals := 14 } : Room).slots) := by
  refine MetFree.of_bodySF (plainFor_of_name pn_java_lang_String) hisR ?_
  intro p e s m args below meth c s₁ Bd hml0 hP hK
  obtain ⟨rfl, hZ, hh⟩ := hP
  have hx := Bd.exec
  have hby := Bd.bytes
  have hml : c.maxLocals = 2 := hml0
  have hown : s.vm.findClass "java/lang/String" = some m.cls := findClass_of_methodNamed Bd.named
  have hnm := (name_of_methodNamed Bd.named Bd.method).1
  have X0 : Stand p l e ({ frames := 1, cells := 0, slots := 0, locals := 14 } : Room) s m #[(.int p1), (.int p2)] below meth c s₁ [] 0 0 := Stand.of_body Bd
  have e0 : s₁.heap = h0 := by rw [← hh, Bd.state]; rfl
  have N0 := Fr.nil n0
  have hlk := Bd.notSynchronized
  have hret := Bd.returns
  show OGo p e below (OEnd s (Q_sci Z p1 p2 wv h0 n0) ({ frames := 1, cells := 0, slots := 0, locals := 14 } : Room).cells ({ frames := 1, cells := 0, slots := 0, locals := 14 } : Room).slots) (s₁.setTop (entryFrame m #[(.int p1), (.int p2)] 2))
  rw [ef_sci]
  show OGo p e below _ (s₁.setTop (mkF m 0 #[.val (.int p1), .val (.int p2)] []))
  rcases ref_cases hwv with rfl | ⟨wa, rfl⟩
  · refine OGo.by_ (fun t k => XS.iloadN X0.here hx rfl (hb hby d_sci_0) rfl k) ?_
    show OGo p e below _ (s₁.setTop (mkF m 1 #[.val (.int p1), .val (.int p2)] [(.int p1)]))
    refine OGo.by_ (fun t k => XS.iloadN X0.here hx rfl (hb hby d_sci_1) rfl k) ?_
    show OGo p e below _ (s₁.setTop (mkF m 2 #[.val (.int p1), .val (.int p2)] [(.int p2), (.int p1)]))
    obtain ⟨T1, X1, e1, st1⟩ := getS X0 hx hZ hown (host := "") (hw _ (List.mem_of_getElem? (i := 32) rfl)) Via.refl e0 SF (g := (mkF m 2 #[.val (.int p1), .val (.int p2)] [(.int p2), (.int p1)])) rfl (hb hby d_sci_2)
    refine OGo.by_ st1 ?_
    show OGo p e below _ (T1.setTop (mkF m 5 #[.val (.int p1), .val (.int p2)] [.null, (.int p2), (.int p1)]))
    obtain ⟨_, _, ⟨T2, L2, k2, n2⟩, -, X2, ⟨Lc2, hQ2, l2, y2, z2⟩, st2⟩ := Jvm.LawKit.callS X1 hx (y := (⟨"jdk/internal/util/Preconditions", "checkIndex", "(IILjava/util/function/BiFunction;)I"⟩ : MethodName)) hown (mvT hZ (hw _ (List.mem_of_getElem? (i := 34) rfl))) (mvT hZ (hw _ (List.mem_of_getElem? (i := 35) rfl))) (mvT hZ (hw _ (List.mem_of_getElem? (i := 33) rfl))) (mvT hZ (hw _ (List.mem_of_getElem? (i := 36) rfl))) (by decide) (backOf (W := 0) (rm_cxn l Z a0 hw [] p1 p2 h0 n0 Z0 h0' h1') hZ (hw _ (List.mem_of_getElem? (i := 36) rfl)) (hw _ (List.mem_of_getElem? (i := 33) rfl)) (by decide) (by decide)) (g := (mkF m 5 #[.val (.int p1), .val (.int p2)] [.null, (.int p2), (.int p1)])) rfl (by rw [hml]; rfl) (argsL := [(.int p1), (.int p2), .null]) (rest := []) (lenOf pd_oIILjava_util_function_BiFunction_cI rfl) rfl (by show 2 * 0 + _ ≤ _; exact Nat.le_of_eq rfl) (hb hby d_sci_5) (fun _ _ => ⟨rfl, e1, (by decide : 0 + 0 ≤ _), (by decide : 0 + 0 ≤ _)⟩)
    dsimp only [Pt.U, Pt.locs, Pt.cells, Pt.slots] at X2 l2 y2 z2 st2 hQ2
    subst l2 y2 z2
    obtain ⟨rfl, Nq2, eq2⟩ := hQ2
    have N2 := Fr.app N0 Nq2
    refine OGo.by_ st2 ?_
    show OGo p e below _ (T2.setTop (mkF m 8 #[.val (.int p1), .val (.int p2)] [(.int p1)]))
    refine OGo.by_ (fun t k => XS.pop X2.here hx rfl (hb hby d_sci_8) rfl rfl k) ?_
    show OGo p e below _ (T2.setTop (mkF m 9 #[.val (.int p1), .val (.int p2)] []))
    exact own_ret X2 hx hlk hret (hb hby d_sci_9) (by decide) (by decide) (⟨rfl, N2, eq2⟩)
  · refine OGo.by_ (fun t k => XS.iloadN X0.here hx rfl (hb hby d_sci_0) rfl k) ?_
    show OGo p e below _ (s₁.setTop (mkF m 1 #[.val (.int p1), .val (.int p2)] [(.int p1)]))
    refine OGo.by_ (fun t k => XS.iloadN X0.here hx rfl (hb hby d_sci_1) rfl k) ?_
    show OGo p e below _ (s₁.setTop (mkF m 2 #[.val (.int p1), .val (.int p2)] [(.int p2), (.int p1)]))
    obtain ⟨T3, X3, e3, st3⟩ := getS X0 hx hZ hown (host := "") (hw _ (List.mem_of_getElem? (i := 32) rfl)) Via.refl e0 SF (g := (mkF m 2 #[.val (.int p1), .val (.int p2)] [(.int p2), (.int p1)])) rfl (hb hby d_sci_2)
    refine OGo.by_ st3 ?_
    show OGo p e below _ (T3.setTop (mkF m 5 #[.val (.int p1), .val (.int p2)] [(.ref wa), (.int p2), (.int p1)]))
    obtain ⟨_, _, ⟨T4, L4, k4, n4⟩, -, X4, ⟨Lc4, hQ4, l4, y4, z4⟩, st4⟩ := Jvm.LawKit.callS X3 hx (y := (⟨"jdk/internal/util/Preconditions", "checkIndex", "(IILjava/util/function/BiFunction;)I"⟩ : MethodName)) hown (mvT hZ (hw _ (List.mem_of_getElem? (i := 34) rfl))) (mvT hZ (hw _ (List.mem_of_getElem? (i := 35) rfl))) (mvT hZ (hw _ (List.mem_of_getElem? (i := 33) rfl))) (mvT hZ (hw _ (List.mem_of_getElem? (i := 36) rfl))) (by decide) (backOf (W := 0) (rm_cxr l Z a0 hw [] p1 p2 wa h0 n0 Z0 h0' h1') hZ (hw _ (List.mem_of_getElem? (i := 36) rfl)) (hw _ (List.mem_of_getElem? (i := 33) rfl)) (by decide) (by decide)) (g := (mkF m 5 #[.val (.int p1), .val (.int p2)] [(.ref wa), (.int p2), (.int p1)])) rfl (by rw [hml]; rfl) (argsL := [(.int p1), (.int p2), (.ref wa)]) (rest := []) (lenOf pd_oIILjava_util_function_BiFunction_cI rfl) rfl (by show 2 * 0 + _ ≤ _; exact Nat.le_of_eq rfl) (hb hby d_sci_5) (fun _ _ => ⟨rfl, e3, (by decide : 0 + 0 ≤ _), (by decide : 0 + 0 ≤ _)⟩)
    dsimp only [Pt.U, Pt.locs, Pt.cells, Pt.slots] at X4 l4 y4 z4 st4 hQ4
    subst l4 y4 z4
    obtain ⟨rfl, Nq4, eq4⟩ := hQ4
    have N4 := Fr.app N0 Nq4
    refine OGo.by_ st4 ?_
    show OGo p e below _ (T4.setTop (mkF m 8 #[.val (.int p1), .val (.int p2)] [(.int p1)]))
    refine OGo.by_ (fun t k => XS.pop X4.here hx rfl (hb hby d_sci_8) rfl rfl k) ?_
    show OGo p e below _ (T4.setTop (mkF m 9 #[.val (.int p1), .val (.int p2)] []))
    exact own_ret X4 hx hlk hret (hb hby d_sci_9) (by decide) (by decide) (⟨rfl, N4, eq4⟩)
theorem d_lch_0 : decode jdk_43_method_2_code 0 = .ok (.iload_n 1, 1) := by decide +kernel
theorem d_lch_1 : decode jdk_43_method_2_code 1 = .ok (.aload_n 0, 1) := by decide +kernel
theorem d_lch_2 : decode jdk_43_method_2_code 2 = .ok (.arraylength, 1) := by decide +kernel
theorem d_lch_3 : decode jdk_43_method_2_code 3 = .ok (.invokestatic 9, 3) := by decide +kernel
theorem pd_oIIcV : parseMethodDescriptor "(II)V" = some ⟨[.int, .int], none⟩ := by decide +kernel
theorem d_lch_6 : decode jdk_43_method_2_code 6 = .ok (.aload_n 0, 1) := by decide +kernel
theorem d_lch_7 : decode jdk_43_method_2_code 7 = .ok (.iload_n 1, 1) := by decide +kernel
theorem d_lch_8 : decode jdk_43_method_2_code 8 = .ok (.baload, 1) := by decide +kernel
theorem d_lch_9 : decode jdk_43_method_2_code 9 = .ok (.sipush 255, 3) := by decide +kernel
theorem d_lch_12 : decode jdk_43_method_2_code 12 = .ok (.iand, 1) := by decide +kernel
theorem d_lch_13 : decode jdk_43_method_2_code 13 = .ok (.i2c, 1) := by decide +kernel
theorem d_lch_14 : decode jdk_43_method_2_code 14 = .ok (.ireturn, 1) := by decide +kernel
theorem pn_java_lang_StringLatin1 : plainName "java/lang/StringLatin1" = true := by first | (simp [plainName, overriddenIn]; done) | decide +kernel
theorem ef_lch (m : MethodId) (x0 : Addr) (x1 : Int32) : entryFrame m #[(.ref x0), (.int x1)] 2 = mkF m 0 #[.val (.ref x0), .val (.int x1)] [] := by first | (simp [entryFrame, mkF, argsToLocals, Value.category]; done) | rfl
def Q_lch (Z : State) (b : Addr) (kb : ClassId) (p1 z x y : Int32) (vs : List Value) (wv : Value) (h0 : Heap) (n0 : Nat) (v : Option Value) (h : Heap) (L : List Loc) : Prop := v = some (.int y) ∧ Fr n0 L ∧ h = h0
set_option maxRecDepth 65536 in
set_option maxHeartbeats 40000000 in
theorem rm_lch (l : Launch) (Z : State) (a0 : Array Value) (hw : ∀ d ∈ tables_1, d.before a0 Z = true) (ws : List Jvm.Cond) (b : Addr) (kb : ClassId) (p1 z x y : Int32) (vs : List Value) (wv : Value) (h0 : Heap) (n0 : Nat) (Z0 : n0 ≤ h0.size) (SF : Sta Z h0 "jdk/internal/util/Preconditions" "SIOOBE_FORMATTER" "Ljava/util/function/BiFunction;" wv) (hwv : wv.isRef = true) (Vb : Arv Z h0 b kb .byte z vs (.int (0 : Int32))) (h0' : ¬ p1 < (0 : Int32)) (h1' : p1 < z) (hat : vs.getD p1.toNatClampNeg (.int (0 : Int32)) = .int x) (hy : (x &&& (255 : Int32)) = y) :
    MetFree l (⟨"java/lang/StringLatin1", "charAt", "([BI)C"⟩ : MethodName) (head1 (Jvm.Cond.code (⟨"java/lang/StringLatin1", "charAt", "([BI)C"⟩ : MethodName) jdk_43_method_2_code 2 (some .char) :: ws) ({ frames := 2, cells := 0, slots := 0, locals := 27 } : Room)) (fun a_ U => a_ = #[(.ref b), (.int p1)] ∧ Z.Warmed39 U.vm ∧ U.heap = h0) (fun _ _ _ _ _ => True) (fun _ U o U' => ∃ v L, o = .returned v ∧ Q_lch Z b kb p1 z x y vs wv h0 n0 v U'.heap L ∧ FrameEnd U o U' L ({ frames := 2, cells := 0, slots := 0, locals := 27 } : Room).cells ({ frames := 2, cells := 0, slots := 0, locals := 27 } : Room).slots) := by
  refine MetFree.of_bodySF (plainFor_of_name pn_java_lang_StringLatin1) hisR ?_
  intro p e s m args below meth c s₁ Bd hml0 hP hK
  obtain ⟨rfl, hZ, hh⟩ := hP
  have hx := Bd.exec
  have hby := Bd.bytes
  have hml : c.maxLocals = 2 := hml0
  have hown : s.vm.findClass "java/lang/StringLatin1" = some m.cls := findClass_of_methodNamed Bd.named
  have hnm := (name_of_methodNamed Bd.named Bd.method).1
  have X0 : Stand p l e ({ frames := 2, cells := 0, slots := 0, locals := 27 } : Room) s m #[(.ref b), (.int p1)] below meth c s₁ [] 0 0 := Stand.of_body Bd
  have e0 : s₁.heap = h0 := by rw [← hh, Bd.state]; rfl
  have N0 := Fr.nil n0
  have hlk := Bd.notSynchronized
  have hret := Bd.returns
  show OGo p e below (OEnd s (Q_lch Z b kb p1 z x y vs wv h0 n0) ({ frames := 2, cells := 0, slots := 0, locals := 27 } : Room).cells ({ frames := 2, cells := 0, slots := 0, locals := 27 } : Room).slots) (s₁.setTop (entryFrame m #[(.ref b), (.int p1)] 2))
  rw [ef_lch]
  show OGo p e below _ (s₁.setTop (mkF m 0 #[.val (.ref b), .val (.int p1)] []))
  refine OGo.by_ (fun t k => XS.iloadN X0.here hx rfl (hb hby d_lch_0) rfl k) ?_
  show OGo p e below _ (s₁.setTop (mkF m 1 #[.val (.ref b), .val (.int p1)] [(.int p1)]))
  refine OGo.by_ (fun t k => XS.aloadN X0.here hx rfl (hb hby d_lch_1) rfl rfl k) ?_
  show OGo p e below _ (s₁.setTop (mkF m 2 #[.val (.ref b), .val (.int p1)] [(.ref b), (.int p1)]))
  obtain ⟨cl1, Ar1, q1, S1, Nn1, H1, G1⟩ := id Vb
  refine OGo.by_ (X0.arraylength hx (by rw [e0]; exact Ar1.1) (State.isArrayOf_alike hZ.alike Ar1.2.1) (g := (mkF m 2 #[.val (.ref b), .val (.int p1)] [(.ref b), (.int p1)])) rfl rfl (hb hby d_lch_2)) ?_
  rw [len_of S1 Nn1]
  show OGo p e below _ (s₁.setTop (mkF m 3 #[.val (.ref b), .val (.int p1)] [(.int z), (.int p1)]))
  obtain ⟨_, _, ⟨T2, L2, k2, n2⟩, -, X2, ⟨Lc2, hQ2, l2, y2, z2⟩, st2⟩ := Jvm.LawKit.callS X0 hx (y := (⟨"java/lang/String", "checkIndex", "(II)V"⟩ : MethodName)) hown (mvT hZ (hw _ (List.mem_of_getElem? (i := 29) rfl))) (mvT hZ (hw _ (List.mem_of_getElem? (i := 30) rfl))) (mvT hZ (hw _ (List.mem_of_getElem? (i := 5) rfl))) (mvT hZ (hw _ (List.mem_of_getElem? (i := 31) rfl))) (by decide) (backOf (W := 0) (rm_sci l Z a0 hw [] p1 z wv h0 n0 Z0 SF hwv h0' h1') hZ (hw _ (List.mem_of_getElem? (i := 31) rfl)) (hw _ (List.mem_of_getElem? (i := 5) rfl)) (by decide) (by decide)) (g := (mkF m 3 #[.val (.ref b), .val (.int p1)] [(.int z), (.int p1)])) rfl (by rw [hml]; rfl) (argsL := [(.int p1), (.int z)]) (rest := []) (lenOf pd_oIIcV rfl) rfl (by show 2 * 0 + _ ≤ _; exact Nat.le_of_eq rfl) (hb hby d_lch_3) (fun _ _ => ⟨rfl, e0, (by decide : 0 + 0 ≤ _), (by decide : 0 + 0 ≤ _)⟩)
  dsimp only [Pt.U, Pt.locs, Pt.cells, Pt.slots] at X2 l2 y2 z2 st2 hQ2
  subst l2 y2 z2
  obtain ⟨rfl, Nq2, eq2⟩ := hQ2
  have N2 := Fr.app N0 Nq2
  refine OGo.by_ st2 ?_
  show OGo p e below _ (T2.setTop (mkF m 6 #[.val (.ref b), .val (.int p1)] []))
  refine OGo.by_ (fun t k => XS.aloadN X2.here hx rfl (hb hby d_lch_6) rfl rfl k) ?_
  show OGo p e below _ (T2.setTop (mkF m 7 #[.val (.ref b), .val (.int p1)] [(.ref b)]))
  refine OGo.by_ (fun t k => XS.iloadN X2.here hx rfl (hb hby d_lch_7) rfl k) ?_
  show OGo p e below _ (T2.setTop (mkF m 8 #[.val (.ref b), .val (.int p1)] [(.int p1), (.ref b)]))
  obtain ⟨cl3, Ar3, q3, S3, Nn3, H3, G3⟩ := id Vb
  have in3 := inb_of S3 ⟨h0', h1'⟩
  refine OGo.by_ (fun t kk => X2.baloadBytes hx (j := p1) (v := (.int x)) (by rw [eq2]; exact Ar3.1) (State.isArrayOf_alike hZ.alike Ar3.2.1) Ar3.2.2 in3 (H3.at in3 (hat)) (g := (mkF m 8 #[.val (.ref b), .val (.int p1)] [(.int p1), (.ref b)])) rfl rfl (hb hby d_lch_8) _ kk) ?_
  show OGo p e below _ (T2.setTop (mkF m 9 #[.val (.ref b), .val (.int p1)] [(.int x)]))
  refine OGo.by_ (fun t k => XS.sipush X2.here hx rfl (hb hby d_lch_9) k) ?_
  show OGo p e below _ (T2.setTop (mkF m 12 #[.val (.ref b), .val (.int p1)] [(.int (255 : Int32)), (.int x)]))
  refine OGo.by_ (fun t k => XS.iand X2.here hx rfl (hb hby d_lch_12) rfl k) ?_
  show OGo p e below _ (T2.setTop (mkF m 13 #[.val (.ref b), .val (.int p1)] [(.int (x &&& (255 : Int32)))]))
  refine OGo.by_ (fun t k => XS.i2c X2.here hx rfl (hb hby d_lch_13) rfl k) ?_
  show OGo p e below _ (T2.setTop (mkF m 14 #[.val (.ref b), .val (.int p1)] [(.int ((x &&& (255 : Int32)).toUInt32.toUInt16.toUInt32.toInt32))]))
  exact own_retN X2 hx hlk (t := .char) hret (by simp) (hb hby d_lch_14) (by decide) (by decide) (⟨by rw [own_nc, hy], N2, eq2⟩)
theorem d_isl_0 : decode jdk_42_method_154_code 0 = .ok (.getstatic 38, 3) := by decide +kernel
theorem d_isl_3 : decode jdk_42_method_154_code 3 = .ok (.ifCond .eq 14, 3) := by decide +kernel
theorem d_isl_6 : decode jdk_42_method_154_code 6 = .ok (.aload_n 0, 1) := by decide +kernel
theorem d_isl_7 : decode jdk_42_method_154_code 7 = .ok (.getfield 15, 3) := by decide +kernel
theorem d_isl_10 : decode jdk_42_method_154_code 10 = .ok (.ifCond .ne 7, 3) := by decide +kernel
theorem d_isl_13 : decode jdk_42_method_154_code 13 = .ok (.iconst 1, 1) := by decide +kernel
theorem d_isl_14 : decode jdk_42_method_154_code 14 = .ok (.goto 4, 3) := by decide +kernel
theorem d_isl_18 : decode jdk_42_method_154_code 18 = .ok (.ireturn, 1) := by decide +kernel
theorem ef_isl (m : MethodId) (x0 : Addr) : entryFrame m #[(.ref x0)] 1 = mkF m 0 #[.val (.ref x0)] [] := by first | (simp [entryFrame, mkF, argsToLocals, Value.category]; done) | rfl
def Q_isl (Z : State) (a : Addr) (cs : Int32) (h0 : Heap) (n0 : Nat) (v : Option Value) (h : Heap) (L : List Loc) : Prop := v = some (.int (1 : Int32)) ∧ Fr n0 L ∧ h = h0
set_option maxRecDepth 65536 in
set_option maxHeartbeats 40000000 in
theorem rm_isl (l : Launch) (Z : State) (a0 : Array Value) (hw : ∀ d ∈ tables_1, d.before a0 Z = true) (ws : List Jvm.Cond) (a : Addr) (cs : Int32) (h0 : Heap) (n0 : Nat) (Z0 : n0 ≤ h0.size) (SC : Sta Z h0 "java/lang/String" "COMPACT_STRINGS" "Z" (.int cs)) (hcs : ¬ cs = (0 : Int32)) (Fc : Fld Z h0 a "java/lang/String" "coder" "B" (.int (0 : Int32))) :
    MetFree l (⟨"java/lang/String", "isLatin1", "()Z"⟩ : MethodName) (head1 (Jvm.Cond.code (⟨"java/lang/String", "isLatin1", "()Z"⟩ : MethodName) jdk_42_method_154_code 1 (some .boolean) :: ws) ({ frames := 0, cells := 0, slots := 0, locals := 0 } : Room)) (fun a_ U => a_ = #[(.ref a)] ∧ Z.Warmed39 U.vm ∧ U.heap = h0) (fun _ _ _ _ _ => True) (fun _ U o U' => ∃ v L, o = .returned v ∧ Q_isl Z a cs h0 n0 v U'.heap L ∧ FrameEnd U o U' L ({ frames := 0, cells := 0, slots := 0, locals := 0 } : Room).cells ({ frames := 0, cells := 0, slots := 0, locals := 0 } : Room).slots) := by
  refine MetFree.of_bodySF (plainFor_of_name pn_java_lang_String) hisR ?_
  intro p e s m args below meth c s₁ Bd hml0 hP hK
  obtain ⟨rfl, hZ, hh⟩ := hP
  have hx := Bd.exec
  have hby := Bd.bytes
  have hml : c.maxLocals = 1 := hml0
  have hown : s.vm.findClass "java/lang/String" = some m.cls := findClass_of_methodNamed Bd.named
  have hnm := (name_of_methodNamed Bd.named Bd.method).1
  have X0 : Stand p l e ({ frames := 0, cells := 0, slots := 0, locals := 0 } : Room) s m #[(.ref a)] below meth c s₁ [] 0 0 := Stand.of_body Bd
  have e0 : s₁.heap = h0 := by rw [← hh, Bd.state]; rfl
  have N0 := Fr.nil n0
  have hlk := Bd.notSynchronized
  have hret := Bd.returns
  show OGo p e below (OEnd s (Q_isl Z a cs h0 n0) ({ frames := 0, cells := 0, slots := 0, locals := 0 } : Room).cells ({ frames := 0, cells := 0, slots := 0, locals := 0 } : Room).slots) (s₁.setTop (entryFrame m #[(.ref a)] 1))
  rw [ef_isl]
  show OGo p e below _ (s₁.setTop (mkF m 0 #[.val (.ref a)] []))
  obtain ⟨T1, X1, e1, st1⟩ := getS X0 hx hZ hown (host := "") (hw _ (List.mem_of_getElem? (i := 22) rfl)) Via.refl e0 SC (g := (mkF m 0 #[.val (.ref a)] [])) rfl (hb hby d_isl_0)
  refine OGo.by_ st1 ?_
  show OGo p e below _ (T1.setTop (mkF m 3 #[.val (.ref a)] [(.int cs)]))
  refine OGo.by_ (fun t k => XS.ifNo X1.here hx rfl (hb hby d_isl_3) rfl ((if0 _ _).trans (feq hcs).1) k) ?_
  show OGo p e below _ (T1.setTop (mkF m 6 #[.val (.ref a)] []))
  refine OGo.by_ (fun t k => XS.aloadN X1.here hx rfl (hb hby d_isl_6) rfl rfl k) ?_
  show OGo p e below _ (T1.setTop (mkF m 7 #[.val (.ref a)] [(.ref a)]))
  obtain ⟨T2, X2, e2, st2⟩ := getF X1 hx hZ hown (host := "") (Or.inl (hw _ (List.mem_of_getElem? (i := 23) rfl))) Via.refl e1 Fc (g := (mkF m 7 #[.val (.ref a)] [(.ref a)])) rfl rfl (hb hby d_isl_7)
  refine OGo.by_ st2 ?_
  show OGo p e below _ (T2.setTop (mkF m 10 #[.val (.ref a)] [(.int (0 : Int32))]))
  refine OGo.by_ (fun t k => XS.ifNo X2.here hx rfl (hb hby d_isl_10) rfl ((if0 _ _).trans (teq rfl).2) k) ?_
  show OGo p e below _ (T2.setTop (mkF m 13 #[.val (.ref a)] []))
  refine OGo.by_ (fun t k => XS.iconst X2.here hx rfl (hb hby d_isl_13) k) ?_
  show OGo p e below _ (T2.setTop (mkF m 14 #[.val (.ref a)] [(.int (1 : Int32))]))
  refine OGo.by_ (fun t k => XS.goto X2.here hx rfl (pc0 := 14) (pc' := 18) rfl (hb hby d_isl_14) (by decide) (by decide) k) ?_
  show OGo p e below _ (T2.setTop (mkF m 18 #[.val (.ref a)] [(.int (1 : Int32))]))
  exact own_retN X2 hx hlk (t := .boolean) hret (by simp) (hb hby d_isl_18) (by decide) (by decide) (⟨rfl, N0, e2⟩)
theorem d_cat_0 : decode jdk_42_method_56_code 0 = .ok (.aload_n 0, 1) := by decide +kernel
theorem d_cat_1 : decode jdk_42_method_56_code 1 = .ok (.invokevirtual 492, 3) := by decide +kernel
theorem pd_ocZ : parseMethodDescriptor "()Z" = some ⟨[], some .boolean⟩ := by decide +kernel
theorem d_cat_4 : decode jdk_42_method_56_code 4 = .ok (.ifCond .eq 12, 3) := by decide +kernel
theorem d_cat_7 : decode jdk_42_method_56_code 7 = .ok (.aload_n 0, 1) := by decide +kernel
theorem d_cat_8 : decode jdk_42_method_56_code 8 = .ok (.getfield 9, 3) := by decide +kernel
theorem d_cat_11 : decode jdk_42_method_56_code 11 = .ok (.iload_n 1, 1) := by decide +kernel
theorem d_cat_12 : decode jdk_42_method_56_code 12 = .ok (.invokestatic 495, 3) := by decide +kernel
theorem pd_oABIcC : parseMethodDescriptor "([BI)C" = some ⟨[(.array .byte), .int], some .char⟩ := by decide +kernel
theorem d_cat_15 : decode jdk_42_method_56_code 15 = .ok (.ireturn, 1) := by decide +kernel
theorem ef_cat (m : MethodId) (x0 : Addr) (x1 : Int32) : entryFrame m #[(.ref x0), (.int x1)] 2 = mkF m 0 #[.val (.ref x0), .val (.int x1)] [] := by first | (simp [entryFrame, mkF, argsToLocals, Value.category]; done) | rfl
def Q_cat (Z : State) (a : Addr) (cs : Int32) (b : Addr) (kb : ClassId) (p1 z x y : Int32) (vs : List Value) (wv : Value) (h0 : Heap) (n0 : Nat) (v : Option Value) (h : Heap) (L : List Loc) : Prop := v = some (.int y) ∧ Fr n0 L ∧ h = h0
set_option maxRecDepth 65536 in
set_option maxHeartbeats 40000000 in
theorem rm_cat (l : Launch) (Z : State) (a0 : Array Value) (hw : ∀ d ∈ tables_1, d.before a0 Z = true) (ws : List Jvm.Cond) (a : Addr) (cs : Int32) (b : Addr) (kb : ClassId) (p1 z x y : Int32) (vs : List Value) (wv : Value) (h0 : Heap) (n0 : Nat) (Z0 : n0 ≤ h0.size) (SC : Sta Z h0 "java/lang/String" "COMPACT_STRINGS" "Z" (.int cs)) (hcs : ¬ cs = (0 : Int32)) (Ex : Exa Z h0 a "java/lang/String") (Fc : Fld Z h0 a "java/lang/String" "coder" "B" (.int (0 : Int32))) (Fv : Fld Z h0 a "java/lang/String" "value" "[B" (.ref b)) (SF : Sta Z h0 "jdk/internal/util/Preconditions" "SIOOBE_FORMATTER" "Ljava/util/function/BiFunction;" wv) (hwv : wv.isRef = true) (Vb : Arv Z h0 b kb .byte z vs (.int (0 : Int32))) (h0' : ¬ p1 < (0 : Int32)) (h1' : p1 < z) (hat : vs.getD p1.toNatClampNeg (.int (0 : Int32)) = .int x) (hy : (x &&& (255 : Int32)) = y) :
    MetFree l (⟨"java/lang/String", "charAt", "(I)C"⟩ : MethodName) (head1 (Jvm.Cond.code (⟨"java/lang/String", "charAt", "(I)C"⟩ : MethodName) jdk_42_method_56_code 2 (some .char) :: ws) ({ frames := 3, cells := 0, slots := 0, locals := 40 } : Room)) (fun a_ U => a_ = #[(.ref a), (.int p1)] ∧ Z.Warmed39 U.vm ∧ U.heap = h0) (fun _ _ _ _ _ => True) (fun _ U o U' => ∃ v L, o = .returned v ∧ Q_cat Z a cs b kb p1 z x y vs wv h0 n0 v U'.heap L ∧ FrameEnd U o U' L ({ frames := 3, cells := 0, slots := 0, locals := 40 } : Room).cells ({ frames := 3, cells := 0, slots := 0, locals := 40 } : Room).slots) := by
  refine MetFree.of_bodySF (plainFor_of_name pn_java_lang_String) hisR ?_
  intro p e s m args below meth c s₁ Bd hml0 hP hK
  obtain ⟨rfl, hZ, hh⟩ := hP
  have hx := Bd.exec
  have hby := Bd.bytes
  have hml : c.maxLocals = 2 := hml0
  have hown : s.vm.findClass "java/lang/String" = some m.cls := findClass_of_methodNamed Bd.named
  have hnm := (name_of_methodNamed Bd.named Bd.method).1
  have X0 : Stand p l e ({ frames := 3, cells := 0, slots := 0, locals := 40 } : Room) s m #[(.ref a), (.int p1)] below meth c s₁ [] 0 0 := Stand.of_body Bd
  have e0 : s₁.heap = h0 := by rw [← hh, Bd.state]; rfl
  have N0 := Fr.nil n0
  have hlk := Bd.notSynchronized
  have hret := Bd.returns
  show OGo p e below (OEnd s (Q_cat Z a cs b kb p1 z x y vs wv h0 n0) ({ frames := 3, cells := 0, slots := 0, locals := 40 } : Room).cells ({ frames := 3, cells := 0, slots := 0, locals := 40 } : Room).slots) (s₁.setTop (entryFrame m #[(.ref a), (.int p1)] 2))
  rw [ef_cat]
  show OGo p e below _ (s₁.setTop (mkF m 0 #[.val (.ref a), .val (.int p1)] []))
  refine OGo.by_ (fun t k => XS.aloadN X0.here hx rfl (hb hby d_cat_0) rfl rfl k) ?_
  show OGo p e below _ (s₁.setTop (mkF m 1 #[.val (.ref a), .val (.int p1)] [(.ref a)]))
  obtain ⟨cq2, kq2, qa2, qb2, qc2⟩ := isOf hZ e0 Ex
  obtain ⟨_, _, ⟨T1, L1, k1, n1⟩, -, X1, ⟨Lc1, hQ1, l1, y1, z1⟩, st1⟩ := X0.virtualBack hx (y := (⟨"java/lang/String", "isLatin1", "()Z"⟩ : MethodName)) (z := (⟨"java/lang/String", "isLatin1", "()Z"⟩ : MethodName)) hown (mvT hZ (hw _ (List.mem_of_getElem? (i := 17) rfl))) (mvT hZ (hw _ (List.mem_of_getElem? (i := 18) rfl))) (notFace_of_selects (args := #[]) (mvT hZ (hw _ (List.mem_of_getElem? (i := 20) rfl)))) (mvT hZ (hw _ (List.mem_of_getElem? (i := 20) rfl))) (mvT hZ (hw _ (List.mem_of_getElem? (i := 19) rfl))) (by decide) (backOf (W := 0) (rm_isl l Z a0 hw [] a cs h0 n0 Z0 SC hcs Fc) hZ (hw _ (List.mem_of_getElem? (i := 21) rfl)) (hw _ (List.mem_of_getElem? (i := 5) rfl)) (by decide) (by decide)) qa2 qc2 (g := (mkF m 1 #[.val (.ref a), .val (.int p1)] [(.ref a)])) rfl (by rw [hml]; rfl) (Steps.refl _) (argsL := []) (rest := []) (lenOf pd_ocZ rfl) rfl (by show 2 * 0 + _ ≤ _; exact Nat.le_of_eq rfl) (hb hby d_cat_1) (fun _ _ => ⟨rfl, e0, (by decide : 0 + 0 ≤ _), (by decide : 0 + 0 ≤ _)⟩)
  dsimp only [Pt.U, Pt.locs, Pt.cells, Pt.slots] at X1 l1 y1 z1 st1 hQ1
  subst l1 y1 z1
  obtain ⟨rfl, Nq1, eq1⟩ := hQ1
  have N1 := Fr.app N0 Nq1
  refine OGo.by_ (fun t k => st1.trans k) ?_
  show OGo p e below _ (T1.setTop (mkF m 4 #[.val (.ref a), .val (.int p1)] [(.int (1 : Int32))]))
  refine OGo.by_ (fun t k => XS.ifNo X1.here hx rfl (hb hby d_cat_4) rfl ((if0 _ _).trans (feq (by decide)).1) k) ?_
  show OGo p e below _ (T1.setTop (mkF m 7 #[.val (.ref a), .val (.int p1)] []))
  refine OGo.by_ (fun t k => XS.aloadN X1.here hx rfl (hb hby d_cat_7) rfl rfl k) ?_
  show OGo p e below _ (T1.setTop (mkF m 8 #[.val (.ref a), .val (.int p1)] [(.ref a)]))
  obtain ⟨T3, X3, e3, st3⟩ := getF X1 hx hZ hown (host := "") (Or.inl (hw _ (List.mem_of_getElem? (i := 24) rfl))) Via.refl eq1 Fv (g := (mkF m 8 #[.val (.ref a), .val (.int p1)] [(.ref a)])) rfl rfl (hb hby d_cat_8)
  refine OGo.by_ st3 ?_
  show OGo p e below _ (T3.setTop (mkF m 11 #[.val (.ref a), .val (.int p1)] [(.ref b)]))
  refine OGo.by_ (fun t k => XS.iloadN X3.here hx rfl (hb hby d_cat_11) rfl k) ?_
  show OGo p e below _ (T3.setTop (mkF m 12 #[.val (.ref a), .val (.int p1)] [(.int p1), (.ref b)]))
  obtain ⟨_, _, ⟨T4, L4, k4, n4⟩, -, X4, ⟨Lc4, hQ4, l4, y4, z4⟩, st4⟩ := Jvm.LawKit.callS X3 hx (y := (⟨"java/lang/StringLatin1", "charAt", "([BI)C"⟩ : MethodName)) hown (mvT hZ (hw _ (List.mem_of_getElem? (i := 25) rfl))) (mvT hZ (hw _ (List.mem_of_getElem? (i := 26) rfl))) (mvT hZ (hw _ (List.mem_of_getElem? (i := 27) rfl))) (mvT hZ (hw _ (List.mem_of_getElem? (i := 28) rfl))) (by decide) (backOf (W := 0) (rm_lch l Z a0 hw [] b kb p1 z x y vs wv h0 n0 Z0 SF hwv Vb h0' h1' hat hy) hZ (hw _ (List.mem_of_getElem? (i := 28) rfl)) (hw _ (List.mem_of_getElem? (i := 27) rfl)) (by decide) (by decide)) (g := (mkF m 12 #[.val (.ref a), .val (.int p1)] [(.int p1), (.ref b)])) rfl (by rw [hml]; rfl) (argsL := [(.ref b), (.int p1)]) (rest := []) (lenOf pd_oABIcC rfl) rfl (by show 2 * 0 + _ ≤ _; exact Nat.le_of_eq rfl) (hb hby d_cat_12) (fun _ _ => ⟨rfl, e3, (by decide : 0 + 0 ≤ _), (by decide : 0 + 0 ≤ _)⟩)
  dsimp only [Pt.U, Pt.locs, Pt.cells, Pt.slots] at X4 l4 y4 z4 st4 hQ4
  subst l4 y4 z4
  obtain ⟨rfl, Nq4, eq4⟩ := hQ4
  have N4 := Fr.app N1 Nq4
  refine OGo.by_ st4 ?_
  show OGo p e below _ (T4.setTop (mkF m 15 #[.val (.ref a), .val (.int p1)] [(.int y)]))
  exact own_retN X4 hx hlk (t := .char) hret (by simp) (hb hby d_cat_15) (by decide) (by decide) (⟨by rw [own_nc2 hy], N4, eq4⟩)
theorem d_dv_0 : decode prog_32_method_8_code 0 = .ok (.iload_n 0, 1) := by decide +kernel
theorem d_dv_1 : decode prog_32_method_8_code 1 = .ok (.bipush 48, 2) := by decide +kernel
theorem d_dv_3 : decode prog_32_method_8_code 3 = .ok (.if_icmp .lt 14, 3) := by decide +kernel
theorem d_dv_17 : decode prog_32_method_8_code 17 = .ok (.iload_n 0, 1) := by decide +kernel
theorem d_dv_18 : decode prog_32_method_8_code 18 = .ok (.bipush 97, 2) := by decide +kernel
theorem d_dv_20 : decode prog_32_method_8_code 20 = .ok (.if_icmp .lt 17, 3) := by decide +kernel
theorem d_dv_37 : decode prog_32_method_8_code 37 = .ok (.iload_n 0, 1) := by decide +kernel
theorem d_dv_38 : decode prog_32_method_8_code 38 = .ok (.bipush 65, 2) := by decide +kernel
theorem d_dv_40 : decode prog_32_method_8_code 40 = .ok (.if_icmp .lt 17, 3) := by decide +kernel
theorem d_dv_57 : decode prog_32_method_8_code 57 = .ok (.iconst (-1), 1) := by decide +kernel
theorem d_dv_58 : decode prog_32_method_8_code 58 = .ok (.ireturn, 1) := by decide +kernel
theorem d_dv_43 : decode prog_32_method_8_code 43 = .ok (.iload_n 0, 1) := by decide +kernel
theorem d_dv_44 : decode prog_32_method_8_code 44 = .ok (.bipush 70, 2) := by decide +kernel
theorem d_dv_46 : decode prog_32_method_8_code 46 = .ok (.if_icmp .gt 11, 3) := by decide +kernel
theorem d_dv_49 : decode prog_32_method_8_code 49 = .ok (.iload_n 0, 1) := by decide +kernel
theorem d_dv_50 : decode prog_32_method_8_code 50 = .ok (.bipush 65, 2) := by decide +kernel
theorem d_dv_52 : decode prog_32_method_8_code 52 = .ok (.isub, 1) := by decide +kernel
theorem d_dv_53 : decode prog_32_method_8_code 53 = .ok (.bipush 10, 2) := by decide +kernel
theorem d_dv_55 : decode prog_32_method_8_code 55 = .ok (.iadd, 1) := by decide +kernel
theorem d_dv_56 : decode prog_32_method_8_code 56 = .ok (.ireturn, 1) := by decide +kernel
theorem d_dv_23 : decode prog_32_method_8_code 23 = .ok (.iload_n 0, 1) := by decide +kernel
theorem d_dv_24 : decode prog_32_method_8_code 24 = .ok (.bipush 102, 2) := by decide +kernel
theorem d_dv_26 : decode prog_32_method_8_code 26 = .ok (.if_icmp .gt 11, 3) := by decide +kernel
theorem d_dv_29 : decode prog_32_method_8_code 29 = .ok (.iload_n 0, 1) := by decide +kernel
theorem d_dv_30 : decode prog_32_method_8_code 30 = .ok (.bipush 97, 2) := by decide +kernel
theorem d_dv_32 : decode prog_32_method_8_code 32 = .ok (.isub, 1) := by decide +kernel
theorem d_dv_33 : decode prog_32_method_8_code 33 = .ok (.bipush 10, 2) := by decide +kernel
theorem d_dv_35 : decode prog_32_method_8_code 35 = .ok (.iadd, 1) := by decide +kernel
theorem d_dv_36 : decode prog_32_method_8_code 36 = .ok (.ireturn, 1) := by decide +kernel
theorem d_dv_6 : decode prog_32_method_8_code 6 = .ok (.iload_n 0, 1) := by decide +kernel
theorem d_dv_7 : decode prog_32_method_8_code 7 = .ok (.bipush 57, 2) := by decide +kernel
theorem d_dv_9 : decode prog_32_method_8_code 9 = .ok (.if_icmp .gt 8, 3) := by decide +kernel
theorem d_dv_12 : decode prog_32_method_8_code 12 = .ok (.iload_n 0, 1) := by decide +kernel
theorem d_dv_13 : decode prog_32_method_8_code 13 = .ok (.bipush 48, 2) := by decide +kernel
theorem d_dv_15 : decode prog_32_method_8_code 15 = .ok (.isub, 1) := by decide +kernel
theorem d_dv_16 : decode prog_32_method_8_code 16 = .ok (.ireturn, 1) := by decide +kernel
theorem pn_com_example_railhead_railhead_io_HexText : plainName "com/example/railhead/railhead/io/HexText" = true := by first | (simp [plainName, overriddenIn]; done) | decide +kernel
theorem ef_dv (m : MethodId) (x0 : Int32) : entryFrame m #[(.int x0)] 1 = mkF m 0 #[.val (.int x0)] [] := by first | (simp [entryFrame, mkF, argsToLocals, Value.category]; done) | rfl
def Q_dv (Z : State) (p1 : Int32) (h0 : Heap) (n0 : Nat) (v : Option Value) (h : Heap) (L : List Loc) : Prop := v = some (.int (own_dv p1)) ∧ Fr n0 L ∧ h = h0
set_option maxRecDepth 65536 in
set_option maxHeartbeats 40000000 in
theorem rm_dv (l : Launch) (Z : State) (a0 : Array Value) (hw : ∀ d ∈ tables_1, d.before a0 Z = true) (ws : List Jvm.Cond) (p1 : Int32) (h0 : Heap) (n0 : Nat) (Z0 : n0 ≤ h0.size)  :
    MetFree l (⟨"com/example/railhead/railhead/io/HexText", "digitValue", "(C)I"⟩ : MethodName) (head1 (Jvm.Cond.code (⟨"com/example/railhead/railhead/io/HexText", "digitValue", "(C)I"⟩ : MethodName) prog_32_method_8_code 1 (some .int) :: ws) ({ frames := 0, cells := 0, slots := 0, locals := 0 } : Room)) (fun a_ U => a_ = #[(.int p1)] ∧ Z.Warmed39 U.vm ∧ U.heap = h0) (fun _ _ _ _ _ => True) (fun _ U o U' => ∃ v L, o = .returned v ∧ Q_dv Z p1 h0 n0 v U'.heap L ∧ FrameEnd U o U' L ({ frames := 0, cells := 0, slots := 0, locals := 0 } : Room).cells ({ frames := 0, cells := 0, slots := 0, locals := 0 } : Room).slots) := by
  refine MetFree.of_bodySF (plainFor_of_name pn_com_example_railhead_railhead_io_HexText) hisR ?_
  intro p e s m args below meth c s₁ Bd hml0 hP hK
  obtain ⟨rfl, hZ, hh⟩ := hP
  have hx := Bd.exec
  have hby := Bd.bytes
  have hml : c.maxLocals = 1 := hml0
  have hown : s.vm.findClass "com/example/railhead/railhead/io/HexText" = some m.cls := findClass_of_methodNamed Bd.named
  have hnm := (name_of_methodNamed Bd.named Bd.method).1
  have X0 : Stand p l e ({ frames := 0, cells := 0, slots := 0, locals := 0 } : Room) s m #[(.int p1)] below meth c s₁ [] 0 0 := Stand.of_body Bd
  have e0 : s₁.heap = h0 := by rw [← hh, Bd.state]; rfl
  have N0 := Fr.nil n0
  have hlk := Bd.notSynchronized
  have hret := Bd.returns
  show OGo p e below (OEnd s (Q_dv Z p1 h0 n0) ({ frames := 0, cells := 0, slots := 0, locals := 0 } : Room).cells ({ frames := 0, cells := 0, slots := 0, locals := 0 } : Room).slots) (s₁.setTop (entryFrame m #[(.int p1)] 1))
  rw [ef_dv]
  show OGo p e below _ (s₁.setTop (mkF m 0 #[.val (.int p1)] []))
  refine OGo.by_ (fun t k => XS.iloadN X0.here hx rfl (hb hby d_dv_0) rfl k) ?_
  show OGo p e below _ (s₁.setTop (mkF m 1 #[.val (.int p1)] [(.int p1)]))
  refine OGo.by_ (fun t k => XS.bipush X0.here hx rfl (hb hby d_dv_1) k) ?_
  show OGo p e below _ (s₁.setTop (mkF m 3 #[.val (.int p1)] [(.int (48 : Int32)), (.int p1)]))
  by_cases hc3 : p1 < (48 : Int32)
  · refine OGo.by_ (fun t k => XS.icmpYes X0.here hx rfl (pc0 := 3) (pc' := 17) rfl (hb hby d_dv_3) rfl (tlt hc3).1 (by decide) (by decide) k) ?_
    show OGo p e below _ (s₁.setTop (mkF m 17 #[.val (.int p1)] []))
    refine OGo.by_ (fun t k => XS.iloadN X0.here hx rfl (hb hby d_dv_17) rfl k) ?_
    show OGo p e below _ (s₁.setTop (mkF m 18 #[.val (.int p1)] [(.int p1)]))
    refine OGo.by_ (fun t k => XS.bipush X0.here hx rfl (hb hby d_dv_18) k) ?_
    show OGo p e below _ (s₁.setTop (mkF m 20 #[.val (.int p1)] [(.int (97 : Int32)), (.int p1)]))
    by_cases hc20 : p1 < (97 : Int32)
    · refine OGo.by_ (fun t k => XS.icmpYes X0.here hx rfl (pc0 := 20) (pc' := 37) rfl (hb hby d_dv_20) rfl (tlt hc20).1 (by decide) (by decide) k) ?_
      show OGo p e below _ (s₁.setTop (mkF m 37 #[.val (.int p1)] []))
      refine OGo.by_ (fun t k => XS.iloadN X0.here hx rfl (hb hby d_dv_37) rfl k) ?_
      show OGo p e below _ (s₁.setTop (mkF m 38 #[.val (.int p1)] [(.int p1)]))
      refine OGo.by_ (fun t k => XS.bipush X0.here hx rfl (hb hby d_dv_38) k) ?_
      show OGo p e below _ (s₁.setTop (mkF m 40 #[.val (.int p1)] [(.int (65 : Int32)), (.int p1)]))
      by_cases hc40 : p1 < (65 : Int32)
      · refine OGo.by_ (fun t k => XS.icmpYes X0.here hx rfl (pc0 := 40) (pc' := 57) rfl (hb hby d_dv_40) rfl (tlt hc40).1 (by decide) (by decide) k) ?_
        show OGo p e below _ (s₁.setTop (mkF m 57 #[.val (.int p1)] []))
        refine OGo.by_ (fun t k => XS.iconst X0.here hx rfl (hb hby d_dv_57) k) ?_
        show OGo p e below _ (s₁.setTop (mkF m 58 #[.val (.int p1)] [(.int (-1 : Int32))]))
        exact own_retI X0 hx hlk hret (hb hby d_dv_58) (by decide) (by decide) (⟨by simp only [own_dv, own_dvB, own_dvA, if_pos hc3, if_pos hc20, if_pos hc40], N0, e0⟩)
      · refine OGo.by_ (fun t k => XS.icmpNo X0.here hx rfl (hb hby d_dv_40) rfl (flt hc40).1 k) ?_
        show OGo p e below _ (s₁.setTop (mkF m 43 #[.val (.int p1)] []))
        refine OGo.by_ (fun t k => XS.iloadN X0.here hx rfl (hb hby d_dv_43) rfl k) ?_
        show OGo p e below _ (s₁.setTop (mkF m 44 #[.val (.int p1)] [(.int p1)]))
        refine OGo.by_ (fun t k => XS.bipush X0.here hx rfl (hb hby d_dv_44) k) ?_
        show OGo p e below _ (s₁.setTop (mkF m 46 #[.val (.int p1)] [(.int (70 : Int32)), (.int p1)]))
        by_cases hc46 : (70 : Int32) < p1
        · refine OGo.by_ (fun t k => XS.icmpYes X0.here hx rfl (pc0 := 46) (pc' := 57) rfl (hb hby d_dv_46) rfl (tlt hc46).2.2.1 (by decide) (by decide) k) ?_
          show OGo p e below _ (s₁.setTop (mkF m 57 #[.val (.int p1)] []))
          refine OGo.by_ (fun t k => XS.iconst X0.here hx rfl (hb hby d_dv_57) k) ?_
          show OGo p e below _ (s₁.setTop (mkF m 58 #[.val (.int p1)] [(.int (-1 : Int32))]))
          exact own_retI X0 hx hlk hret (hb hby d_dv_58) (by decide) (by decide) (⟨by simp only [own_dv, own_dvB, own_dvA, if_pos hc3, if_pos hc20, if_neg hc40, if_pos hc46], N0, e0⟩)
        · refine OGo.by_ (fun t k => XS.icmpNo X0.here hx rfl (hb hby d_dv_46) rfl (flt hc46).2.2.1 k) ?_
          show OGo p e below _ (s₁.setTop (mkF m 49 #[.val (.int p1)] []))
          refine OGo.by_ (fun t k => XS.iloadN X0.here hx rfl (hb hby d_dv_49) rfl k) ?_
          show OGo p e below _ (s₁.setTop (mkF m 50 #[.val (.int p1)] [(.int p1)]))
          refine OGo.by_ (fun t k => XS.bipush X0.here hx rfl (hb hby d_dv_50) k) ?_
          show OGo p e below _ (s₁.setTop (mkF m 52 #[.val (.int p1)] [(.int (65 : Int32)), (.int p1)]))
          refine OGo.by_ (fun t k => XS.isub X0.here hx rfl (hb hby d_dv_52) rfl k) ?_
          show OGo p e below _ (s₁.setTop (mkF m 53 #[.val (.int p1)] [(.int (p1 - (65 : Int32)))]))
          refine OGo.by_ (fun t k => XS.bipush X0.here hx rfl (hb hby d_dv_53) k) ?_
          show OGo p e below _ (s₁.setTop (mkF m 55 #[.val (.int p1)] [(.int (10 : Int32)), (.int (p1 - (65 : Int32)))]))
          refine OGo.by_ (fun t k => XS.iadd X0.here hx rfl (hb hby d_dv_55) rfl k) ?_
          show OGo p e below _ (s₁.setTop (mkF m 56 #[.val (.int p1)] [(.int ((p1 - (65 : Int32)) + (10 : Int32)))]))
          exact own_retI X0 hx hlk hret (hb hby d_dv_56) (by decide) (by decide) (⟨by simp only [own_dv, own_dvB, own_dvA, if_pos hc3, if_pos hc20, if_neg hc40, if_neg hc46], N0, e0⟩)
    · refine OGo.by_ (fun t k => XS.icmpNo X0.here hx rfl (hb hby d_dv_20) rfl (flt hc20).1 k) ?_
      show OGo p e below _ (s₁.setTop (mkF m 23 #[.val (.int p1)] []))
      refine OGo.by_ (fun t k => XS.iloadN X0.here hx rfl (hb hby d_dv_23) rfl k) ?_
      show OGo p e below _ (s₁.setTop (mkF m 24 #[.val (.int p1)] [(.int p1)]))
      refine OGo.by_ (fun t k => XS.bipush X0.here hx rfl (hb hby d_dv_24) k) ?_
      show OGo p e below _ (s₁.setTop (mkF m 26 #[.val (.int p1)] [(.int (102 : Int32)), (.int p1)]))
      by_cases hc26 : (102 : Int32) < p1
      · refine OGo.by_ (fun t k => XS.icmpYes X0.here hx rfl (pc0 := 26) (pc' := 37) rfl (hb hby d_dv_26) rfl (tlt hc26).2.2.1 (by decide) (by decide) k) ?_
        show OGo p e below _ (s₁.setTop (mkF m 37 #[.val (.int p1)] []))
        refine OGo.by_ (fun t k => XS.iloadN X0.here hx rfl (hb hby d_dv_37) rfl k) ?_
        show OGo p e below _ (s₁.setTop (mkF m 38 #[.val (.int p1)] [(.int p1)]))
        refine OGo.by_ (fun t k => XS.bipush X0.here hx rfl (hb hby d_dv_38) k) ?_
        show OGo p e below _ (s₁.setTop (mkF m 40 #[.val (.int p1)] [(.int (65 : Int32)), (.int p1)]))
        by_cases hc40 : p1 < (65 : Int32)
        · refine OGo.by_ (fun t k => XS.icmpYes X0.here hx rfl (pc0 := 40) (pc' := 57) rfl (hb hby d_dv_40) rfl (tlt hc40).1 (by decide) (by decide) k) ?_
          show OGo p e below _ (s₁.setTop (mkF m 57 #[.val (.int p1)] []))
          refine OGo.by_ (fun t k => XS.iconst X0.here hx rfl (hb hby d_dv_57) k) ?_
          show OGo p e below _ (s₁.setTop (mkF m 58 #[.val (.int p1)] [(.int (-1 : Int32))]))
          exact own_retI X0 hx hlk hret (hb hby d_dv_58) (by decide) (by decide) (⟨by simp only [own_dv, own_dvB, own_dvA, if_pos hc3, if_neg hc20, if_pos hc26, if_pos hc40], N0, e0⟩)
        · refine OGo.by_ (fun t k => XS.icmpNo X0.here hx rfl (hb hby d_dv_40) rfl (flt hc40).1 k) ?_
          show OGo p e below _ (s₁.setTop (mkF m 43 #[.val (.int p1)] []))
          refine OGo.by_ (fun t k => XS.iloadN X0.here hx rfl (hb hby d_dv_43) rfl k) ?_
          show OGo p e below _ (s₁.setTop (mkF m 44 #[.val (.int p1)] [(.int p1)]))
          refine OGo.by_ (fun t k => XS.bipush X0.here hx rfl (hb hby d_dv_44) k) ?_
          show OGo p e below _ (s₁.setTop (mkF m 46 #[.val (.int p1)] [(.int (70 : Int32)), (.int p1)]))
          by_cases hc46 : (70 : Int32) < p1
          · refine OGo.by_ (fun t k => XS.icmpYes X0.here hx rfl (pc0 := 46) (pc' := 57) rfl (hb hby d_dv_46) rfl (tlt hc46).2.2.1 (by decide) (by decide) k) ?_
            show OGo p e below _ (s₁.setTop (mkF m 57 #[.val (.int p1)] []))
            refine OGo.by_ (fun t k => XS.iconst X0.here hx rfl (hb hby d_dv_57) k) ?_
            show OGo p e below _ (s₁.setTop (mkF m 58 #[.val (.int p1)] [(.int (-1 : Int32))]))
            exact own_retI X0 hx hlk hret (hb hby d_dv_58) (by decide) (by decide) (⟨by simp only [own_dv, own_dvB, own_dvA, if_pos hc3, if_neg hc20, if_pos hc26, if_neg hc40, if_pos hc46], N0, e0⟩)
          · refine OGo.by_ (fun t k => XS.icmpNo X0.here hx rfl (hb hby d_dv_46) rfl (flt hc46).2.2.1 k) ?_
            show OGo p e below _ (s₁.setTop (mkF m 49 #[.val (.int p1)] []))
            refine OGo.by_ (fun t k => XS.iloadN X0.here hx rfl (hb hby d_dv_49) rfl k) ?_
            show OGo p e below _ (s₁.setTop (mkF m 50 #[.val (.int p1)] [(.int p1)]))
            refine OGo.by_ (fun t k => XS.bipush X0.here hx rfl (hb hby d_dv_50) k) ?_
            show OGo p e below _ (s₁.setTop (mkF m 52 #[.val (.int p1)] [(.int (65 : Int32)), (.int p1)]))
            refine OGo.by_ (fun t k => XS.isub X0.here hx rfl (hb hby d_dv_52) rfl k) ?_
            show OGo p e below _ (s₁.setTop (mkF m 53 #[.val (.int p1)] [(.int (p1 - (65 : Int32)))]))
            refine OGo.by_ (fun t k => XS.bipush X0.here hx rfl (hb hby d_dv_53) k) ?_
            show OGo p e below _ (s₁.setTop (mkF m 55 #[.val (.int p1)] [(.int (10 : Int32)), (.int (p1 - (65 : Int32)))]))
            refine OGo.by_ (fun t k => XS.iadd X0.here hx rfl (hb hby d_dv_55) rfl k) ?_
            show OGo p e below _ (s₁.setTop (mkF m 56 #[.val (.int p1)] [(.int ((p1 - (65 : Int32)) + (10 : Int32)))]))
            exact own_retI X0 hx hlk hret (hb hby d_dv_56) (by decide) (by decide) (⟨by simp only [own_dv, own_dvB, own_dvA, if_pos hc3, if_neg hc20, if_pos hc26, if_neg hc40, if_neg hc46], N0, e0⟩)
      · refine OGo.by_ (fun t k => XS.icmpNo X0.here hx rfl (hb hby d_dv_26) rfl (flt hc26).2.2.1 k) ?_
        show OGo p e below _ (s₁.setTop (mkF m 29 #[.val (.int p1)] []))
        refine OGo.by_ (fun t k => XS.iloadN X0.here hx rfl (hb hby d_dv_29) rfl k) ?_
        show OGo p e below _ (s₁.setTop (mkF m 30 #[.val (.int p1)] [(.int p1)]))
        refine OGo.by_ (fun t k => XS.bipush X0.here hx rfl (hb hby d_dv_30) k) ?_
        show OGo p e below _ (s₁.setTop (mkF m 32 #[.val (.int p1)] [(.int (97 : Int32)), (.int p1)]))
        refine OGo.by_ (fun t k => XS.isub X0.here hx rfl (hb hby d_dv_32) rfl k) ?_
        show OGo p e below _ (s₁.setTop (mkF m 33 #[.val (.int p1)] [(.int (p1 - (97 : Int32)))]))
        refine OGo.by_ (fun t k => XS.bipush X0.here hx rfl (hb hby d_dv_33) k) ?_
        show OGo p e below _ (s₁.setTop (mkF m 35 #[.val (.int p1)] [(.int (10 : Int32)), (.int (p1 - (97 : Int32)))]))
        refine OGo.by_ (fun t k => XS.iadd X0.here hx rfl (hb hby d_dv_35) rfl k) ?_
        show OGo p e below _ (s₁.setTop (mkF m 36 #[.val (.int p1)] [(.int ((p1 - (97 : Int32)) + (10 : Int32)))]))
        exact own_retI X0 hx hlk hret (hb hby d_dv_36) (by decide) (by decide) (⟨by simp only [own_dv, own_dvB, own_dvA, if_pos hc3, if_neg hc20, if_neg hc26], N0, e0⟩)
  · refine OGo.by_ (fun t k => XS.icmpNo X0.here hx rfl (hb hby d_dv_3) rfl (flt hc3).1 k) ?_
    show OGo p e below _ (s₁.setTop (mkF m 6 #[.val (.int p1)] []))
    refine OGo.by_ (fun t k => XS.iloadN X0.here hx rfl (hb hby d_dv_6) rfl k) ?_
    show OGo p e below _ (s₁.setTop (mkF m 7 #[.val (.int p1)] [(.int p1)]))
    refine OGo.by_ (fun t k => XS.bipush X0.here hx rfl (hb hby d_dv_7) k) ?_
    show OGo p e below _ (s₁.setTop (mkF m 9 #[.val (.int p1)] [(.int (57 : Int32)), (.int p1)]))
    by_cases hc9 : (57 : Int32) < p1
    · refine OGo.by_ (fun t k => XS.icmpYes X0.here hx rfl (pc0 := 9) (pc' := 17) rfl (hb hby d_dv_9) rfl (tlt hc9).2.2.1 (by decide) (by decide) k) ?_
      show OGo p e below _ (s₁.setTop (mkF m 17 #[.val (.int p1)] []))
      refine OGo.by_ (fun t k => XS.iloadN X0.here hx rfl (hb hby d_dv_17) rfl k) ?_
      show OGo p e below _ (s₁.setTop (mkF m 18 #[.val (.int p1)] [(.int p1)]))
      refine OGo.by_ (fun t k => XS.bipush X0.here hx rfl (hb hby d_dv_18) k) ?_
      show OGo p e below _ (s₁.setTop (mkF m 20 #[.val (.int p1)] [(.int (97 : Int32)), (.int p1)]))
      by_cases hc20 : p1 < (97 : Int32)
      · refine OGo.by_ (fun t k => XS.icmpYes X0.here hx rfl (pc0 := 20) (pc' := 37) rfl (hb hby d_dv_20) rfl (tlt hc20).1 (by decide) (by decide) k) ?_
        show OGo p e below _ (s₁.setTop (mkF m 37 #[.val (.int p1)] []))
        refine OGo.by_ (fun t k => XS.iloadN X0.here hx rfl (hb hby d_dv_37) rfl k) ?_
        show OGo p e below _ (s₁.setTop (mkF m 38 #[.val (.int p1)] [(.int p1)]))
        refine OGo.by_ (fun t k => XS.bipush X0.here hx rfl (hb hby d_dv_38) k) ?_
        show OGo p e below _ (s₁.setTop (mkF m 40 #[.val (.int p1)] [(.int (65 : Int32)), (.int p1)]))
        by_cases hc40 : p1 < (65 : Int32)
        · refine OGo.by_ (fun t k => XS.icmpYes X0.here hx rfl (pc0 := 40) (pc' := 57) rfl (hb hby d_dv_40) rfl (tlt hc40).1 (by decide) (by decide) k) ?_
          show OGo p e below _ (s₁.setTop (mkF m 57 #[.val (.int p1)] []))
          refine OGo.by_ (fun t k => XS.iconst X0.here hx rfl (hb hby d_dv_57) k) ?_
          show OGo p e below _ (s₁.setTop (mkF m 58 #[.val (.int p1)] [(.int (-1 : Int32))]))
          exact own_retI X0 hx hlk hret (hb hby d_dv_58) (by decide) (by decide) (⟨by simp only [own_dv, own_dvB, own_dvA, if_neg hc3, if_pos hc9, if_pos hc20, if_pos hc40], N0, e0⟩)
        · refine OGo.by_ (fun t k => XS.icmpNo X0.here hx rfl (hb hby d_dv_40) rfl (flt hc40).1 k) ?_
          show OGo p e below _ (s₁.setTop (mkF m 43 #[.val (.int p1)] []))
          refine OGo.by_ (fun t k => XS.iloadN X0.here hx rfl (hb hby d_dv_43) rfl k) ?_
          show OGo p e below _ (s₁.setTop (mkF m 44 #[.val (.int p1)] [(.int p1)]))
          refine OGo.by_ (fun t k => XS.bipush X0.here hx rfl (hb hby d_dv_44) k) ?_
          show OGo p e below _ (s₁.setTop (mkF m 46 #[.val (.int p1)] [(.int (70 : Int32)), (.int p1)]))
          by_cases hc46 : (70 : Int32) < p1
          · refine OGo.by_ (fun t k => XS.icmpYes X0.here hx rfl (pc0 := 46) (pc' := 57) rfl (hb hby d_dv_46) rfl (tlt hc46).2.2.1 (by decide) (by decide) k) ?_
            show OGo p e below _ (s₁.setTop (mkF m 57 #[.val (.int p1)] []))
            refine OGo.by_ (fun t k => XS.iconst X0.here hx rfl (hb hby d_dv_57) k) ?_
            show OGo p e below _ (s₁.setTop (mkF m 58 #[.val (.int p1)] [(.int (-1 : Int32))]))
            exact own_retI X0 hx hlk hret (hb hby d_dv_58) (by decide) (by decide) (⟨by simp only [own_dv, own_dvB, own_dvA, if_neg hc3, if_pos hc9, if_pos hc20, if_neg hc40, if_pos hc46], N0, e0⟩)
          · refine OGo.by_ (fun t k => XS.icmpNo X0.here hx rfl (hb hby d_dv_46) rfl (flt hc46).2.2.1 k) ?_
            show OGo p e below _ (s₁.setTop (mkF m 49 #[.val (.int p1)] []))
            refine OGo.by_ (fun t k => XS.iloadN X0.here hx rfl (hb hby d_dv_49) rfl k) ?_
            show OGo p e below _ (s₁.setTop (mkF m 50 #[.val (.int p1)] [(.int p1)]))
            refine OGo.by_ (fun t k => XS.bipush X0.here hx rfl (hb hby d_dv_50) k) ?_
            show OGo p e below _ (s₁.setTop (mkF m 52 #[.val (.int p1)] [(.int (65 : Int32)), (.int p1)]))
            refine OGo.by_ (fun t k => XS.isub X0.here hx rfl (hb hby d_dv_52) rfl k) ?_
            show OGo p e below _ (s₁.setTop (mkF m 53 #[.val (.int p1)] [(.int (p1 - (65 : Int32)))]))
            refine OGo.by_ (fun t k => XS.bipush X0.here hx rfl (hb hby d_dv_53) k) ?_
            show OGo p e below _ (s₁.setTop (mkF m 55 #[.val (.int p1)] [(.int (10 : Int32)), (.int (p1 - (65 : Int32)))]))
            refine OGo.by_ (fun t k => XS.iadd X0.here hx rfl (hb hby d_dv_55) rfl k) ?_
            show OGo p e below _ (s₁.setTop (mkF m 56 #[.val (.int p1)] [(.int ((p1 - (65 : Int32)) + (10 : Int32)))]))
            exact own_retI X0 hx hlk hret (hb hby d_dv_56) (by decide) (by decide) (⟨by simp only [own_dv, own_dvB, own_dvA, if_neg hc3, if_pos hc9, if_pos hc20, if_neg hc40, if_neg hc46], N0, e0⟩)
      · refine OGo.by_ (fun t k => XS.icmpNo X0.here hx rfl (hb hby d_dv_20) rfl (flt hc20).1 k) ?_
        show OGo p e below _ (s₁.setTop (mkF m 23 #[.val (.int p1)] []))
        refine OGo.by_ (fun t k => XS.iloadN X0.here hx rfl (hb hby d_dv_23) rfl k) ?_
        show OGo p e below _ (s₁.setTop (mkF m 24 #[.val (.int p1)] [(.int p1)]))
        refine OGo.by_ (fun t k => XS.bipush X0.here hx rfl (hb hby d_dv_24) k) ?_
        show OGo p e below _ (s₁.setTop (mkF m 26 #[.val (.int p1)] [(.int (102 : Int32)), (.int p1)]))
        by_cases hc26 : (102 : Int32) < p1
        · refine OGo.by_ (fun t k => XS.icmpYes X0.here hx rfl (pc0 := 26) (pc' := 37) rfl (hb hby d_dv_26) rfl (tlt hc26).2.2.1 (by decide) (by decide) k) ?_
          show OGo p e below _ (s₁.setTop (mkF m 37 #[.val (.int p1)] []))
          refine OGo.by_ (fun t k => XS.iloadN X0.here hx rfl (hb hby d_dv_37) rfl k) ?_
          show OGo p e below _ (s₁.setTop (mkF m 38 #[.val (.int p1)] [(.int p1)]))
          refine OGo.by_ (fun t k => XS.bipush X0.here hx rfl (hb hby d_dv_38) k) ?_
          show OGo p e below _ (s₁.setTop (mkF m 40 #[.val (.int p1)] [(.int (65 : Int32)), (.int p1)]))
          by_cases hc40 : p1 < (65 : Int32)
          · refine OGo.by_ (fun t k => XS.icmpYes X0.here hx rfl (pc0 := 40) (pc' := 57) rfl (hb hby d_dv_40) rfl (tlt hc40).1 (by decide) (by decide) k) ?_
            show OGo p e below _ (s₁.setTop (mkF m 57 #[.val (.int p1)] []))
            refine OGo.by_ (fun t k => XS.iconst X0.here hx rfl (hb hby d_dv_57) k) ?_
            show OGo p e below _ (s₁.setTop (mkF m 58 #[.val (.int p1)] [(.int (-1 : Int32))]))
            exact own_retI X0 hx hlk hret (hb hby d_dv_58) (by decide) (by decide) (⟨by simp only [own_dv, own_dvB, own_dvA, if_neg hc3, if_pos hc9, if_neg hc20, if_pos hc26, if_pos hc40], N0, e0⟩)
          · refine OGo.by_ (fun t k => XS.icmpNo X0.here hx rfl (hb hby d_dv_40) rfl (flt hc40).1 k) ?_
            show OGo p e below _ (s₁.setTop (mkF m 43 #[.val (.int p1)] []))
            refine OGo.by_ (fun t k => XS.iloadN X0.here hx rfl (hb hby d_dv_43) rfl k) ?_
            show OGo p e below _ (s₁.setTop (mkF m 44 #[.val (.int p1)] [(.int p1)]))
            refine OGo.by_ (fun t k => XS.bipush X0.here hx rfl (hb hby d_dv_44) k) ?_
            show OGo p e below _ (s₁.setTop (mkF m 46 #[.val (.int p1)] [(.int (70 : Int32)), (.int p1)]))
            by_cases hc46 : (70 : Int32) < p1
            · refine OGo.by_ (fun t k => XS.icmpYes X0.here hx rfl (pc0 := 46) (pc' := 57) rfl (hb hby d_dv_46) rfl (tlt hc46).2.2.1 (by decide) (by decide) k) ?_
              show OGo p e below _ (s₁.setTop (mkF m 57 #[.val (.int p1)] []))
              refine OGo.by_ (fun t k => XS.iconst X0.here hx rfl (hb hby d_dv_57) k) ?_
              show OGo p e below _ (s₁.setTop (mkF m 58 #[.val (.int p1)] [(.int (-1 : Int32))]))
              exact own_retI X0 hx hlk hret (hb hby d_dv_58) (by decide) (by decide) (⟨by simp only [own_dv, own_dvB, own_dvA, if_neg hc3, if_pos hc9, if_neg hc20, if_pos hc26, if_neg hc40, if_pos hc46], N0, e0⟩)
            · refine OGo.by_ (fun t k => XS.icmpNo X0.here hx rfl (hb hby d_dv_46) rfl (flt hc46).2.2.1 k) ?_
              show OGo p e below _ (s₁.setTop (mkF m 49 #[.val (.int p1)] []))
              refine OGo.by_ (fun t k => XS.iloadN X0.here hx rfl (hb hby d_dv_49) rfl k) ?_
              show OGo p e below _ (s₁.setTop (mkF m 50 #[.val (.int p1)] [(.int p1)]))
              refine OGo.by_ (fun t k => XS.bipush X0.here hx rfl (hb hby d_dv_50) k) ?_
              show OGo p e below _ (s₁.setTop (mkF m 52 #[.val (.int p1)] [(.int (65 : Int32)), (.int p1)]))
              refine OGo.by_ (fun t k => XS.isub X0.here hx rfl (hb hby d_dv_52) rfl k) ?_
              show OGo p e below _ (s₁.setTop (mkF m 53 #[.val (.int p1)] [(.int (p1 - (65 : Int32)))]))
              refine OGo.by_ (fun t k => XS.bipush X0.here hx rfl (hb hby d_dv_53) k) ?_
              show OGo p e below _ (s₁.setTop (mkF m 55 #[.val (.int p1)] [(.int (10 : Int32)), (.int (p1 - (65 : Int32)))]))
              refine OGo.by_ (fun t k => XS.iadd X0.here hx rfl (hb hby d_dv_55) rfl k) ?_
              show OGo p e below _ (s₁.setTop (mkF m 56 #[.val (.int p1)] [(.int ((p1 - (65 : Int32)) + (10 : Int32)))]))
              exact own_retI X0 hx hlk hret (hb hby d_dv_56) (by decide) (by decide) (⟨by simp only [own_dv, own_dvB, own_dvA, if_neg hc3, if_pos hc9, if_neg hc20, if_pos hc26, if_neg hc40, if_neg hc46], N0, e0⟩)
        · refine OGo.by_ (fun t k => XS.icmpNo X0.here hx rfl (hb hby d_dv_26) rfl (flt hc26).2.2.1 k) ?_
          show OGo p e below _ (s₁.setTop (mkF m 29 #[.val (.int p1)] []))
          refine OGo.by_ (fun t k => XS.iloadN X0.here hx rfl (hb hby d_dv_29) rfl k) ?_
          show OGo p e below _ (s₁.setTop (mkF m 30 #[.val (.int p1)] [(.int p1)]))
          refine OGo.by_ (fun t k => XS.bipush X0.here hx rfl (hb hby d_dv_30) k) ?_
          show OGo p e below _ (s₁.setTop (mkF m 32 #[.val (.int p1)] [(.int (97 : Int32)), (.int p1)]))
          refine OGo.by_ (fun t k => XS.isub X0.here hx rfl (hb hby d_dv_32) rfl k) ?_
          show OGo p e below _ (s₁.setTop (mkF m 33 #[.val (.int p1)] [(.int (p1 - (97 : Int32)))]))
          refine OGo.by_ (fun t k => XS.bipush X0.here hx rfl (hb hby d_dv_33) k) ?_
          show OGo p e below _ (s₁.setTop (mkF m 35 #[.val (.int p1)] [(.int (10 : Int32)), (.int (p1 - (97 : Int32)))]))
          refine OGo.by_ (fun t k => XS.iadd X0.here hx rfl (hb hby d_dv_35) rfl k) ?_
          show OGo p e below _ (s₁.setTop (mkF m 36 #[.val (.int p1)] [(.int ((p1 - (97 : Int32)) + (10 : Int32)))]))
          exact own_retI X0 hx hlk hret (hb hby d_dv_36) (by decide) (by decide) (⟨by simp only [own_dv, own_dvB, own_dvA, if_neg hc3, if_pos hc9, if_neg hc20, if_neg hc26], N0, e0⟩)
    · refine OGo.by_ (fun t k => XS.icmpNo X0.here hx rfl (hb hby d_dv_9) rfl (flt hc9).2.2.1 k) ?_
      show OGo p e below _ (s₁.setTop (mkF m 12 #[.val (.int p1)] []))
      refine OGo.by_ (fun t k => XS.iloadN X0.here hx rfl (hb hby d_dv_12) rfl k) ?_
      show OGo p e below _ (s₁.setTop (mkF m 13 #[.val (.int p1)] [(.int p1)]))
      refine OGo.by_ (fun t k => XS.bipush X0.here hx rfl (hb hby d_dv_13) k) ?_
      show OGo p e below _ (s₁.setTop (mkF m 15 #[.val (.int p1)] [(.int (48 : Int32)), (.int p1)]))
      refine OGo.by_ (fun t k => XS.isub X0.here hx rfl (hb hby d_dv_15) rfl k) ?_
      show OGo p e below _ (s₁.setTop (mkF m 16 #[.val (.int p1)] [(.int (p1 - (48 : Int32)))]))
      exact own_retI X0 hx hlk hret (hb hby d_dv_16) (by decide) (by decide) (⟨by simp only [own_dv, own_dvB, own_dvA, if_neg hc3, if_neg hc9], N0, e0⟩)
theorem pd_oCcI : parseMethodDescriptor "(C)I" = some ⟨[.char], some .int⟩ := by decide +kernel
theorem pd_oIcC : parseMethodDescriptor "(I)C" = some ⟨[.int], some .char⟩ := by decide +kernel
theorem pn_com_example_railhead_railhead_io_HexTextDigitValuePinLaw : plainName "com/example/railhead/railhead/io/HexTextDigitValuePinLaw" = true := by first | (simp [plainName, overriddenIn]; done) | decide +kernel
theorem ef_law (m : MethodId) (x0 : Int32) (x1 : Int32) : entryFrame m #[(.int x0), (.int x1)] maxLocals = mkF m 0 #[.val (.int x0), .val (.int x1), .unset, .unset, .unset, .unset, .unset] [] := by first | (simp [entryFrame, mkF, argsToLocals, Value.category, maxLocals]; done) | rfl
def Q_law (Z : State) (p1 p2 cs : Int32) (wv : Value) (h0 : Heap) (n0 : Nat) (v : Option Value) (h : Heap) (L : List Loc) : Prop := v = some (.int 1) ∧ Fr n0 L
set_option maxRecDepth 65536 in
set_option maxHeartbeats 40000000 in
theorem rm_law (l : Launch) (Z : State) (a0 : Array Value) (hw : ∀ d ∈ tables_1, d.before a0 Z = true) (ws : List Jvm.Cond) (p1 p2 cs : Int32) (wv : Value) (h0 : Heap) (n0 : Nat) (Z0 : n0 ≤ h0.size) (SC : Sta Z h0 "java/lang/String" "COMPACT_STRINGS" "Z" (.int cs)) (hcs : ¬ cs = (0 : Int32)) (SF : Sta Z h0 "jdk/internal/util/Preconditions" "SIOOBE_FORMATTER" "Ljava/util/function/BiFunction;" wv) (hwv : wv.isRef = true) :
    MetFree l x (head1 (Jvm.Cond.code x code maxLocals ret :: ws) room_1) (fun a_ U => a_ = #[(.int p1), (.int p2)] ∧ Z.Warmed39 U.vm ∧ U.heap = h0 ∧ CHv Z own_EL U.vm h0) (fun _ _ _ _ _ => True) (fun _ U o U' => ∃ v L, o = .returned v ∧ Q_law Z p1 p2 cs wv h0 n0 v U'.heap L ∧ ReturnedEndW U o U' L room_1.cells room_1.slots) := by
  refine MetFree.of_bodySF (plainFor_of_name pn_com_example_railhead_railhead_io_HexTextDigitValuePinLaw) hisR ?_
  intro p e s m args below meth c s₁ Bd hml0 hP hK
  obtain ⟨rfl, hZ, hh, HC⟩ := hP
  have hx := Bd.exec
  have hby := Bd.bytes
  have hml : c.maxLocals = 7 := hml0
  have hown : s.vm.findClass "com/example/railhead/railhead/io/HexTextDigitValuePinLaw" = some m.cls := findClass_of_methodNamed Bd.named
  have hnm := (name_of_methodNamed Bd.named Bd.method).1
  have X0 : Stand p l e room_1 s m #[(.int p1), (.int p2)] below meth c s₁ [] 0 0 := Stand.of_body Bd
  have e0 : s₁.heap = h0 := by rw [← hh, Bd.state]; rfl
  have N0 := Fr.nil n0
  have hlk := Bd.notSynchronized
  have hret := Bd.returns
  show OGo p e below (OEndW s (Q_law Z p1 p2 cs wv h0 n0) room_1.cells room_1.slots) (s₁.setTop (entryFrame m #[(.int p1), (.int p2)] maxLocals))
  rw [ef_law]
  show OGo p e below _ (s₁.setTop (mkF m 0 #[.val (.int p1), .val (.int p2), .unset, .unset, .unset, .unset, .unset] []))
  have X0 : Stand p l e room_1 (s.setVm s.vm) m #[(.int p1), (.int p2)] below meth c s₁ [] 0 0 := X0
  have hZ : Z.Warmed39 (s.setVm s.vm).vm := hZ
  have hown : (s.setVm s.vm).vm.findClass "com/example/railhead/railhead/io/HexTextDigitValuePinLaw" = some m.cls := hown
  have hS : s.Since s.vm s.heap.size := (State.WarmedH.refl s).since _
  have hk : s.heap.size ≤ h0.size := by rw [hh]; exact Nat.le_refl _
  have HR := CHr.refl HC
  refine OGo.by_ (fun t k => XS.iloadN X0.here hx rfl (hb hby at_0) rfl k) ?_
  show OGo p e below _ (s₁.setTop (mkF m 1 #[.val (.int p1), .val (.int p2), .unset, .unset, .unset, .unset, .unset] [(.int p1)]))
  refine OGo.by_ (fun t k => XS.i2c X0.here hx rfl (hb hby at_1) rfl k) ?_
  show OGo p e below _ (s₁.setTop (mkF m 2 #[.val (.int p1), .val (.int p2), .unset, .unset, .unset, .unset, .unset] [(.int (p1.toUInt32.toUInt16.toUInt32.toInt32))]))
  refine OGo.by_ (fun t k => XS.istoreN X0.here hx rfl (hb hby at_2) rfl (l' := #[.val (.int p1), .val (.int p2), .val (.int (p1.toUInt32.toUInt16.toUInt32.toInt32)), .unset, .unset, .unset, .unset]) rfl k) ?_
  show OGo p e below _ (s₁.setTop (mkF m 3 #[.val (.int p1), .val (.int p2), .val (.int (p1.toUInt32.toUInt16.toUInt32.toInt32)), .unset, .unset, .unset, .unset] []))
  refine OGo.by_ (fun t k => XS.iloadN X0.here hx rfl (hb hby at_3) rfl k) ?_
  show OGo p e below _ (s₁.setTop (mkF m 4 #[.val (.int p1), .val (.int p2), .val (.int (p1.toUInt32.toUInt16.toUInt32.toInt32)), .unset, .unset, .unset, .unset] [(.int (p1.toUInt32.toUInt16.toUInt32.toInt32))]))
  obtain ⟨ch, hch⟩ : ∃ q, q = (p1.toUInt32.toUInt16.toUInt32.toInt32) := ⟨_, rfl⟩
  rw [← hch]
  show OGo p e below _ (s₁.setTop (mkF m 4 #[.val (.int p1), .val (.int p2), .val (.int ch), .unset, .unset, .unset, .unset] [(.int ch)]))
  obtain ⟨_, _, ⟨T1, L1, k1, n1⟩, -, X1, ⟨Lc1, hQ1, l1, y1, z1⟩, st1⟩ := Jvm.LawKit.callS X0 hx (y := (⟨"com/example/railhead/railhead/io/HexText", "digitValue", "(C)I"⟩ : MethodName)) hown (mvT hZ (hw _ (List.mem_of_getElem? (i := 0) rfl))) (mvT hZ (hw _ (List.mem_of_getElem? (i := 1) rfl))) (mvT hZ (hw _ (List.mem_of_getElem? (i := 2) rfl))) (mvT hZ (hw _ (List.mem_of_getElem? (i := 3) rfl))) (by decide) (backOf (W := 0) (rm_dv l Z a0 hw [] ch h0 n0 Z0) hZ (hw _ (List.mem_of_getElem? (i := 3) rfl)) (hw _ (List.mem_of_getElem? (i := 2) rfl)) (by decide) (by decide)) (g := (mkF m 4 #[.val (.int p1), .val (.int p2), .val (.int ch), .unset, .unset, .unset, .unset] [(.int ch)])) rfl (by rw [hml]; rfl) (argsL := [(.int ch)]) (rest := []) (lenOf pd_oCcI rfl) rfl (by show 2 * 0 + _ ≤ _; exact Nat.le_of_eq rfl) (hb hby at_4) (fun _ _ => ⟨rfl, e0, (by decide : 0 + 0 ≤ _), (by decide : 0 + 0 ≤ _)⟩)
  dsimp only [Pt.U, Pt.locs, Pt.cells, Pt.slots] at X1 l1 y1 z1 st1 hQ1
  subst l1 y1 z1
  obtain ⟨rfl, Nq1, eq1⟩ := hQ1
  have N1 := Fr.app N0 Nq1
  refine OGo.by_ st1 ?_
  show OGo p e below _ (T1.setTop (mkF m 7 #[.val (.int p1), .val (.int p2), .val (.int ch), .unset, .unset, .unset, .unset] [(.int (own_dv ch))]))
  obtain ⟨r, hr⟩ : ∃ q, q = own_dv ch := ⟨_, rfl⟩
  rw [← hr]
  have hm1 : ¬ r < (-1 : Int32) := by rw [hr]; exact own_L1 ch
  have h15r : ¬ (15 : Int32) < r := by rw [hr]; exact own_L2 ch
  show OGo p e below _ (T1.setTop (mkF m 7 #[.val (.int p1), .val (.int p2), .val (.int ch), .unset, .unset, .unset, .unset] [(.int r)]))
  refine OGo.by_ (fun t k => XS.istoreN X1.here hx rfl (hb hby at_7) rfl (l' := #[.val (.int p1), .val (.int p2), .val (.int ch), .val (.int r), .unset, .unset, .unset]) rfl k) ?_
  show OGo p e below _ (T1.setTop (mkF m 8 #[.val (.int p1), .val (.int p2), .val (.int ch), .val (.int r), .unset, .unset, .unset] []))
  refine OGo.by_ (fun t k => XS.iloadN X1.here hx rfl (hb hby at_8) rfl k) ?_
  show OGo p e below _ (T1.setTop (mkF m 9 #[.val (.int p1), .val (.int p2), .val (.int ch), .val (.int r), .unset, .unset, .unset] [(.int r)]))
  refine OGo.by_ (fun t k => XS.iconst X1.here hx rfl (hb hby at_9) k) ?_
  show OGo p e below _ (T1.setTop (mkF m 10 #[.val (.int p1), .val (.int p2), .val (.int ch), .val (.int r), .unset, .unset, .unset] [(.int (-1 : Int32)), (.int r)]))
  refine OGo.by_ (fun t k => XS.icmpNo X1.here hx rfl (hb hby at_10) rfl (flt hm1).1 k) ?_
  show OGo p e below _ (T1.setTop (mkF m 13 #[.val (.int p1), .val (.int p2), .val (.int ch), .val (.int r), .unset, .unset, .unset] []))
  refine OGo.by_ (fun t k => XS.iloadN X1.here hx rfl (hb hby at_13) rfl k) ?_
  show OGo p e below _ (T1.setTop (mkF m 14 #[.val (.int p1), .val (.int p2), .val (.int ch), .val (.int r), .unset, .unset, .unset] [(.int r)]))
  refine OGo.by_ (fun t k => XS.bipush X1.here hx rfl (hb hby at_14) k) ?_
  show OGo p e below _ (T1.setTop (mkF m 16 #[.val (.int p1), .val (.int p2), .val (.int ch), .val (.int r), .unset, .unset, .unset] [(.int (15 : Int32)), (.int r)]))
  refine OGo.by_ (fun t k => XS.icmpYes X1.here hx rfl (pc0 := 16) (pc' := 21) rfl (hb hby at_16) rfl (flt h15r).2.2.2 (by decide) (by decide) k) ?_
  show OGo p e below _ (T1.setTop (mkF m 21 #[.val (.int p1), .val (.int p2), .val (.int ch), .val (.int r), .unset, .unset, .unset] []))
  refine OGo.by_ (fun t k => XS.iloadN X1.here hx rfl (hb hby at_21) rfl k) ?_
  show OGo p e below _ (T1.setTop (mkF m 22 #[.val (.int p1), .val (.int p2), .val (.int ch), .val (.int r), .unset, .unset, .unset] [(.int r)]))
  by_cases h0r : r < (0 : Int32)
  · refine OGo.by_ (fun t k => XS.ifYes X1.here hx rfl (pc0 := 22) (pc' := 55) rfl (hb hby at_22) rfl ((if0 _ _).trans (tlt h0r).1) (by decide) (by decide) k) ?_
    show OGo p e below _ (T1.setTop (mkF m 55 #[.val (.int p1), .val (.int p2), .val (.int ch), .val (.int r), .unset, .unset, .unset] []))
    refine OGo.by_ (fun t k => XS.iloadN X1.here hx rfl (hb hby at_55) rfl k) ?_
    show OGo p e below _ (T1.setTop (mkF m 56 #[.val (.int p1), .val (.int p2), .val (.int ch), .val (.int r), .unset, .unset, .unset] [(.int p2)]))
    refine OGo.by_ (fun t k => XS.bipush X1.here hx rfl (hb hby at_56) k) ?_
    show OGo p e below _ (T1.setTop (mkF m 58 #[.val (.int p1), .val (.int p2), .val (.int ch), .val (.int r), .unset, .unset, .unset] [(.int (15 : Int32)), (.int p2)]))
    refine OGo.by_ (fun t k => XS.iand X1.here hx rfl (hb hby at_58) rfl k) ?_
    show OGo p e below _ (T1.setTop (mkF m 59 #[.val (.int p1), .val (.int p2), .val (.int ch), .val (.int r), .unset, .unset, .unset] [(.int (p2 &&& (15 : Int32)))]))
    refine OGo.by_ (fun t k => XS.istore X1.here hx rfl (hb hby at_59) rfl (l' := #[.val (.int p1), .val (.int p2), .val (.int ch), .val (.int r), .val (.int (p2 &&& (15 : Int32))), .unset, .unset]) rfl k) ?_
    show OGo p e below _ (T1.setTop (mkF m 61 #[.val (.int p1), .val (.int p2), .val (.int ch), .val (.int r), .val (.int (p2 &&& (15 : Int32))), .unset, .unset] []))
    obtain ⟨sa1, T2, h2, kx2, sb1, kb_sb1, X2, e2, E2, hS, hk, hZ, hown, Ex_sa1, Fc_sa1, Fv_sa1, V_sb1, la_sa1, lb_sb1, HR2, hL2, hne2, st2⟩ := ldcCH X1 hx hZ hown (hw _ (List.mem_of_getElem? (i := 4) rfl)) (own_strA hw) eq1 hS hk (own_ew hw) (List.mem_of_getElem? (i := 0) rfl) HR.1 (vs := own_LOW) (z := (16 : Int32)) ⟨by decide, rfl⟩ (by decide) (by decide) (g := (mkF m 61 #[.val (.int p1), .val (.int p2), .val (.int ch), .val (.int r), .val (.int (p2 &&& (15 : Int32))), .unset, .unset] [])) rfl (hb hby at_61) (n := 64) (by decide) (by decide) (by decide) (by decide)
    have HR := HR.trans HR2
    refine OGo.by_ st2 ?_
    show OGo p e below _ (T2.setTop (mkF m 63 #[.val (.int p1), .val (.int p2), .val (.int ch), .val (.int r), .val (.int (p2 &&& (15 : Int32))), .unset, .unset] [(.ref sa1)]))
    have SC1 := Sta.ext E2 SC
    have SF1 := Sta.ext E2 SF
    have Z_1 := Nat.le_trans Z0 E2.1
    refine OGo.by_ (fun t k => XS.iload X2.here hx rfl (hb hby at_63) rfl k) ?_
    show OGo p e below _ (T2.setTop (mkF m 65 #[.val (.int p1), .val (.int p2), .val (.int ch), .val (.int r), .val (.int (p2 &&& (15 : Int32))), .unset, .unset] [(.int (p2 &&& (15 : Int32))), (.ref sa1)]))
    obtain ⟨cq4, kq4, qa4, qb4, qc4⟩ := isOf hZ e2 Ex_sa1
    obtain ⟨_, _, ⟨T3, L3, k3, n3⟩, -, X3, ⟨Lc3, hQ3, l3, y3, z3⟩, st3⟩ := X2.virtualBack hx (y := (⟨"java/lang/String", "charAt", "(I)C"⟩ : MethodName)) (z := (⟨"java/lang/String", "charAt", "(I)C"⟩ : MethodName)) hown (mvT hZ (hw _ (List.mem_of_getElem? (i := 12) rfl))) (mvT hZ (hw _ (List.mem_of_getElem? (i := 13) rfl))) (notFace_of_selects (args := #[]) (mvT hZ (hw _ (List.mem_of_getElem? (i := 15) rfl)))) (mvT hZ (hw _ (List.mem_of_getElem? (i := 15) rfl))) (mvT hZ (hw _ (List.mem_of_getElem? (i := 14) rfl))) (by decide) (backOf (W := 0) (rm_cat l Z a0 hw [] sa1 cs sb1 kb_sb1 (p2 &&& (15 : Int32)) (16 : Int32) (own_low (p2 &&& (15 : Int32))) (own_low (p2 &&& (15 : Int32))) own_LOW wv h2 n0 Z_1 SC1 hcs Ex_sa1 Fc_sa1 Fv_sa1 SF1 hwv V_sb1 (own_v15 p2).1 (own_chars (own_v15 p2).1 (own_v15 p2).2).2.2 (own_chars (own_v15 p2).1 (own_v15 p2).2).1.1 (own_chars (own_v15 p2).1 (own_v15 p2).2).1.2.1) hZ (hw _ (List.mem_of_getElem? (i := 16) rfl)) (hw _ (List.mem_of_getElem? (i := 5) rfl)) (by decide) (by decide)) qa4 qc4 (g := (mkF m 65 #[.val (.int p1), .val (.int p2), .val (.int ch), .val (.int r), .val (.int (p2 &&& (15 : Int32))), .unset, .unset] [(.int (p2 &&& (15 : Int32))), (.ref sa1)])) rfl (by rw [hml]; rfl) (Steps.refl _) (argsL := [(.int (p2 &&& (15 : Int32)))]) (rest := []) (lenOf pd_oIcC rfl) rfl (by show 2 * 0 + _ ≤ _; exact Nat.le_of_eq rfl) (hb hby at_65) (fun _ _ => ⟨rfl, e2, (by decide : 2 + 0 ≤ _), (by decide : 68 + 0 ≤ _)⟩)
    dsimp only [Pt.U, Pt.locs, Pt.cells, Pt.slots] at X3 l3 y3 z3 st3 hQ3
    subst l3 y3 z3
    obtain ⟨rfl, Nq3, eq3⟩ := hQ3
    have N3 := Fr.app N1 Nq3
    refine OGo.by_ (fun t k => st3.trans k) ?_
    show OGo p e below _ (T3.setTop (mkF m 68 #[.val (.int p1), .val (.int p2), .val (.int ch), .val (.int r), .val (.int (p2 &&& (15 : Int32))), .unset, .unset] [(.int (own_low (p2 &&& (15 : Int32))))]))
    refine OGo.by_ (fun t k => XS.istore X3.here hx rfl (hb hby at_68) rfl (l' := #[.val (.int p1), .val (.int p2), .val (.int ch), .val (.int r), .val (.int (p2 &&& (15 : Int32))), .val (.int (own_low (p2 &&& (15 : Int32)))), .unset]) rfl k) ?_
    show OGo p e below _ (T3.setTop (mkF m 70 #[.val (.int p1), .val (.int p2), .val (.int ch), .val (.int r), .val (.int (p2 &&& (15 : Int32))), .val (.int (own_low (p2 &&& (15 : Int32)))), .unset] []))
    obtain ⟨sa2, T5, h5, kx5, sb2, kb_sb2, X5, e5, E5, hS, hk, hZ, hown, Ex_sa2, Fc_sa2, Fv_sa2, V_sb2, la_sa2, lb_sb2, HR5, hL5, hne5, st5⟩ := ldcCH X3 hx hZ hown (hw _ (List.mem_of_getElem? (i := 37) rfl)) (own_strA hw) eq3 hS hk (own_ew hw) (List.mem_of_getElem? (i := 1) rfl) HR.1 (vs := own_UP) (z := (16 : Int32)) ⟨by decide, rfl⟩ (by decide) (by decide) (g := (mkF m 70 #[.val (.int p1), .val (.int p2), .val (.int ch), .val (.int r), .val (.int (p2 &&& (15 : Int32))), .val (.int (own_low (p2 &&& (15 : Int32)))), .unset] [])) rfl (hb hby at_70) (n := 64) (by decide) (by decide) (by decide) (by decide)
    have HR := HR.trans HR5
    refine OGo.by_ st5 ?_
    show OGo p e below _ (T5.setTop (mkF m 72 #[.val (.int p1), .val (.int p2), .val (.int ch), .val (.int r), .val (.int (p2 &&& (15 : Int32))), .val (.int (own_low (p2 &&& (15 : Int32)))), .unset] [(.ref sa2)]))
    have SC2 := Sta.ext E5 SC1
    have SF2 := Sta.ext E5 SF1
    have Z_2 := Nat.le_trans Z_1 E5.1
    refine OGo.by_ (fun t k => XS.iload X5.here hx rfl (hb hby at_72) rfl k) ?_
    show OGo p e below _ (T5.setTop (mkF m 74 #[.val (.int p1), .val (.int p2), .val (.int ch), .val (.int r), .val (.int (p2 &&& (15 : Int32))), .val (.int (own_low (p2 &&& (15 : Int32)))), .unset] [(.int (p2 &&& (15 : Int32))), (.ref sa2)]))
    obtain ⟨cq7, kq7, qa7, qb7, qc7⟩ := isOf hZ e5 Ex_sa2
    obtain ⟨_, _, ⟨T6, L6, k6, n6⟩, -, X6, ⟨Lc6, hQ6, l6, y6, z6⟩, st6⟩ := X5.virtualBack hx (y := (⟨"java/lang/String", "charAt", "(I)C"⟩ : MethodName)) (z := (⟨"java/lang/String", "charAt", "(I)C"⟩ : MethodName)) hown (mvT hZ (hw _ (List.mem_of_getElem? (i := 12) rfl))) (mvT hZ (hw _ (List.mem_of_getElem? (i := 13) rfl))) (notFace_of_selects (args := #[]) (mvT hZ (hw _ (List.mem_of_getElem? (i := 15) rfl)))) (mvT hZ (hw _ (List.mem_of_getElem? (i := 15) rfl))) (mvT hZ (hw _ (List.mem_of_getElem? (i := 14) rfl))) (by decide) (backOf (W := 0) (rm_cat l Z a0 hw [] sa2 cs sb2 kb_sb2 (p2 &&& (15 : Int32)) (16 : Int32) (own_up (p2 &&& (15 : Int32))) (own_up (p2 &&& (15 : Int32))) own_UP wv h5 n0 Z_2 SC2 hcs Ex_sa2 Fc_sa2 Fv_sa2 SF2 hwv V_sb2 (own_v15 p2).1 (own_chars (own_v15 p2).1 (own_v15 p2).2).2.2 (own_chars (own_v15 p2).1 (own_v15 p2).2).2.1.1 (own_chars (own_v15 p2).1 (own_v15 p2).2).2.1.2.1) hZ (hw _ (List.mem_of_getElem? (i := 16) rfl)) (hw _ (List.mem_of_getElem? (i := 5) rfl)) (by decide) (by decide)) qa7 qc7 (g := (mkF m 74 #[.val (.int p1), .val (.int p2), .val (.int ch), .val (.int r), .val (.int (p2 &&& (15 : Int32))), .val (.int (own_low (p2 &&& (15 : Int32)))), .unset] [(.int (p2 &&& (15 : Int32))), (.ref sa2)])) rfl (by rw [hml]; rfl) (Steps.refl _) (argsL := [(.int (p2 &&& (15 : Int32)))]) (rest := []) (lenOf pd_oIcC rfl) rfl (by show 2 * 0 + _ ≤ _; exact Nat.le_of_eq rfl) (hb hby at_74) (fun _ _ => ⟨rfl, e5, (by decide : 4 + 0 ≤ _), (by decide : 136 + 0 ≤ _)⟩)
    dsimp only [Pt.U, Pt.locs, Pt.cells, Pt.slots] at X6 l6 y6 z6 st6 hQ6
    subst l6 y6 z6
    obtain ⟨rfl, Nq6, eq6⟩ := hQ6
    have N6 := Fr.app N3 Nq6
    refine OGo.by_ (fun t k => st6.trans k) ?_
    show OGo p e below _ (T6.setTop (mkF m 77 #[.val (.int p1), .val (.int p2), .val (.int ch), .val (.int r), .val (.int (p2 &&& (15 : Int32))), .val (.int (own_low (p2 &&& (15 : Int32)))), .unset] [(.int (own_up (p2 &&& (15 : Int32))))]))
    refine OGo.by_ (fun t k => XS.istore X6.here hx rfl (hb hby at_77) rfl (l' := #[.val (.int p1), .val (.int p2), .val (.int ch), .val (.int r), .val (.int (p2 &&& (15 : Int32))), .val (.int (own_low (p2 &&& (15 : Int32)))), .val (.int (own_up (p2 &&& (15 : Int32))))]) rfl k) ?_
    show OGo p e below _ (T6.setTop (mkF m 79 #[.val (.int p1), .val (.int p2), .val (.int ch), .val (.int r), .val (.int (p2 &&& (15 : Int32))), .val (.int (own_low (p2 &&& (15 : Int32)))), .val (.int (own_up (p2 &&& (15 : Int32))))] []))
    refine OGo.by_ (fun t k => XS.iload X6.here hx rfl (hb hby at_79) rfl k) ?_
    show OGo p e below _ (T6.setTop (mkF m 81 #[.val (.int p1), .val (.int p2), .val (.int ch), .val (.int r), .val (.int (p2 &&& (15 : Int32))), .val (.int (own_low (p2 &&& (15 : Int32)))), .val (.int (own_up (p2 &&& (15 : Int32))))] [(.int (own_low (p2 &&& (15 : Int32))))]))
    obtain ⟨_, _, ⟨T8, L8, k8, n8⟩, -, X8, ⟨Lc8, hQ8, l8, y8, z8⟩, st8⟩ := Jvm.LawKit.callS X6 hx (y := (⟨"com/example/railhead/railhead/io/HexText", "digitValue", "(C)I"⟩ : MethodName)) hown (mvT hZ (hw _ (List.mem_of_getElem? (i := 0) rfl))) (mvT hZ (hw _ (List.mem_of_getElem? (i := 1) rfl))) (mvT hZ (hw _ (List.mem_of_getElem? (i := 2) rfl))) (mvT hZ (hw _ (List.mem_of_getElem? (i := 3) rfl))) (by decide) (backOf (W := 0) (rm_dv l Z a0 hw [] (own_low (p2 &&& (15 : Int32))) h5 n0 Z_2) hZ (hw _ (List.mem_of_getElem? (i := 3) rfl)) (hw _ (List.mem_of_getElem? (i := 2) rfl)) (by decide) (by decide)) (g := (mkF m 81 #[.val (.int p1), .val (.int p2), .val (.int ch), .val (.int r), .val (.int (p2 &&& (15 : Int32))), .val (.int (own_low (p2 &&& (15 : Int32)))), .val (.int (own_up (p2 &&& (15 : Int32))))] [(.int (own_low (p2 &&& (15 : Int32))))])) rfl (by rw [hml]; rfl) (argsL := [(.int (own_low (p2 &&& (15 : Int32))))]) (rest := []) (lenOf pd_oCcI rfl) rfl (by show 2 * 0 + _ ≤ _; exact Nat.le_of_eq rfl) (hb hby at_81) (fun _ _ => ⟨rfl, eq6, (by decide : 4 + 0 ≤ _), (by decide : 136 + 0 ≤ _)⟩)
    dsimp only [Pt.U, Pt.locs, Pt.cells, Pt.slots] at X8 l8 y8 z8 st8 hQ8
    subst l8 y8 z8
    obtain ⟨rfl, Nq8, eq8⟩ := hQ8
    have N8 := Fr.app N6 Nq8
    refine OGo.by_ st8 ?_
    show OGo p e below _ (T8.setTop (mkF m 84 #[.val (.int p1), .val (.int p2), .val (.int ch), .val (.int r), .val (.int (p2 &&& (15 : Int32))), .val (.int (own_low (p2 &&& (15 : Int32)))), .val (.int (own_up (p2 &&& (15 : Int32))))] [(.int (own_dv (own_low (p2 &&& (15 : Int32)))))]))
    refine OGo.by_ (fun t k => XS.iload X8.here hx rfl (hb hby at_84) rfl k) ?_
    show OGo p e below _ (T8.setTop (mkF m 86 #[.val (.int p1), .val (.int p2), .val (.int ch), .val (.int r), .val (.int (p2 &&& (15 : Int32))), .val (.int (own_low (p2 &&& (15 : Int32)))), .val (.int (own_up (p2 &&& (15 : Int32))))] [(.int (p2 &&& (15 : Int32))), (.int (own_dv (own_low (p2 &&& (15 : Int32)))))]))
    refine OGo.by_ (fun t k => XS.icmpNo X8.here hx rfl (hb hby at_86) rfl (teq ((own_chars (own_v15 p2).1 (own_v15 p2).2).1.2.2)).2 k) ?_
    show OGo p e below _ (T8.setTop (mkF m 89 #[.val (.int p1), .val (.int p2), .val (.int ch), .val (.int r), .val (.int (p2 &&& (15 : Int32))), .val (.int (own_low (p2 &&& (15 : Int32)))), .val (.int (own_up (p2 &&& (15 : Int32))))] []))
    refine OGo.by_ (fun t k => XS.iload X8.here hx rfl (hb hby at_89) rfl k) ?_
    show OGo p e below _ (T8.setTop (mkF m 91 #[.val (.int p1), .val (.int p2), .val (.int ch), .val (.int r), .val (.int (p2 &&& (15 : Int32))), .val (.int (own_low (p2 &&& (15 : Int32)))), .val (.int (own_up (p2 &&& (15 : Int32))))] [(.int (own_up (p2 &&& (15 : Int32))))]))
    obtain ⟨_, _, ⟨T9, L9, k9, n9⟩, -, X9, ⟨Lc9, hQ9, l9, y9, z9⟩, st9⟩ := Jvm.LawKit.callS X8 hx (y := (⟨"com/example/railhead/railhead/io/HexText", "digitValue", "(C)I"⟩ : MethodName)) hown (mvT hZ (hw _ (List.mem_of_getElem? (i := 0) rfl))) (mvT hZ (hw _ (List.mem_of_getElem? (i := 1) rfl))) (mvT hZ (hw _ (List.mem_of_getElem? (i := 2) rfl))) (mvT hZ (hw _ (List.mem_of_getElem? (i := 3) rfl))) (by decide) (backOf (W := 0) (rm_dv l Z a0 hw [] (own_up (p2 &&& (15 : Int32))) h5 n0 Z_2) hZ (hw _ (List.mem_of_getElem? (i := 3) rfl)) (hw _ (List.mem_of_getElem? (i := 2) rfl)) (by decide) (by decide)) (g := (mkF m 91 #[.val (.int p1), .val (.int p2), .val (.int ch), .val (.int r), .val (.int (p2 &&& (15 : Int32))), .val (.int (own_low (p2 &&& (15 : Int32)))), .val (.int (own_up (p2 &&& (15 : Int32))))] [(.int (own_up (p2 &&& (15 : Int32))))])) rfl (by rw [hml]; rfl) (argsL := [(.int (own_up (p2 &&& (15 : Int32))))]) (rest := []) (lenOf pd_oCcI rfl) rfl (by show 2 * 0 + _ ≤ _; exact Nat.le_of_eq rfl) (hb hby at_91) (fun _ _ => ⟨rfl, eq8, (by decide : 4 + 0 ≤ _), (by decide : 136 + 0 ≤ _)⟩)
    dsimp only [Pt.U, Pt.locs, Pt.cells, Pt.slots] at X9 l9 y9 z9 st9 hQ9
    subst l9 y9 z9
    obtain ⟨rfl, Nq9, eq9⟩ := hQ9
    have N9 := Fr.app N8 Nq9
    refine OGo.by_ st9 ?_
    show OGo p e below _ (T9.setTop (mkF m 94 #[.val (.int p1), .val (.int p2), .val (.int ch), .val (.int r), .val (.int (p2 &&& (15 : Int32))), .val (.int (own_low (p2 &&& (15 : Int32)))), .val (.int (own_up (p2 &&& (15 : Int32))))] [(.int (own_dv (own_up (p2 &&& (15 : Int32)))))]))
    refine OGo.by_ (fun t k => XS.iload X9.here hx rfl (hb hby at_94) rfl k) ?_
    show OGo p e below _ (T9.setTop (mkF m 96 #[.val (.int p1), .val (.int p2), .val (.int ch), .val (.int r), .val (.int (p2 &&& (15 : Int32))), .val (.int (own_low (p2 &&& (15 : Int32)))), .val (.int (own_up (p2 &&& (15 : Int32))))] [(.int (p2 &&& (15 : Int32))), (.int (own_dv (own_up (p2 &&& (15 : Int32)))))]))
    refine OGo.by_ (fun t k => XS.icmpNo X9.here hx rfl (hb hby at_96) rfl (teq ((own_chars (own_v15 p2).1 (own_v15 p2).2).2.1.2.2)).2 k) ?_
    show OGo p e below _ (T9.setTop (mkF m 99 #[.val (.int p1), .val (.int p2), .val (.int ch), .val (.int r), .val (.int (p2 &&& (15 : Int32))), .val (.int (own_low (p2 &&& (15 : Int32)))), .val (.int (own_up (p2 &&& (15 : Int32))))] []))
    refine OGo.by_ (fun t k => XS.iconst X9.here hx rfl (hb hby at_99) k) ?_
    show OGo p e below _ (T9.setTop (mkF m 100 #[.val (.int p1), .val (.int p2), .val (.int ch), .val (.int r), .val (.int (p2 &&& (15 : Int32))), .val (.int (own_low (p2 &&& (15 : Int32)))), .val (.int (own_up (p2 &&& (15 : Int32))))] [(.int (1 : Int32))]))
    refine OGo.by_ (fun t k => XS.goto X9.here hx rfl (pc0 := 100) (pc' := 104) rfl (hb hby at_100) (by decide) (by decide) k) ?_
    show OGo p e below _ (T9.setTop (mkF m 104 #[.val (.int p1), .val (.int p2), .val (.int ch), .val (.int r), .val (.int (p2 &&& (15 : Int32))), .val (.int (own_low (p2 &&& (15 : Int32)))), .val (.int (own_up (p2 &&& (15 : Int32))))] [(.int (1 : Int32))]))
    exact own_wretN X9 hS (show _ ≤ T9.heap.size by rw [eq9]; exact hk) hx hlk (t := .boolean) hret (by simp) (hb hby at_104) (by decide) (by decide) (⟨rfl, N9⟩)
  · refine OGo.by_ (fun t k => XS.ifNo X1.here hx rfl (hb hby at_22) rfl ((if0 _ _).trans (flt h0r).1) k) ?_
    show OGo p e below _ (T1.setTop (mkF m 25 #[.val (.int p1), .val (.int p2), .val (.int ch), .val (.int r), .unset, .unset, .unset] []))
    obtain ⟨sa3, T10, h10, kx10, sb3, kb_sb3, X10, e10, E10, hS, hk, hZ, hown, Ex_sa3, Fc_sa3, Fv_sa3, V_sb3, la_sa3, lb_sb3, HR10, hL10, hne10, st10⟩ := ldcCH X1 hx hZ hown (hw _ (List.mem_of_getElem? (i := 4) rfl)) (own_strA hw) eq1 hS hk (own_ew hw) (List.mem_of_getElem? (i := 0) rfl) HR.1 (vs := own_LOW) (z := (16 : Int32)) ⟨by decide, rfl⟩ (by decide) (by decide) (g := (mkF m 25 #[.val (.int p1), .val (.int p2), .val (.int ch), .val (.int r), .unset, .unset, .unset] [])) rfl (hb hby at_25) (n := 64) (by decide) (by decide) (by decide) (by decide)
    have HR := HR.trans HR10
    refine OGo.by_ st10 ?_
    show OGo p e below _ (T10.setTop (mkF m 27 #[.val (.int p1), .val (.int p2), .val (.int ch), .val (.int r), .unset, .unset, .unset] [(.ref sa3)]))
    have SC3 := Sta.ext E10 SC
    have SF3 := Sta.ext E10 SF
    have Z_3 := Nat.le_trans Z0 E10.1
    refine OGo.by_ (fun t k => XS.iloadN X10.here hx rfl (hb hby at_27) rfl k) ?_
    show OGo p e below _ (T10.setTop (mkF m 28 #[.val (.int p1), .val (.int p2), .val (.int ch), .val (.int r), .unset, .unset, .unset] [(.int r), (.ref sa3)]))
    obtain ⟨cq12, kq12, qa12, qb12, qc12⟩ := isOf hZ e10 Ex_sa3
    obtain ⟨_, _, ⟨T11, L11, k11, n11⟩, -, X11, ⟨Lc11, hQ11, l11, y11, z11⟩, st11⟩ := X10.virtualBack hx (y := (⟨"java/lang/String", "charAt", "(I)C"⟩ : MethodName)) (z := (⟨"java/lang/String", "charAt", "(I)C"⟩ : MethodName)) hown (mvT hZ (hw _ (List.mem_of_getElem? (i := 12) rfl))) (mvT hZ (hw _ (List.mem_of_getElem? (i := 13) rfl))) (notFace_of_selects (args := #[]) (mvT hZ (hw _ (List.mem_of_getElem? (i := 15) rfl)))) (mvT hZ (hw _ (List.mem_of_getElem? (i := 15) rfl))) (mvT hZ (hw _ (List.mem_of_getElem? (i := 14) rfl))) (by decide) (backOf (W := 0) (rm_cat l Z a0 hw [] sa3 cs sb3 kb_sb3 r (16 : Int32) (own_low r) (own_low r) own_LOW wv h10 n0 Z_3 SC3 hcs Ex_sa3 Fc_sa3 Fv_sa3 SF3 hwv V_sb3 h0r (own_chars h0r h15r).2.2 (own_chars h0r h15r).1.1 (own_chars h0r h15r).1.2.1) hZ (hw _ (List.mem_of_getElem? (i := 16) rfl)) (hw _ (List.mem_of_getElem? (i := 5) rfl)) (by decide) (by decide)) qa12 qc12 (g := (mkF m 28 #[.val (.int p1), .val (.int p2), .val (.int ch), .val (.int r), .unset, .unset, .unset] [(.int r), (.ref sa3)])) rfl (by rw [hml]; rfl) (Steps.refl _) (argsL := [(.int r)]) (rest := []) (lenOf pd_oIcC rfl) rfl (by show 2 * 0 + _ ≤ _; exact Nat.le_of_eq rfl) (hb hby at_28) (fun _ _ => ⟨rfl, e10, (by decide : 2 + 0 ≤ _), (by decide : 68 + 0 ≤ _)⟩)
    dsimp only [Pt.U, Pt.locs, Pt.cells, Pt.slots] at X11 l11 y11 z11 st11 hQ11
    subst l11 y11 z11
    obtain ⟨rfl, Nq11, eq11⟩ := hQ11
    have N11 := Fr.app N1 Nq11
    refine OGo.by_ (fun t k => st11.trans k) ?_
    show OGo p e below _ (T11.setTop (mkF m 31 #[.val (.int p1), .val (.int p2), .val (.int ch), .val (.int r), .unset, .unset, .unset] [(.int (own_low r))]))
    refine OGo.by_ (fun t k => XS.istore X11.here hx rfl (hb hby at_31) rfl (l' := #[.val (.int p1), .val (.int p2), .val (.int ch), .val (.int r), .val (.int (own_low r)), .unset, .unset]) rfl k) ?_
    show OGo p e below _ (T11.setTop (mkF m 33 #[.val (.int p1), .val (.int p2), .val (.int ch), .val (.int r), .val (.int (own_low r)), .unset, .unset] []))
    obtain ⟨sa4, T13, h13, kx13, sb4, kb_sb4, X13, e13, E13, hS, hk, hZ, hown, Ex_sa4, Fc_sa4, Fv_sa4, V_sb4, la_sa4, lb_sb4, HR13, hL13, hne13, st13⟩ := ldcCH X11 hx hZ hown (hw _ (List.mem_of_getElem? (i := 37) rfl)) (own_strA hw) eq11 hS hk (own_ew hw) (List.mem_of_getElem? (i := 1) rfl) HR.1 (vs := own_UP) (z := (16 : Int32)) ⟨by decide, rfl⟩ (by decide) (by decide) (g := (mkF m 33 #[.val (.int p1), .val (.int p2), .val (.int ch), .val (.int r), .val (.int (own_low r)), .unset, .unset] [])) rfl (hb hby at_33) (n := 64) (by decide) (by decide) (by decide) (by decide)
    have HR := HR.trans HR13
    refine OGo.by_ st13 ?_
    show OGo p e below _ (T13.setTop (mkF m 35 #[.val (.int p1), .val (.int p2), .val (.int ch), .val (.int r), .val (.int (own_low r)), .unset, .unset] [(.ref sa4)]))
    have SC4 := Sta.ext E13 SC3
    have SF4 := Sta.ext E13 SF3
    have Z_4 := Nat.le_trans Z_3 E13.1
    refine OGo.by_ (fun t k => XS.iloadN X13.here hx rfl (hb hby at_35) rfl k) ?_
    show OGo p e below _ (T13.setTop (mkF m 36 #[.val (.int p1), .val (.int p2), .val (.int ch), .val (.int r), .val (.int (own_low r)), .unset, .unset] [(.int r), (.ref sa4)]))
    obtain ⟨cq15, kq15, qa15, qb15, qc15⟩ := isOf hZ e13 Ex_sa4
    obtain ⟨_, _, ⟨T14, L14, k14, n14⟩, -, X14, ⟨Lc14, hQ14, l14, y14, z14⟩, st14⟩ := X13.virtualBack hx (y := (⟨"java/lang/String", "charAt", "(I)C"⟩ : MethodName)) (z := (⟨"java/lang/String", "charAt", "(I)C"⟩ : MethodName)) hown (mvT hZ (hw _ (List.mem_of_getElem? (i := 12) rfl))) (mvT hZ (hw _ (List.mem_of_getElem? (i := 13) rfl))) (notFace_of_selects (args := #[]) (mvT hZ (hw _ (List.mem_of_getElem? (i := 15) rfl)))) (mvT hZ (hw _ (List.mem_of_getElem? (i := 15) rfl))) (mvT hZ (hw _ (List.mem_of_getElem? (i := 14) rfl))) (by decide) (backOf (W := 0) (rm_cat l Z a0 hw [] sa4 cs sb4 kb_sb4 r (16 : Int32) (own_up r) (own_up r) own_UP wv h13 n0 Z_4 SC4 hcs Ex_sa4 Fc_sa4 Fv_sa4 SF4 hwv V_sb4 h0r (own_chars h0r h15r).2.2 (own_chars h0r h15r).2.1.1 (own_chars h0r h15r).2.1.2.1) hZ (hw _ (List.mem_of_getElem? (i := 16) rfl)) (hw _ (List.mem_of_getElem? (i := 5) rfl)) (by decide) (by decide)) qa15 qc15 (g := (mkF m 36 #[.val (.int p1), .val (.int p2), .val (.int ch), .val (.int r), .val (.int (own_low r)), .unset, .unset] [(.int r), (.ref sa4)])) rfl (by rw [hml]; rfl) (Steps.refl _) (argsL := [(.int r)]) (rest := []) (lenOf pd_oIcC rfl) rfl (by show 2 * 0 + _ ≤ _; exact Nat.le_of_eq rfl) (hb hby at_36) (fun _ _ => ⟨rfl, e13, (by decide : 4 + 0 ≤ _), (by decide : 136 + 0 ≤ _)⟩)
    dsimp only [Pt.U, Pt.locs, Pt.cells, Pt.slots] at X14 l14 y14 z14 st14 hQ14
    subst l14 y14 z14
    obtain ⟨rfl, Nq14, eq14⟩ := hQ14
    have N14 := Fr.app N11 Nq14
    refine OGo.by_ (fun t k => st14.trans k) ?_
    show OGo p e below _ (T14.setTop (mkF m 39 #[.val (.int p1), .val (.int p2), .val (.int ch), .val (.int r), .val (.int (own_low r)), .unset, .unset] [(.int (own_up r))]))
    refine OGo.by_ (fun t k => XS.istore X14.here hx rfl (hb hby at_39) rfl (l' := #[.val (.int p1), .val (.int p2), .val (.int ch), .val (.int r), .val (.int (own_low r)), .val (.int (own_up r)), .unset]) rfl k) ?_
    show OGo p e below _ (T14.setTop (mkF m 41 #[.val (.int p1), .val (.int p2), .val (.int ch), .val (.int r), .val (.int (own_low r)), .val (.int (own_up r)), .unset] []))
    refine OGo.by_ (fun t k => XS.iloadN X14.here hx rfl (hb hby at_41) rfl k) ?_
    show OGo p e below _ (T14.setTop (mkF m 42 #[.val (.int p1), .val (.int p2), .val (.int ch), .val (.int r), .val (.int (own_low r)), .val (.int (own_up r)), .unset] [(.int ch)]))
    refine OGo.by_ (fun t k => XS.iload X14.here hx rfl (hb hby at_42) rfl k) ?_
    show OGo p e below _ (T14.setTop (mkF m 44 #[.val (.int p1), .val (.int p2), .val (.int ch), .val (.int r), .val (.int (own_low r)), .val (.int (own_up r)), .unset] [(.int (own_low r)), (.int ch)]))
    by_cases hlo : ch = (own_low r)
    · refine OGo.by_ (fun t k => XS.icmpYes X14.here hx rfl (pc0 := 44) (pc' := 55) rfl (hb hby at_44) rfl (teq hlo).1 (by decide) (by decide) k) ?_
      show OGo p e below _ (T14.setTop (mkF m 55 #[.val (.int p1), .val (.int p2), .val (.int ch), .val (.int r), .val (.int (own_low r)), .val (.int (own_up r)), .unset] []))
      refine OGo.by_ (fun t k => XS.iloadN X14.here hx rfl (hb hby at_55) rfl k) ?_
      show OGo p e below _ (T14.setTop (mkF m 56 #[.val (.int p1), .val (.int p2), .val (.int ch), .val (.int r), .val (.int (own_low r)), .val (.int (own_up r)), .unset] [(.int p2)]))
      refine OGo.by_ (fun t k => XS.bipush X14.here hx rfl (hb hby at_56) k) ?_
      show OGo p e below _ (T14.setTop (mkF m 58 #[.val (.int p1), .val (.int p2), .val (.int ch), .val (.int r), .val (.int (own_low r)), .val (.int (own_up r)), .unset] [(.int (15 : Int32)), (.int p2)]))
      refine OGo.by_ (fun t k => XS.iand X14.here hx rfl (hb hby at_58) rfl k) ?_
      show OGo p e below _ (T14.setTop (mkF m 59 #[.val (.int p1), .val (.int p2), .val (.int ch), .val (.int r), .val (.int (own_low r)), .val (.int (own_up r)), .unset] [(.int (p2 &&& (15 : Int32)))]))
      refine OGo.by_ (fun t k => XS.istore X14.here hx rfl (hb hby at_59) rfl (l' := #[.val (.int p1), .val (.int p2), .val (.int ch), .val (.int r), .val (.int (p2 &&& (15 : Int32))), .val (.int (own_up r)), .unset]) rfl k) ?_
      show OGo p e below _ (T14.setTop (mkF m 61 #[.val (.int p1), .val (.int p2), .val (.int ch), .val (.int r), .val (.int (p2 &&& (15 : Int32))), .val (.int (own_up r)), .unset] []))
      obtain ⟨sa5, T16, h16, kx16, sb5, kb_sb5, X16, e16, E16, hS, hk, hZ, hown, Ex_sa5, Fc_sa5, Fv_sa5, V_sb5, la_sa5, lb_sb5, HR16, hL16, hne16, st16⟩ := ldcCH X14 hx hZ hown (hw _ (List.mem_of_getElem? (i := 4) rfl)) (own_strA hw) eq14 hS hk (own_ew hw) (List.mem_of_getElem? (i := 0) rfl) HR.1 (vs := own_LOW) (z := (16 : Int32)) ⟨by decide, rfl⟩ (by decide) (by decide) (g := (mkF m 61 #[.val (.int p1), .val (.int p2), .val (.int ch), .val (.int r), .val (.int (p2 &&& (15 : Int32))), .val (.int (own_up r)), .unset] [])) rfl (hb hby at_61) (n := 64) (by decide) (by decide) (by decide) (by decide)
      have HR := HR.trans HR16
      refine OGo.by_ st16 ?_
      show OGo p e below _ (T16.setTop (mkF m 63 #[.val (.int p1), .val (.int p2), .val (.int ch), .val (.int r), .val (.int (p2 &&& (15 : Int32))), .val (.int (own_up r)), .unset] [(.ref sa5)]))
      have SC5 := Sta.ext E16 SC4
      have SF5 := Sta.ext E16 SF4
      have Z_5 := Nat.le_trans Z_4 E16.1
      refine OGo.by_ (fun t k => XS.iload X16.here hx rfl (hb hby at_63) rfl k) ?_
      show OGo p e below _ (T16.setTop (mkF m 65 #[.val (.int p1), .val (.int p2), .val (.int ch), .val (.int r), .val (.int (p2 &&& (15 : Int32))), .val (.int (own_up r)), .unset] [(.int (p2 &&& (15 : Int32))), (.ref sa5)]))
      obtain ⟨cq18, kq18, qa18, qb18, qc18⟩ := isOf hZ e16 Ex_sa5
      obtain ⟨_, _, ⟨T17, L17, k17, n17⟩, -, X17, ⟨Lc17, hQ17, l17, y17, z17⟩, st17⟩ := X16.virtualBack hx (y := (⟨"java/lang/String", "charAt", "(I)C"⟩ : MethodName)) (z := (⟨"java/lang/String", "charAt", "(I)C"⟩ : MethodName)) hown (mvT hZ (hw _ (List.mem_of_getElem? (i := 12) rfl))) (mvT hZ (hw _ (List.mem_of_getElem? (i := 13) rfl))) (notFace_of_selects (args := #[]) (mvT hZ (hw _ (List.mem_of_getElem? (i := 15) rfl)))) (mvT hZ (hw _ (List.mem_of_getElem? (i := 15) rfl))) (mvT hZ (hw _ (List.mem_of_getElem? (i := 14) rfl))) (by decide) (backOf (W := 0) (rm_cat l Z a0 hw [] sa5 cs sb5 kb_sb5 (p2 &&& (15 : Int32)) (16 : Int32) (own_low (p2 &&& (15 : Int32))) (own_low (p2 &&& (15 : Int32))) own_LOW wv h16 n0 Z_5 SC5 hcs Ex_sa5 Fc_sa5 Fv_sa5 SF5 hwv V_sb5 (own_v15 p2).1 (own_chars (own_v15 p2).1 (own_v15 p2).2).2.2 (own_chars (own_v15 p2).1 (own_v15 p2).2).1.1 (own_chars (own_v15 p2).1 (own_v15 p2).2).1.2.1) hZ (hw _ (List.mem_of_getElem? (i := 16) rfl)) (hw _ (List.mem_of_getElem? (i := 5) rfl)) (by decide) (by decide)) qa18 qc18 (g := (mkF m 65 #[.val (.int p1), .val (.int p2), .val (.int ch), .val (.int r), .val (.int (p2 &&& (15 : Int32))), .val (.int (own_up r)), .unset] [(.int (p2 &&& (15 : Int32))), (.ref sa5)])) rfl (by rw [hml]; rfl) (Steps.refl _) (argsL := [(.int (p2 &&& (15 : Int32)))]) (rest := []) (lenOf pd_oIcC rfl) rfl (by show 2 * 0 + _ ≤ _; exact Nat.le_of_eq rfl) (hb hby at_65) (fun _ _ => ⟨rfl, e16, (by decide : 6 + 0 ≤ _), (by decide : 204 + 0 ≤ _)⟩)
      dsimp only [Pt.U, Pt.locs, Pt.cells, Pt.slots] at X17 l17 y17 z17 st17 hQ17
      subst l17 y17 z17
      obtain ⟨rfl, Nq17, eq17⟩ := hQ17
      have N17 := Fr.app N14 Nq17
      refine OGo.by_ (fun t k => st17.trans k) ?_
      show OGo p e below _ (T17.setTop (mkF m 68 #[.val (.int p1), .val (.int p2), .val (.int ch), .val (.int r), .val (.int (p2 &&& (15 : Int32))), .val (.int (own_up r)), .unset] [(.int (own_low (p2 &&& (15 : Int32))))]))
      refine OGo.by_ (fun t k => XS.istore X17.here hx rfl (hb hby at_68) rfl (l' := #[.val (.int p1), .val (.int p2), .val (.int ch), .val (.int r), .val (.int (p2 &&& (15 : Int32))), .val (.int (own_low (p2 &&& (15 : Int32)))), .unset]) rfl k) ?_
      show OGo p e below _ (T17.setTop (mkF m 70 #[.val (.int p1), .val (.int p2), .val (.int ch), .val (.int r), .val (.int (p2 &&& (15 : Int32))), .val (.int (own_low (p2 &&& (15 : Int32)))), .unset] []))
      obtain ⟨sa6, T19, h19, kx19, sb6, kb_sb6, X19, e19, E19, hS, hk, hZ, hown, Ex_sa6, Fc_sa6, Fv_sa6, V_sb6, la_sa6, lb_sb6, HR19, hL19, hne19, st19⟩ := ldcCH X17 hx hZ hown (hw _ (List.mem_of_getElem? (i := 37) rfl)) (own_strA hw) eq17 hS hk (own_ew hw) (List.mem_of_getElem? (i := 1) rfl) HR.1 (vs := own_UP) (z := (16 : Int32)) ⟨by decide, rfl⟩ (by decide) (by decide) (g := (mkF m 70 #[.val (.int p1), .val (.int p2), .val (.int ch), .val (.int r), .val (.int (p2 &&& (15 : Int32))), .val (.int (own_low (p2 &&& (15 : Int32)))), .unset] [])) rfl (hb hby at_70) (n := 64) (by decide) (by decide) (by decide) (by decide)
      have HR := HR.trans HR19
      refine OGo.by_ st19 ?_
      show OGo p e below _ (T19.setTop (mkF m 72 #[.val (.int p1), .val (.int p2), .val (.int ch), .val (.int r), .val (.int (p2 &&& (15 : Int32))), .val (.int (own_low (p2 &&& (15 : Int32)))), .unset] [(.ref sa6)]))
      have SC6 := Sta.ext E19 SC5
      have SF6 := Sta.ext E19 SF5
      have Z_6 := Nat.le_trans Z_5 E19.1
      refine OGo.by_ (fun t k => XS.iload X19.here hx rfl (hb hby at_72) rfl k) ?_
      show OGo p e below _ (T19.setTop (mkF m 74 #[.val (.int p1), .val (.int p2), .val (.int ch), .val (.int r), .val (.int (p2 &&& (15 : Int32))), .val (.int (own_low (p2 &&& (15 : Int32)))), .unset] [(.int (p2 &&& (15 : Int32))), (.ref sa6)]))
      obtain ⟨cq21, kq21, qa21, qb21, qc21⟩ := isOf hZ e19 Ex_sa6
      obtain ⟨_, _, ⟨T20, L20, k20, n20⟩, -, X20, ⟨Lc20, hQ20, l20, y20, z20⟩, st20⟩ := X19.virtualBack hx (y := (⟨"java/lang/String", "charAt", "(I)C"⟩ : MethodName)) (z := (⟨"java/lang/String", "charAt", "(I)C"⟩ : MethodName)) hown (mvT hZ (hw _ (List.mem_of_getElem? (i := 12) rfl))) (mvT hZ (hw _ (List.mem_of_getElem? (i := 13) rfl))) (notFace_of_selects (args := #[]) (mvT hZ (hw _ (List.mem_of_getElem? (i := 15) rfl)))) (mvT hZ (hw _ (List.mem_of_getElem? (i := 15) rfl))) (mvT hZ (hw _ (List.mem_of_getElem? (i := 14) rfl))) (by decide) (backOf (W := 0) (rm_cat l Z a0 hw [] sa6 cs sb6 kb_sb6 (p2 &&& (15 : Int32)) (16 : Int32) (own_up (p2 &&& (15 : Int32))) (own_up (p2 &&& (15 : Int32))) own_UP wv h19 n0 Z_6 SC6 hcs Ex_sa6 Fc_sa6 Fv_sa6 SF6 hwv V_sb6 (own_v15 p2).1 (own_chars (own_v15 p2).1 (own_v15 p2).2).2.2 (own_chars (own_v15 p2).1 (own_v15 p2).2).2.1.1 (own_chars (own_v15 p2).1 (own_v15 p2).2).2.1.2.1) hZ (hw _ (List.mem_of_getElem? (i := 16) rfl)) (hw _ (List.mem_of_getElem? (i := 5) rfl)) (by decide) (by decide)) qa21 qc21 (g := (mkF m 74 #[.val (.int p1), .val (.int p2), .val (.int ch), .val (.int r), .val (.int (p2 &&& (15 : Int32))), .val (.int (own_low (p2 &&& (15 : Int32)))), .unset] [(.int (p2 &&& (15 : Int32))), (.ref sa6)])) rfl (by rw [hml]; rfl) (Steps.refl _) (argsL := [(.int (p2 &&& (15 : Int32)))]) (rest := []) (lenOf pd_oIcC rfl) rfl (by show 2 * 0 + _ ≤ _; exact Nat.le_of_eq rfl) (hb hby at_74) (fun _ _ => ⟨rfl, e19, (by decide : 8 + 0 ≤ _), (by decide : 272 + 0 ≤ _)⟩)
      dsimp only [Pt.U, Pt.locs, Pt.cells, Pt.slots] at X20 l20 y20 z20 st20 hQ20
      subst l20 y20 z20
      obtain ⟨rfl, Nq20, eq20⟩ := hQ20
      have N20 := Fr.app N17 Nq20
      refine OGo.by_ (fun t k => st20.trans k) ?_
      show OGo p e below _ (T20.setTop (mkF m 77 #[.val (.int p1), .val (.int p2), .val (.int ch), .val (.int r), .val (.int (p2 &&& (15 : Int32))), .val (.int (own_low (p2 &&& (15 : Int32)))), .unset] [(.int (own_up (p2 &&& (15 : Int32))))]))
      refine OGo.by_ (fun t k => XS.istore X20.here hx rfl (hb hby at_77) rfl (l' := #[.val (.int p1), .val (.int p2), .val (.int ch), .val (.int r), .val (.int (p2 &&& (15 : Int32))), .val (.int (own_low (p2 &&& (15 : Int32)))), .val (.int (own_up (p2 &&& (15 : Int32))))]) rfl k) ?_
      show OGo p e below _ (T20.setTop (mkF m 79 #[.val (.int p1), .val (.int p2), .val (.int ch), .val (.int r), .val (.int (p2 &&& (15 : Int32))), .val (.int (own_low (p2 &&& (15 : Int32)))), .val (.int (own_up (p2 &&& (15 : Int32))))] []))
      refine OGo.by_ (fun t k => XS.iload X20.here hx rfl (hb hby at_79) rfl k) ?_
      show OGo p e below _ (T20.setTop (mkF m 81 #[.val (.int p1), .val (.int p2), .val (.int ch), .val (.int r), .val (.int (p2 &&& (15 : Int32))), .val (.int (own_low (p2 &&& (15 : Int32)))), .val (.int (own_up (p2 &&& (15 : Int32))))] [(.int (own_low (p2 &&& (15 : Int32))))]))
      obtain ⟨_, _, ⟨T22, L22, k22, n22⟩, -, X22, ⟨Lc22, hQ22, l22, y22, z22⟩, st22⟩ := Jvm.LawKit.callS X20 hx (y := (⟨"com/example/railhead/railhead/io/HexText", "digitValue", "(C)I"⟩ : MethodName)) hown (mvT hZ (hw _ (List.mem_of_getElem? (i := 0) rfl))) (mvT hZ (hw _ (List.mem_of_getElem? (i := 1) rfl))) (mvT hZ (hw _ (List.mem_of_getElem? (i := 2) rfl))) (mvT hZ (hw _ (List.mem_of_getElem? (i := 3) rfl))) (by decide) (backOf (W := 0) (rm_dv l Z a0 hw [] (own_low (p2 &&& (15 : Int32))) h19 n0 Z_6) hZ (hw _ (List.mem_of_getElem? (i := 3) rfl)) (hw _ (List.mem_of_getElem? (i := 2) rfl)) (by decide) (by decide)) (g := (mkF m 81 #[.val (.int p1), .val (.int p2), .val (.int ch), .val (.int r), .val (.int (p2 &&& (15 : Int32))), .val (.int (own_low (p2 &&& (15 : Int32)))), .val (.int (own_up (p2 &&& (15 : Int32))))] [(.int (own_low (p2 &&& (15 : Int32))))])) rfl (by rw [hml]; rfl) (argsL := [(.int (own_low (p2 &&& (15 : Int32))))]) (rest := []) (lenOf pd_oCcI rfl) rfl (by show 2 * 0 + _ ≤ _; exact Nat.le_of_eq rfl) (hb hby at_81) (fun _ _ => ⟨rfl, eq20, (by decide : 8 + 0 ≤ _), (by decide : 272 + 0 ≤ _)⟩)
      dsimp only [Pt.U, Pt.locs, Pt.cells, Pt.slots] at X22 l22 y22 z22 st22 hQ22
      subst l22 y22 z22
      obtain ⟨rfl, Nq22, eq22⟩ := hQ22
      have N22 := Fr.app N20 Nq22
      refine OGo.by_ st22 ?_
      show OGo p e below _ (T22.setTop (mkF m 84 #[.val (.int p1), .val (.int p2), .val (.int ch), .val (.int r), .val (.int (p2 &&& (15 : Int32))), .val (.int (own_low (p2 &&& (15 : Int32)))), .val (.int (own_up (p2 &&& (15 : Int32))))] [(.int (own_dv (own_low (p2 &&& (15 : Int32)))))]))
      refine OGo.by_ (fun t k => XS.iload X22.here hx rfl (hb hby at_84) rfl k) ?_
      show OGo p e below _ (T22.setTop (mkF m 86 #[.val (.int p1), .val (.int p2), .val (.int ch), .val (.int r), .val (.int (p2 &&& (15 : Int32))), .val (.int (own_low (p2 &&& (15 : Int32)))), .val (.int (own_up (p2 &&& (15 : Int32))))] [(.int (p2 &&& (15 : Int32))), (.int (own_dv (own_low (p2 &&& (15 : Int32)))))]))
      refine OGo.by_ (fun t k => XS.icmpNo X22.here hx rfl (hb hby at_86) rfl (teq ((own_chars (own_v15 p2).1 (own_v15 p2).2).1.2.2)).2 k) ?_
      show OGo p e below _ (T22.setTop (mkF m 89 #[.val (.int p1), .val (.int p2), .val (.int ch), .val (.int r), .val (.int (p2 &&& (15 : Int32))), .val (.int (own_low (p2 &&& (15 : Int32)))), .val (.int (own_up (p2 &&& (15 : Int32))))] []))
      refine OGo.by_ (fun t k => XS.iload X22.here hx rfl (hb hby at_89) rfl k) ?_
      show OGo p e below _ (T22.setTop (mkF m 91 #[.val (.int p1), .val (.int p2), .val (.int ch), .val (.int r), .val (.int (p2 &&& (15 : Int32))), .val (.int (own_low (p2 &&& (15 : Int32)))), .val (.int (own_up (p2 &&& (15 : Int32))))] [(.int (own_up (p2 &&& (15 : Int32))))]))
      obtain ⟨_, _, ⟨T23, L23, k23, n23⟩, -, X23, ⟨Lc23, hQ23, l23, y23, z23⟩, st23⟩ := Jvm.LawKit.callS X22 hx (y := (⟨"com/example/railhead/railhead/io/HexText", "digitValue", "(C)I"⟩ : MethodName)) hown (mvT hZ (hw _ (List.mem_of_getElem? (i := 0) rfl))) (mvT hZ (hw _ (List.mem_of_getElem? (i := 1) rfl))) (mvT hZ (hw _ (List.mem_of_getElem? (i := 2) rfl))) (mvT hZ (hw _ (List.mem_of_getElem? (i := 3) rfl))) (by decide) (backOf (W := 0) (rm_dv l Z a0 hw [] (own_up (p2 &&& (15 : Int32))) h19 n0 Z_6) hZ (hw _ (List.mem_of_getElem? (i := 3) rfl)) (hw _ (List.mem_of_getElem? (i := 2) rfl)) (by decide) (by decide)) (g := (mkF m 91 #[.val (.int p1), .val (.int p2), .val (.int ch), .val (.int r), .val (.int (p2 &&& (15 : Int32))), .val (.int (own_low (p2 &&& (15 : Int32)))), .val (.int (own_up (p2 &&& (15 : Int32))))] [(.int (own_up (p2 &&& (15 : Int32))))])) rfl (by rw [hml]; rfl) (argsL := [(.int (own_up (p2 &&& (15 : Int32))))]) (rest := []) (lenOf pd_oCcI rfl) rfl (by show 2 * 0 + _ ≤ _; exact Nat.le_of_eq rfl) (hb hby at_91) (fun _ _ => ⟨rfl, eq22, (by decide : 8 + 0 ≤ _), (by decide : 272 + 0 ≤ _)⟩)
      dsimp only [Pt.U, Pt.locs, Pt.cells, Pt.slots] at X23 l23 y23 z23 st23 hQ23
      subst l23 y23 z23
      obtain ⟨rfl, Nq23, eq23⟩ := hQ23
      have N23 := Fr.app N22 Nq23
      refine OGo.by_ st23 ?_
      show OGo p e below _ (T23.setTop (mkF m 94 #[.val (.int p1), .val (.int p2), .val (.int ch), .val (.int r), .val (.int (p2 &&& (15 : Int32))), .val (.int (own_low (p2 &&& (15 : Int32)))), .val (.int (own_up (p2 &&& (15 : Int32))))] [(.int (own_dv (own_up (p2 &&& (15 : Int32)))))]))
      refine OGo.by_ (fun t k => XS.iload X23.here hx rfl (hb hby at_94) rfl k) ?_
      show OGo p e below _ (T23.setTop (mkF m 96 #[.val (.int p1), .val (.int p2), .val (.int ch), .val (.int r), .val (.int (p2 &&& (15 : Int32))), .val (.int (own_low (p2 &&& (15 : Int32)))), .val (.int (own_up (p2 &&& (15 : Int32))))] [(.int (p2 &&& (15 : Int32))), (.int (own_dv (own_up (p2 &&& (15 : Int32)))))]))
      refine OGo.by_ (fun t k => XS.icmpNo X23.here hx rfl (hb hby at_96) rfl (teq ((own_chars (own_v15 p2).1 (own_v15 p2).2).2.1.2.2)).2 k) ?_
      show OGo p e below _ (T23.setTop (mkF m 99 #[.val (.int p1), .val (.int p2), .val (.int ch), .val (.int r), .val (.int (p2 &&& (15 : Int32))), .val (.int (own_low (p2 &&& (15 : Int32)))), .val (.int (own_up (p2 &&& (15 : Int32))))] []))
      refine OGo.by_ (fun t k => XS.iconst X23.here hx rfl (hb hby at_99) k) ?_
      show OGo p e below _ (T23.setTop (mkF m 100 #[.val (.int p1), .val (.int p2), .val (.int ch), .val (.int r), .val (.int (p2 &&& (15 : Int32))), .val (.int (own_low (p2 &&& (15 : Int32)))), .val (.int (own_up (p2 &&& (15 : Int32))))] [(.int (1 : Int32))]))
      refine OGo.by_ (fun t k => XS.goto X23.here hx rfl (pc0 := 100) (pc' := 104) rfl (hb hby at_100) (by decide) (by decide) k) ?_
      show OGo p e below _ (T23.setTop (mkF m 104 #[.val (.int p1), .val (.int p2), .val (.int ch), .val (.int r), .val (.int (p2 &&& (15 : Int32))), .val (.int (own_low (p2 &&& (15 : Int32)))), .val (.int (own_up (p2 &&& (15 : Int32))))] [(.int (1 : Int32))]))
      exact own_wretN X23 hS (show _ ≤ T23.heap.size by rw [eq23]; exact hk) hx hlk (t := .boolean) hret (by simp) (hb hby at_104) (by decide) (by decide) (⟨rfl, N23⟩)
    · refine OGo.by_ (fun t k => XS.icmpNo X14.here hx rfl (hb hby at_44) rfl (feq hlo).1 k) ?_
      show OGo p e below _ (T14.setTop (mkF m 47 #[.val (.int p1), .val (.int p2), .val (.int ch), .val (.int r), .val (.int (own_low r)), .val (.int (own_up r)), .unset] []))
      refine OGo.by_ (fun t k => XS.iloadN X14.here hx rfl (hb hby at_47) rfl k) ?_
      show OGo p e below _ (T14.setTop (mkF m 48 #[.val (.int p1), .val (.int p2), .val (.int ch), .val (.int r), .val (.int (own_low r)), .val (.int (own_up r)), .unset] [(.int ch)]))
      refine OGo.by_ (fun t k => XS.iload X14.here hx rfl (hb hby at_48) rfl k) ?_
      show OGo p e below _ (T14.setTop (mkF m 50 #[.val (.int p1), .val (.int p2), .val (.int ch), .val (.int r), .val (.int (own_low r)), .val (.int (own_up r)), .unset] [(.int (own_up r)), (.int ch)]))
      refine OGo.by_ (fun t k => XS.icmpYes X14.here hx rfl (pc0 := 50) (pc' := 55) rfl (hb hby at_50) rfl (teq (by rw [hr] at hlo h0r ⊢; exact own_L3 h0r hlo)).1 (by decide) (by decide) k) ?_
      show OGo p e below _ (T14.setTop (mkF m 55 #[.val (.int p1), .val (.int p2), .val (.int ch), .val (.int r), .val (.int (own_low r)), .val (.int (own_up r)), .unset] []))
      refine OGo.by_ (fun t k => XS.iloadN X14.here hx rfl (hb hby at_55) rfl k) ?_
      show OGo p e below _ (T14.setTop (mkF m 56 #[.val (.int p1), .val (.int p2), .val (.int ch), .val (.int r), .val (.int (own_low r)), .val (.int (own_up r)), .unset] [(.int p2)]))
      refine OGo.by_ (fun t k => XS.bipush X14.here hx rfl (hb hby at_56) k) ?_
      show OGo p e below _ (T14.setTop (mkF m 58 #[.val (.int p1), .val (.int p2), .val (.int ch), .val (.int r), .val (.int (own_low r)), .val (.int (own_up r)), .unset] [(.int (15 : Int32)), (.int p2)]))
      refine OGo.by_ (fun t k => XS.iand X14.here hx rfl (hb hby at_58) rfl k) ?_
      show OGo p e below _ (T14.setTop (mkF m 59 #[.val (.int p1), .val (.int p2), .val (.int ch), .val (.int r), .val (.int (own_low r)), .val (.int (own_up r)), .unset] [(.int (p2 &&& (15 : Int32)))]))
      refine OGo.by_ (fun t k => XS.istore X14.here hx rfl (hb hby at_59) rfl (l' := #[.val (.int p1), .val (.int p2), .val (.int ch), .val (.int r), .val (.int (p2 &&& (15 : Int32))), .val (.int (own_up r)), .unset]) rfl k) ?_
      show OGo p e below _ (T14.setTop (mkF m 61 #[.val (.int p1), .val (.int p2), .val (.int ch), .val (.int r), .val (.int (p2 &&& (15 : Int32))), .val (.int (own_up r)), .unset] []))
      obtain ⟨sa7, T24, h24, kx24, sb7, kb_sb7, X24, e24, E24, hS, hk, hZ, hown, Ex_sa7, Fc_sa7, Fv_sa7, V_sb7, la_sa7, lb_sb7, HR24, hL24, hne24, st24⟩ := ldcCH X14 hx hZ hown (hw _ (List.mem_of_getElem? (i := 4) rfl)) (own_strA hw) eq14 hS hk (own_ew hw) (List.mem_of_getElem? (i := 0) rfl) HR.1 (vs := own_LOW) (z := (16 : Int32)) ⟨by decide, rfl⟩ (by decide) (by decide) (g := (mkF m 61 #[.val (.int p1), .val (.int p2), .val (.int ch), .val (.int r), .val (.int (p2 &&& (15 : Int32))), .val (.int (own_up r)), .unset] [])) rfl (hb hby at_61) (n := 64) (by decide) (by decide) (by decide) (by decide)
      have HR := HR.trans HR24
      refine OGo.by_ st24 ?_
      show OGo p e below _ (T24.setTop (mkF m 63 #[.val (.int p1), .val (.int p2), .val (.int ch), .val (.int r), .val (.int (p2 &&& (15 : Int32))), .val (.int (own_up r)), .unset] [(.ref sa7)]))
      have SC7 := Sta.ext E24 SC4
      have SF7 := Sta.ext E24 SF4
      have Z_7 := Nat.le_trans Z_4 E24.1
      refine OGo.by_ (fun t k => XS.iload X24.here hx rfl (hb hby at_63) rfl k) ?_
      show OGo p e below _ (T24.setTop (mkF m 65 #[.val (.int p1), .val (.int p2), .val (.int ch), .val (.int r), .val (.int (p2 &&& (15 : Int32))), .val (.int (own_up r)), .unset] [(.int (p2 &&& (15 : Int32))), (.ref sa7)]))
      obtain ⟨cq26, kq26, qa26, qb26, qc26⟩ := isOf hZ e24 Ex_sa7
      obtain ⟨_, _, ⟨T25, L25, k25, n25⟩, -, X25, ⟨Lc25, hQ25, l25, y25, z25⟩, st25⟩ := X24.virtualBack hx (y := (⟨"java/lang/String", "charAt", "(I)C"⟩ : MethodName)) (z := (⟨"java/lang/String", "charAt", "(I)C"⟩ : MethodName)) hown (mvT hZ (hw _ (List.mem_of_getElem? (i := 12) rfl))) (mvT hZ (hw _ (List.mem_of_getElem? (i := 13) rfl))) (notFace_of_selects (args := #[]) (mvT hZ (hw _ (List.mem_of_getElem? (i := 15) rfl)))) (mvT hZ (hw _ (List.mem_of_getElem? (i := 15) rfl))) (mvT hZ (hw _ (List.mem_of_getElem? (i := 14) rfl))) (by decide) (backOf (W := 0) (rm_cat l Z a0 hw [] sa7 cs sb7 kb_sb7 (p2 &&& (15 : Int32)) (16 : Int32) (own_low (p2 &&& (15 : Int32))) (own_low (p2 &&& (15 : Int32))) own_LOW wv h24 n0 Z_7 SC7 hcs Ex_sa7 Fc_sa7 Fv_sa7 SF7 hwv V_sb7 (own_v15 p2).1 (own_chars (own_v15 p2).1 (own_v15 p2).2).2.2 (own_chars (own_v15 p2).1 (own_v15 p2).2).1.1 (own_chars (own_v15 p2).1 (own_v15 p2).2).1.2.1) hZ (hw _ (List.mem_of_getElem? (i := 16) rfl)) (hw _ (List.mem_of_getElem? (i := 5) rfl)) (by decide) (by decide)) qa26 qc26 (g := (mkF m 65 #[.val (.int p1), .val (.int p2), .val (.int ch), .val (.int r), .val (.int (p2 &&& (15 : Int32))), .val (.int (own_up r)), .unset] [(.int (p2 &&& (15 : Int32))), (.ref sa7)])) rfl (by rw [hml]; rfl) (Steps.refl _) (argsL := [(.int (p2 &&& (15 : Int32)))]) (rest := []) (lenOf pd_oIcC rfl) rfl (by show 2 * 0 + _ ≤ _; exact Nat.le_of_eq rfl) (hb hby at_65) (fun _ _ => ⟨rfl, e24, (by decide : 6 + 0 ≤ _), (by decide : 204 + 0 ≤ _)⟩)
      dsimp only [Pt.U, Pt.locs, Pt.cells, Pt.slots] at X25 l25 y25 z25 st25 hQ25
      subst l25 y25 z25
      obtain ⟨rfl, Nq25, eq25⟩ := hQ25
      have N25 := Fr.app N14 Nq25
      refine OGo.by_ (fun t k => st25.trans k) ?_
      show OGo p e below _ (T25.setTop (mkF m 68 #[.val (.int p1), .val (.int p2), .val (.int ch), .val (.int r), .val (.int (p2 &&& (15 : Int32))), .val (.int (own_up r)), .unset] [(.int (own_low (p2 &&& (15 : Int32))))]))
      refine OGo.by_ (fun t k => XS.istore X25.here hx rfl (hb hby at_68) rfl (l' := #[.val (.int p1), .val (.int p2), .val (.int ch), .val (.int r), .val (.int (p2 &&& (15 : Int32))), .val (.int (own_low (p2 &&& (15 : Int32)))), .unset]) rfl k) ?_
      show OGo p e below _ (T25.setTop (mkF m 70 #[.val (.int p1), .val (.int p2), .val (.int ch), .val (.int r), .val (.int (p2 &&& (15 : Int32))), .val (.int (own_low (p2 &&& (15 : Int32)))), .unset] []))
      obtain ⟨sa8, T27, h27, kx27, sb8, kb_sb8, X27, e27, E27, hS, hk, hZ, hown, Ex_sa8, Fc_sa8, Fv_sa8, V_sb8, la_sa8, lb_sb8, HR27, hL27, hne27, st27⟩ := ldcCH X25 hx hZ hown (hw _ (List.mem_of_getElem? (i := 37) rfl)) (own_strA hw) eq25 hS hk (own_ew hw) (List.mem_of_getElem? (i := 1) rfl) HR.1 (vs := own_UP) (z := (16 : Int32)) ⟨by decide, rfl⟩ (by decide) (by decide) (g := (mkF m 70 #[.val (.int p1), .val (.int p2), .val (.int ch), .val (.int r), .val (.int (p2 &&& (15 : Int32))), .val (.int (own_low (p2 &&& (15 : Int32)))), .unset] [])) rfl (hb hby at_70) (n := 64) (by decide) (by decide) (by decide) (by decide)
      have HR := HR.trans HR27
      refine OGo.by_ st27 ?_
      show OGo p e below _ (T27.setTop (mkF m 72 #[.val (.int p1), .val (.int p2), .val (.int ch), .val (.int r), .val (.int (p2 &&& (15 : Int32))), .val (.int (own_low (p2 &&& (15 : Int32)))), .unset] [(.ref sa8)]))
      have SC8 := Sta.ext E27 SC7
      have SF8 := Sta.ext E27 SF7
      have Z_8 := Nat.le_trans Z_7 E27.1
      refine OGo.by_ (fun t k => XS.iload X27.here hx rfl (hb hby at_72) rfl k) ?_
      show OGo p e below _ (T27.setTop (mkF m 74 #[.val (.int p1), .val (.int p2), .val (.int ch), .val (.int r), .val (.int (p2 &&& (15 : Int32))), .val (.int (own_low (p2 &&& (15 : Int32)))), .unset] [(.int (p2 &&& (15 : Int32))), (.ref sa8)]))
      obtain ⟨cq29, kq29, qa29, qb29, qc29⟩ := isOf hZ e27 Ex_sa8
      obtain ⟨_, _, ⟨T28, L28, k28, n28⟩, -, X28, ⟨Lc28, hQ28, l28, y28, z28⟩, st28⟩ := X27.virtualBack hx (y := (⟨"java/lang/String", "charAt", "(I)C"⟩ : MethodName)) (z := (⟨"java/lang/String", "charAt", "(I)C"⟩ : MethodName)) hown (mvT hZ (hw _ (List.mem_of_getElem? (i := 12) rfl))) (mvT hZ (hw _ (List.mem_of_getElem? (i := 13) rfl))) (notFace_of_selects (args := #[]) (mvT hZ (hw _ (List.mem_of_getElem? (i := 15) rfl)))) (mvT hZ (hw _ (List.mem_of_getElem? (i := 15) rfl))) (mvT hZ (hw _ (List.mem_of_getElem? (i := 14) rfl))) (by decide) (backOf (W := 0) (rm_cat l Z a0 hw [] sa8 cs sb8 kb_sb8 (p2 &&& (15 : Int32)) (16 : Int32) (own_up (p2 &&& (15 : Int32))) (own_up (p2 &&& (15 : Int32))) own_UP wv h27 n0 Z_8 SC8 hcs Ex_sa8 Fc_sa8 Fv_sa8 SF8 hwv V_sb8 (own_v15 p2).1 (own_chars (own_v15 p2).1 (own_v15 p2).2).2.2 (own_chars (own_v15 p2).1 (own_v15 p2).2).2.1.1 (own_chars (own_v15 p2).1 (own_v15 p2).2).2.1.2.1) hZ (hw _ (List.mem_of_getElem? (i := 16) rfl)) (hw _ (List.mem_of_getElem? (i := 5) rfl)) (by decide) (by decide)) qa29 qc29 (g := (mkF m 74 #[.val (.int p1), .val (.int p2), .val (.int ch), .val (.int r), .val (.int (p2 &&& (15 : Int32))), .val (.int (own_low (p2 &&& (15 : Int32)))), .unset] [(.int (p2 &&& (15 : Int32))), (.ref sa8)])) rfl (by rw [hml]; rfl) (Steps.refl _) (argsL := [(.int (p2 &&& (15 : Int32)))]) (rest := []) (lenOf pd_oIcC rfl) rfl (by show 2 * 0 + _ ≤ _; exact Nat.le_of_eq rfl) (hb hby at_74) (fun _ _ => ⟨rfl, e27, (by decide : 8 + 0 ≤ _), (by decide : 272 + 0 ≤ _)⟩)
      dsimp only [Pt.U, Pt.locs, Pt.cells, Pt.slots] at X28 l28 y28 z28 st28 hQ28
      subst l28 y28 z28
      obtain ⟨rfl, Nq28, eq28⟩ := hQ28
      have N28 := Fr.app N25 Nq28
      refine OGo.by_ (fun t k => st28.trans k) ?_
      show OGo p e below _ (T28.setTop (mkF m 77 #[.val (.int p1), .val (.int p2), .val (.int ch), .val (.int r), .val (.int (p2 &&& (15 : Int32))), .val (.int (own_low (p2 &&& (15 : Int32)))), .unset] [(.int (own_up (p2 &&& (15 : Int32))))]))
      refine OGo.by_ (fun t k => XS.istore X28.here hx rfl (hb hby at_77) rfl (l' := #[.val (.int p1), .val (.int p2), .val (.int ch), .val (.int r), .val (.int (p2 &&& (15 : Int32))), .val (.int (own_low (p2 &&& (15 : Int32)))), .val (.int (own_up (p2 &&& (15 : Int32))))]) rfl k) ?_
      show OGo p e below _ (T28.setTop (mkF m 79 #[.val (.int p1), .val (.int p2), .val (.int ch), .val (.int r), .val (.int (p2 &&& (15 : Int32))), .val (.int (own_low (p2 &&& (15 : Int32)))), .val (.int (own_up (p2 &&& (15 : Int32))))] []))
      refine OGo.by_ (fun t k => XS.iload X28.here hx rfl (hb hby at_79) rfl k) ?_
      show OGo p e below _ (T28.setTop (mkF m 81 #[.val (.int p1), .val (.int p2), .val (.int ch), .val (.int r), .val (.int (p2 &&& (15 : Int32))), .val (.int (own_low (p2 &&& (15 : Int32)))), .val (.int (own_up (p2 &&& (15 : Int32))))] [(.int (own_low (p2 &&& (15 : Int32))))]))
      obtain ⟨_, _, ⟨T30, L30, k30, n30⟩, -, X30, ⟨Lc30, hQ30, l30, y30, z30⟩, st30⟩ := Jvm.LawKit.callS X28 hx (y := (⟨"com/example/railhead/railhead/io/HexText", "digitValue", "(C)I"⟩ : MethodName)) hown (mvT hZ (hw _ (List.mem_of_getElem? (i := 0) rfl))) (mvT hZ (hw _ (List.mem_of_getElem? (i := 1) rfl))) (mvT hZ (hw _ (List.mem_of_getElem? (i := 2) rfl))) (mvT hZ (hw _ (List.mem_of_getElem? (i := 3) rfl))) (by decide) (backOf (W := 0) (rm_dv l Z a0 hw [] (own_low (p2 &&& (15 : Int32))) h27 n0 Z_8) hZ (hw _ (List.mem_of_getElem? (i := 3) rfl)) (hw _ (List.mem_of_getElem? (i := 2) rfl)) (by decide) (by decide)) (g := (mkF m 81 #[.val (.int p1), .val (.int p2), .val (.int ch), .val (.int r), .val (.int (p2 &&& (15 : Int32))), .val (.int (own_low (p2 &&& (15 : Int32)))), .val (.int (own_up (p2 &&& (15 : Int32))))] [(.int (own_low (p2 &&& (15 : Int32))))])) rfl (by rw [hml]; rfl) (argsL := [(.int (own_low (p2 &&& (15 : Int32))))]) (rest := []) (lenOf pd_oCcI rfl) rfl (by show 2 * 0 + _ ≤ _; exact Nat.le_of_eq rfl) (hb hby at_81) (fun _ _ => ⟨rfl, eq28, (by decide : 8 + 0 ≤ _), (by decide : 272 + 0 ≤ _)⟩)
      dsimp only [Pt.U, Pt.locs, Pt.cells, Pt.slots] at X30 l30 y30 z30 st30 hQ30
      subst l30 y30 z30
      obtain ⟨rfl, Nq30, eq30⟩ := hQ30
      have N30 := Fr.app N28 Nq30
      refine OGo.by_ st30 ?_
      show OGo p e below _ (T30.setTop (mkF m 84 #[.val (.int p1), .val (.int p2), .val (.int ch), .val (.int r), .val (.int (p2 &&& (15 : Int32))), .val (.int (own_low (p2 &&& (15 : Int32)))), .val (.int (own_up (p2 &&& (15 : Int32))))] [(.int (own_dv (own_low (p2 &&& (15 : Int32)))))]))
      refine OGo.by_ (fun t k => XS.iload X30.here hx rfl (hb hby at_84) rfl k) ?_
      show OGo p e below _ (T30.setTop (mkF m 86 #[.val (.int p1), .val (.int p2), .val (.int ch), .val (.int r), .val (.int (p2 &&& (15 : Int32))), .val (.int (own_low (p2 &&& (15 : Int32)))), .val (.int (own_up (p2 &&& (15 : Int32))))] [(.int (p2 &&& (15 : Int32))), (.int (own_dv (own_low (p2 &&& (15 : Int32)))))]))
      refine OGo.by_ (fun t k => XS.icmpNo X30.here hx rfl (hb hby at_86) rfl (teq ((own_chars (own_v15 p2).1 (own_v15 p2).2).1.2.2)).2 k) ?_
      show OGo p e below _ (T30.setTop (mkF m 89 #[.val (.int p1), .val (.int p2), .val (.int ch), .val (.int r), .val (.int (p2 &&& (15 : Int32))), .val (.int (own_low (p2 &&& (15 : Int32)))), .val (.int (own_up (p2 &&& (15 : Int32))))] []))
      refine OGo.by_ (fun t k => XS.iload X30.here hx rfl (hb hby at_89) rfl k) ?_
      show OGo p e below _ (T30.setTop (mkF m 91 #[.val (.int p1), .val (.int p2), .val (.int ch), .val (.int r), .val (.int (p2 &&& (15 : Int32))), .val (.int (own_low (p2 &&& (15 : Int32)))), .val (.int (own_up (p2 &&& (15 : Int32))))] [(.int (own_up (p2 &&& (15 : Int32))))]))
      obtain ⟨_, _, ⟨T31, L31, k31, n31⟩, -, X31, ⟨Lc31, hQ31, l31, y31, z31⟩, st31⟩ := Jvm.LawKit.callS X30 hx (y := (⟨"com/example/railhead/railhead/io/HexText", "digitValue", "(C)I"⟩ : MethodName)) hown (mvT hZ (hw _ (List.mem_of_getElem? (i := 0) rfl))) (mvT hZ (hw _ (List.mem_of_getElem? (i := 1) rfl))) (mvT hZ (hw _ (List.mem_of_getElem? (i := 2) rfl))) (mvT hZ (hw _ (List.mem_of_getElem? (i := 3) rfl))) (by decide) (backOf (W := 0) (rm_dv l Z a0 hw [] (own_up (p2 &&& (15 : Int32))) h27 n0 Z_8) hZ (hw _ (List.mem_of_getElem? (i := 3) rfl)) (hw _ (List.mem_of_getElem? (i := 2) rfl)) (by decide) (by decide)) (g := (mkF m 91 #[.val (.int p1), .val (.int p2), .val (.int ch), .val (.int r), .val (.int (p2 &&& (15 : Int32))), .val (.int (own_low (p2 &&& (15 : Int32)))), .val (.int (own_up (p2 &&& (15 : Int32))))] [(.int (own_up (p2 &&& (15 : Int32))))])) rfl (by rw [hml]; rfl) (argsL := [(.int (own_up (p2 &&& (15 : Int32))))]) (rest := []) (lenOf pd_oCcI rfl) rfl (by show 2 * 0 + _ ≤ _; exact Nat.le_of_eq rfl) (hb hby at_91) (fun _ _ => ⟨rfl, eq30, (by decide : 8 + 0 ≤ _), (by decide : 272 + 0 ≤ _)⟩)
      dsimp only [Pt.U, Pt.locs, Pt.cells, Pt.slots] at X31 l31 y31 z31 st31 hQ31
      subst l31 y31 z31
      obtain ⟨rfl, Nq31, eq31⟩ := hQ31
      have N31 := Fr.app N30 Nq31
      refine OGo.by_ st31 ?_
      show OGo p e below _ (T31.setTop (mkF m 94 #[.val (.int p1), .val (.int p2), .val (.int ch), .val (.int r), .val (.int (p2 &&& (15 : Int32))), .val (.int (own_low (p2 &&& (15 : Int32)))), .val (.int (own_up (p2 &&& (15 : Int32))))] [(.int (own_dv (own_up (p2 &&& (15 : Int32)))))]))
      refine OGo.by_ (fun t k => XS.iload X31.here hx rfl (hb hby at_94) rfl k) ?_
      show OGo p e below _ (T31.setTop (mkF m 96 #[.val (.int p1), .val (.int p2), .val (.int ch), .val (.int r), .val (.int (p2 &&& (15 : Int32))), .val (.int (own_low (p2 &&& (15 : Int32)))), .val (.int (own_up (p2 &&& (15 : Int32))))] [(.int (p2 &&& (15 : Int32))), (.int (own_dv (own_up (p2 &&& (15 : Int32)))))]))
      refine OGo.by_ (fun t k => XS.icmpNo X31.here hx rfl (hb hby at_96) rfl (teq ((own_chars (own_v15 p2).1 (own_v15 p2).2).2.1.2.2)).2 k) ?_
      show OGo p e below _ (T31.setTop (mkF m 99 #[.val (.int p1), .val (.int p2), .val (.int ch), .val (.int r), .val (.int (p2 &&& (15 : Int32))), .val (.int (own_low (p2 &&& (15 : Int32)))), .val (.int (own_up (p2 &&& (15 : Int32))))] []))
      refine OGo.by_ (fun t k => XS.iconst X31.here hx rfl (hb hby at_99) k) ?_
      show OGo p e below _ (T31.setTop (mkF m 100 #[.val (.int p1), .val (.int p2), .val (.int ch), .val (.int r), .val (.int (p2 &&& (15 : Int32))), .val (.int (own_low (p2 &&& (15 : Int32)))), .val (.int (own_up (p2 &&& (15 : Int32))))] [(.int (1 : Int32))]))
      refine OGo.by_ (fun t k => XS.goto X31.here hx rfl (pc0 := 100) (pc' := 104) rfl (hb hby at_100) (by decide) (by decide) k) ?_
      show OGo p e below _ (T31.setTop (mkF m 104 #[.val (.int p1), .val (.int p2), .val (.int ch), .val (.int r), .val (.int (p2 &&& (15 : Int32))), .val (.int (own_low (p2 &&& (15 : Int32)))), .val (.int (own_up (p2 &&& (15 : Int32))))] [(.int (1 : Int32))]))
      exact own_wretN X31 hS (show _ ≤ T31.heap.size by rw [eq31]; exact hk) hx hlk (t := .boolean) hret (by simp) (hb hby at_104) (by decide) (by decide) (⟨rfl, N31⟩)
set_option maxRecDepth 65536 in
set_option maxHeartbeats 40000000 in
theorem comes_1 {Post : Tables → Env → Array Value → State → Outcome → State → Prop} (hpost : ∀ tb e args s v u, (limb_1_1.after args s (.returned v) u = true ∧ limb_1_2.after args s (.returned v) u = true ∧ True) → ReturnedEndW s (.returned v) u (Jvm.fieldLocs frame_1_writes args s ++ Jvm.arrayLocs frame_1_arrays args s ++ Jvm.staticLocs frame_1_statics s) 8 2112 → Post tb e args s (.returned v) u) :
    ArmFor flags0 classFile x code maxLocals ret World_1 tables_1 room_1 Calls_1 rest_1 Pre_1 Post := by
  intro l hfl _ _ p e ha hc hk s m args below hf hA hF happ hP
  obtain ⟨hcalls, hrest, hpre⟩ := hP
  obtain ⟨-, -, -, hnamed, -, -, -, hat⟩ := (Spec.applies_iff hf).mp happ
  obtain ⟨hg, hn⟩ := and_e (Cond.before_iff.mp (show (Jvm.Cond.and given_1 narrow_1).before args s = true from hpre))
  obtain ⟨hcount, hg0⟩ := and_e hg
  obtain ⟨ga0, hg1⟩ := and_e hg0
  have ga1 := hg1
  obtain ⟨w0, w1, rfl⟩ : ∃ w0 w1 : Value, args = #[w0, w1] := by
    have hs : args.size = 2 := by simpa [Cond.value, given_1] using hcount
    obtain ⟨L⟩ := args
    match L, hs with
    | [w0, w1], _ => exact ⟨w0, w1, rfl⟩
  have hw := fun d (hd : d ∈ tables_1) => atoms_spec (ws := Jvm.Cond.code x code maxLocals ret :: tables_1) hat d (List.mem_cons_of_mem _ hd)
  have hfit : Fit s := fun {y c} hc i hi => by
    obtain ⟨ha, rfl⟩ := Array.getElem?_eq_some_iff.mp hc
    have q := List.all_eq_true.mp ((Array.all_eq_true_iff_forall_mem.mp hF) _ (Array.getElem_mem ha)) i (List.mem_range.mpr hi)
    simpa [Array.getElem?_eq_getElem hi] using q
  obtain ⟨hsets, hown0⟩ := atoms_of _ (rest_1_c_eq ▸ (show rest_1_c.before _ s = true from hrest))
  have hr0 := Cond.before_iff.mp hown0
  obtain ⟨i0, ei0⟩ := is_v ga0
  obtain rfl : w0 = (.int i0) := Option.some.inj ei0
  obtain ⟨i1, ei1⟩ := is_v ga1
  obtain rfl : w1 = (.int i1) := Option.some.inj ei1
  have hcw : Jvm.Lit.compactW.before #[.int i0, .int i1] s = true := hsets _ (List.mem_of_getElem? (i := 2) rfl)
  have HC0 : CHv s own_EL s.vm s.heap := CHv.start (own_ew hw) (fun q hq => hcalls.1 q hq) hcw (hw _ (List.mem_of_getElem? (i := 7) rfl)) (hw _ (List.mem_of_getElem? (i := 6) rfl))
  obtain ⟨cs, ecs⟩ := is_v (Cond.before_iff.mp (hsets _ (List.mem_of_getElem? (i := 1) rfl)))
  have hcs : ¬ cs = (0 : Int32) := gotF (Cond.eq_ints ecs (Term.int_eval 0)) (not_v (Cond.before_iff.mp (hsets _ (List.mem_of_getElem? (i := 2) rfl))))
  have SC := Sta.start ecs (Or.inl (hsets _ (List.mem_of_getElem? (i := 0) rfl)))
  obtain ⟨wv, ewv, hwv⟩ := isR_v (Cond.before_iff.mp (hsets _ (List.mem_of_getElem? (i := 8) rfl)))
  have SF := Sta.start ewv (Or.inl (hsets _ (List.mem_of_getElem? (i := 7) rfl)))
  obtain ⟨n, o, h1, h2, h3, _, L, rfl, ⟨rfl, N⟩, hq⟩ := rm_law l s _ hw tables_1 i0 i1 cs wv s.heap s.heap.size (Nat.le_refl _) SC hcs SF hwv p e ha hc hk s m _ below hf ((Spec.applies_iff_loose hf).mp happ).1 ⟨rfl, State.Warmed39.refl s, rfl, HC0⟩ trivial
  refine ⟨n, _, h1, h2, h3, hpost _ _ _ _ _ _ ⟨Cond.after_iff.mpr rfl, Cond.after_iff.mpr (eq_i res_at (Term.int_eval (1)) rfl), trivial⟩ ⟨hq.1, hq.2.1, hq.2.2.1, (hq.2.2.2.sift fun y hy => Or.inr (N y hy)).mono (by decide) (by decide)⟩⟩
theorem main_1_1 : Claimed_1_1 := comes_1 fun _ _ _ _ _ _ h hF => ⟨h.1, hF⟩
theorem main_1_2 : Claimed_1_2 := comes_1 fun _ _ _ _ _ _ h hF => ⟨h.2.1, hF⟩
end Jvm.Pilot.@@N@@
namespace Jvm.Pilot.@@N@@
open Jvm Jvm.ClassFile Sem Op Lib Jvm.Free Jvm.Stand Jvm.Pilot.@@N@@.Jvm.D
/-! MADE BY PROGRAM (witnessworld.py) out of the Statement's table words and the real class files: 17 classes; the members and pool entries that the words name. The judged class is class 1, her method 1. -/
namespace start1
open Jvm.ClassFile
def u (s : String) : CpInfo := .utf8 (stringToUtf16 s)
/-- a pool by its gaps: so many unusable entries, then the entry; so many at the end -/
def gap : Nat → List CpInfo → List CpInfo
  | 0, r => r
  | n + 1, r => .unusable :: gap n r
def poolList (es : List (Nat × CpInfo)) (last : Nat) : List CpInfo := es.foldr (fun e r => gap e.1 (e.2 :: r)) (gap last [])
def pool (es : List (Nat × CpInfo)) (last : Nat) : Array CpInfo := ⟨poolList es last⟩
def fileOf (pool : Array CpInfo) (this : Nat) (attrs : Array Attribute := #[]) (ms : Array MethodInfo := #[]) (fl : Nat := 33) (sup : Nat := 0) (ifs : Array Nat := #[]) (fds : Array FieldInfo := #[]) : ClassFile where
  minorVersion := 0
  majorVersion := 65
  constantPool := pool
  accessFlags := fl
  thisClass := this
  superClass := sup
  interfaces := ifs
  fields := fds
  methods := ms
  attributes := attrs
def plain (name : String) (sup : Option ClassId) : Class where
  name := name
  kind := .ordinary
  loader := none
  accessFlags := 33
  super := sup
  interfaces := #[]
  cf := none
  fields := #[]
  methods := #[]
  instanceTypes := #[]
  staticTypes := #[]
  resolved := #[]
  callSites := []
  init := .initialized
  statics := none
  mirror := none

def pool0 : Array CpInfo := pool [(5, u "<init>"), (0, u "()V"), (1, .class_ 10), (1, u "java/lang/Object")] 113

def k0m0 : Method := { name := "<init>", desc := "()V", sig := { parameters := [], returnType := none }, accessFlags := 1, code := none }
/-- java/lang/Object -/
def k0 : Class := { plain "java/lang/Object" none with
  accessFlags := 33
  interfaces := #[]
  cf := some (fileOf pool0 8 #[] #[{ accessFlags := 1, nameIndex := 5, descriptorIndex := 6, attributes := #[] }] 33 0 #[] #[])
  fields := #[]
  methods := #[k0m0]
  instanceTypes := #[]
  staticTypes := #[]
  resolved := Array.replicate 124 none
  statics := none }

def pool1 : Array CpInfo := pool [(2, .class_ 4), (1, u "java/lang/Object"), (0, u "<init>"), (0, u "()V"), (0, .methodref 8 9), (0, .class_ 10), (0, .nameAndType 11 12), (0, u "com/example/railhead/railhead/io/HexText"), (0, u "digitValue"), (0, u "(C)I"), (0, .string 14), (0, u "0123456789abcdef"), (0, .methodref 16 17), (0, .class_ 18), (0, .nameAndType 19 20), (0, u "java/lang/String"), (0, u "charAt"), (0, u "(I)C"), (0, .string 22), (0, u "0123456789ABCDEF"), (0, .class_ 24), (0, u "com/example/railhead/railhead/io/HexTextDigitValuePinLaw"), (2, u "law"), (0, u "(II)Z")] 3

def k1m0 : Method := { name := "<init>", desc := "()V", sig := { parameters := [], returnType := none }, accessFlags := 2, code := none }
def k1c1 : Code := { maxStack := 2, maxLocals := 7, code := code, exceptionTable := #[], attributes := #[] }
def k1m1 : Method := { name := "law", desc := "(II)Z", sig := { parameters := [.int, .int], returnType := some .boolean }, accessFlags := 9, code := some k1c1 }
/-- com/example/railhead/railhead/io/HexTextDigitValuePinLaw -/
def k1 : Class := { plain "com/example/railhead/railhead/io/HexTextDigitValuePinLaw" (some 0) with
  accessFlags := 49
  interfaces := #[]
  cf := some (fileOf pool1 23 #[] #[{ accessFlags := 2, nameIndex := 5, descriptorIndex := 6, attributes := #[] }, { accessFlags := 9, nameIndex := 27, descriptorIndex := 28, attributes := #[] }] 49 2 #[] #[])
  fields := #[]
  methods := #[k1m0, k1m1]
  instanceTypes := #[]
  staticTypes := #[]
  resolved := Array.replicate 32 none
  statics := none }

def pool2 : Array CpInfo := pool [(2, .class_ 4), (1, u "java/lang/Object"), (0, u "<init>"), (0, u "()V"), (9, .class_ 18), (1, u "com/example/railhead/railhead/io/HexText"), (64, u "digitValue"), (0, u "(C)I"), (27, u "DIGITS"), (0, u "[C"), (8, u "PAIRS_PER_LINE"), (0, u "I"), (2, u "DIGIT"), (0, u "Ljava/lang/String;")] 34

def k2m0 : Method := { name := "<init>", desc := "()V", sig := { parameters := [], returnType := none }, accessFlags := 2, code := none }
def k2c1 : Code := { maxStack := 2, maxLocals := 1, code := prog_32_method_8_code, exceptionTable := #[], attributes := #[] }
def k2m1 : Method := { name := "digitValue", desc := "(C)I", sig := { parameters := [.char], returnType := some .int }, accessFlags := 8, code := some k2c1 }
/-- com/example/railhead/railhead/io/HexText -/
def k2 : Class := { plain "com/example/railhead/railhead/io/HexText" (some 0) with
  accessFlags := 49
  interfaces := #[]
  cf := some (fileOf pool2 16 #[] #[{ accessFlags := 2, nameIndex := 5, descriptorIndex := 6, attributes := #[] }, { accessFlags := 8, nameIndex := 83, descriptorIndex := 84, attributes := #[] }] 49 2 #[] #[{ accessFlags := 26, nameIndex := 122, descriptorIndex := 123, attributes := #[] }, { accessFlags := 26, nameIndex := 112, descriptorIndex := 113, attributes := #[] }, { accessFlags := 26, nameIndex := 126, descriptorIndex := 127, attributes := #[] }])
  fields := #[{ name := "PAIRS_PER_LINE", type := .int, accessFlags := 26, slot := 0, constantValue := 0 }, { name := "DIGITS", type := (.array .char), accessFlags := 26, slot := 1, constantValue := 0 }, { name := "DIGIT", type := (.object "java/lang/String"), accessFlags := 26, slot := 2, constantValue := 0 }]
  methods := #[k2m0, k2m1]
  instanceTypes := #[]
  staticTypes := #[.int, (.array .char), (.object "java/lang/String")]
  resolved := Array.replicate 162 none
  statics := none }

def pool3 : Array CpInfo := pool [(1, .class_ 2), (0, u "java/io/Serializable"), (0, .class_ 4), (0, u "java/lang/Object")] 2

/-- java/io/Serializable -/
def k3 : Class := { plain "java/io/Serializable" (some 0) with
  accessFlags := 1537
  interfaces := #[]
  cf := some (fileOf pool3 1 #[] #[] 1537 3 #[] #[])
  fields := #[]
  methods := #[]
  instanceTypes := #[]
  staticTypes := #[]
  resolved := Array.replicate 7 none
  statics := none }

def pool4 : Array CpInfo := pool [(1, .class_ 2), (0, u "java/lang/Comparable"), (0, .class_ 4), (0, u "java/lang/Object")] 7

/-- java/lang/Comparable -/
def k4 : Class := { plain "java/lang/Comparable" (some 0) with
  accessFlags := 1537
  interfaces := #[]
  cf := some (fileOf pool4 1 #[] #[] 1537 3 #[] #[])
  fields := #[]
  methods := #[]
  instanceTypes := #[]
  staticTypes := #[]
  resolved := Array.replicate 12 none
  statics := none }

def pool5 : Array CpInfo := pool [(2, .class_ 4), (1, u "java/lang/CharSequence"), (42, .class_ 48), (0, u "java/lang/CharSequence$1CodePointIterator"), (10, .class_ 60), (0, u "java/lang/CharSequence$1CharIterator"), (5, .class_ 67), (0, u "java/lang/Object")] 63

/-- java/lang/CharSequence -/
def k5 : Class := { plain "java/lang/CharSequence" (some 0) with
  accessFlags := 1537
  interfaces := #[]
  cf := some (fileOf pool5 2 #[.nestMembers #[47, 59]] #[] 1537 66 #[] #[])
  fields := #[]
  methods := #[]
  instanceTypes := #[]
  staticTypes := #[]
  resolved := Array.replicate 131 none
  statics := none }

def pool6 : Array CpInfo := pool [(1, .class_ 2), (0, u "java/lang/constant/Constable"), (0, .class_ 4), (0, u "java/lang/Object")] 6

/-- java/lang/constant/Constable -/
def k6 : Class := { plain "java/lang/constant/Constable" (some 0) with
  accessFlags := 1537
  interfaces := #[]
  cf := some (fileOf pool6 1 #[] #[] 1537 3 #[] #[])
  fields := #[]
  methods := #[]
  instanceTypes := #[]
  staticTypes := #[]
  resolved := Array.replicate 11 none
  statics := none }

def pool7 : Array CpInfo := pool [(1, .class_ 2), (0, u "java/lang/constant/ConstantDesc"), (0, .class_ 4), (0, u "java/lang/Object")] 32

/-- java/lang/constant/ConstantDesc -/
def k7 : Class := { plain "java/lang/constant/ConstantDesc" (some 0) with
  accessFlags := 1537
  interfaces := #[]
  cf := some (fileOf pool7 1 #[] #[] 1537 3 #[] #[])
  fields := #[]
  methods := #[]
  instanceTypes := #[]
  staticTypes := #[]
  resolved := Array.replicate 37 none
  statics := none }

def pool8 : Array CpInfo := pool [(2, .class_ 4), (1, u "java/lang/Object"), (0, u "<init>"), (0, u "()V"), (2, .fieldref 10 11), (0, .class_ 12), (0, .nameAndType 13 14), (0, u "java/lang/String"), (0, u "value"), (0, u "[B"), (0, .fieldref 10 16), (0, .nameAndType 17 18), (0, u "coder"), (0, u "B"), (2, u "hash"), (0, u "I"), (2, u "hashIsZero"), (0, u "Z"), (11, .fieldref 10 39), (0, .nameAndType 40 26), (0, u "COMPACT_STRINGS"), (66, .class_ 109), (1, u "java/lang/StringLatin1"), (32, u "()Z"), (220, u "([BI)C"), (27, u "(II)V"), (35, u "(I)C"), (64, .methodref 10 493), (0, .nameAndType 494 142), (0, u "isLatin1"), (0, .methodref 107 496), (0, .nameAndType 497 363), (0, u "charAt"), (3, u "checkIndex"), (73, .class_ 576), (0, u "java/lang/CharSequence"), (22, u "CASE_INSENSITIVE_ORDER"), (0, u "Ljava/util/Comparator;"), (452, .fieldref 1054 1055), (0, .class_ 1056), (0, .nameAndType 1057 1058), (0, u "jdk/internal/util/Preconditions"), (0, u "SIOOBE_FORMATTER"), (0, u "Ljava/util/function/BiFunction;"), (0, .methodref 1054 1060), (0, .nameAndType 501 1061), (0, u "(IILjava/util/function/BiFunction;)I"), (39, u "serialPersistentFields"), (0, u "[Ljava/io/ObjectStreamField;"), (0, .class_ 1104), (0, u "java/lang/String$CaseInsensitiveComparator"), (1, .class_ 1107), (0, u "java/io/Serializable"), (0, .class_ 1109), (0, u "java/lang/Comparable"), (0, .class_ 1111), (0, u "java/lang/constant/Constable"), (0, .class_ 1113), (0, u "java/lang/constant/ConstantDesc"), (2, u "serialVersionUID"), (0, u "J"), (3, u "REPL"), (0, u "C"), (2, u "LATIN1"), (1, u "UTF16")] 323

def k8m0 : Method := { name := "<init>", desc := "()V", sig := { parameters := [], returnType := none }, accessFlags := 1, code := none }
def k8c1 : Code := { maxStack := 2, maxLocals := 2, code := jdk_42_method_56_code, exceptionTable := #[], attributes := #[] }
def k8m1 : Method := { name := "charAt", desc := "(I)C", sig := { parameters := [.int], returnType := some .char }, accessFlags := 1, code := some k8c1 }
def k8c2 : Code := { maxStack := 1, maxLocals := 1, code := jdk_42_method_154_code, exceptionTable := #[], attributes := #[] }
def k8m2 : Method := { name := "isLatin1", desc := "()Z", sig := { parameters := [], returnType := some .boolean }, accessFlags := 0, code := some k8c2 }
def k8c3 : Code := { maxStack := 3, maxLocals := 2, code := jdk_42_method_155_code, exceptionTable := #[], attributes := #[] }
def k8m3 : Method := { name := "checkIndex", desc := "(II)V", sig := { parameters := [.int, .int], returnType := none }, accessFlags := 8, code := some k8c3 }
/-- java/lang/String -/
def k8 : Class := { plain "java/lang/String" (some 0) with
  accessFlags := 49
  interfaces := #[3, 4, 5, 6, 7]
  cf := some (fileOf pool8 10 #[.nestMembers #[1103]] #[{ accessFlags := 1, nameIndex := 5, descriptorIndex := 6, attributes := #[] }, { accessFlags := 1, nameIndex := 497, descriptorIndex := 427, attributes := #[] }, { accessFlags := 0, nameIndex := 494, descriptorIndex := 142, attributes := #[] }, { accessFlags := 8, nameIndex := 501, descriptorIndex := 391, attributes := #[] }] 49 2 #[1106, 1108, 575, 1110, 1112] #[{ accessFlags := 18, nameIndex := 13, descriptorIndex := 14, attributes := #[] }, { accessFlags := 18, nameIndex := 17, descriptorIndex := 18, attributes := #[] }, { accessFlags := 2, nameIndex := 21, descriptorIndex := 22, attributes := #[] }, { accessFlags := 2, nameIndex := 25, descriptorIndex := 26, attributes := #[] }, { accessFlags := 26, nameIndex := 1116, descriptorIndex := 1117, attributes := #[] }, { accessFlags := 24, nameIndex := 40, descriptorIndex := 26, attributes := #[] }, { accessFlags := 26, nameIndex := 1101, descriptorIndex := 1102, attributes := #[] }, { accessFlags := 26, nameIndex := 1121, descriptorIndex := 1122, attributes := #[] }, { accessFlags := 25, nameIndex := 599, descriptorIndex := 600, attributes := #[] }, { accessFlags := 24, nameIndex := 1125, descriptorIndex := 18, attributes := #[] }, { accessFlags := 24, nameIndex := 1127, descriptorIndex := 18, attributes := #[] }])
  fields := #[{ name := "value", type := (.array .byte), accessFlags := 18, slot := 0, constantValue := 0 }, { name := "coder", type := .byte, accessFlags := 18, slot := 1, constantValue := 0 }, { name := "hash", type := .int, accessFlags := 2, slot := 2, constantValue := 0 }, { name := "hashIsZero", type := .boolean, accessFlags := 2, slot := 3, constantValue := 0 }, { name := "serialVersionUID", type := .long, accessFlags := 26, slot := 0, constantValue := 0 }, { name := "COMPACT_STRINGS", type := .boolean, accessFlags := 24, slot := 1, constantValue := 0 }, { name := "serialPersistentFields", type := (.array (.object "java/io/ObjectStreamField")), accessFlags := 26, slot := 2, constantValue := 0 }, { name := "REPL", type := .char, accessFlags := 26, slot := 3, constantValue := 0 }, { name := "CASE_INSENSITIVE_ORDER", type := (.object "java/util/Comparator"), accessFlags := 25, slot := 4, constantValue := 0 }, { name := "LATIN1", type := .byte, accessFlags := 24, slot := 5, constantValue := 0 }, { name := "UTF16", type := .byte, accessFlags := 24, slot := 6, constantValue := 0 }]
  methods := #[k8m0, k8m1, k8m2, k8m3]
  instanceTypes := #[(.array .byte), .byte, .int, .boolean]
  staticTypes := #[.long, .boolean, (.array (.object "java/io/ObjectStreamField")), .char, (.object "java/util/Comparator"), .byte, .byte]
  resolved := Array.replicate 1451 none
  statics := some 0 }

def pool9 : Array CpInfo := pool [(1, .class_ 2), (0, u "java/lang/String"), (1, .class_ 6), (1, u "java/lang/Object"), (0, u "<init>"), (0, u "()V"), (0, .methodref 1 10), (0, .nameAndType 11 12), (0, u "checkIndex"), (0, u "(II)V"), (1, .class_ 16), (1, u "java/lang/StringLatin1"), (36, u "([BI)C"), (67, u "$assertionsDisabled"), (0, u "Z"), (98, .class_ 223), (1, u "java/lang/StringLatin1$LinesSpliterator"), (28, u "charAt"), (137, .class_ 391), (0, u "java/lang/StringLatin1$CharsSpliterator")] 3

def k9m0 : Method := { name := "<init>", desc := "()V", sig := { parameters := [], returnType := none }, accessFlags := 0, code := none }
def k9c1 : Code := { maxStack := 2, maxLocals := 2, code := jdk_43_method_2_code, exceptionTable := #[], attributes := #[] }
def k9m1 : Method := { name := "charAt", desc := "([BI)C", sig := { parameters := [(.array .byte), .int], returnType := some .char }, accessFlags := 9, code := some k9c1 }
/-- java/lang/StringLatin1 -/
def k9 : Class := { plain "java/lang/StringLatin1" (some 0) with
  accessFlags := 48
  interfaces := #[]
  cf := some (fileOf pool9 14 #[.nestMembers #[390, 221]] #[{ accessFlags := 0, nameIndex := 7, descriptorIndex := 8, attributes := #[] }, { accessFlags := 9, nameIndex := 252, descriptorIndex := 53, attributes := #[] }] 48 4 #[] #[{ accessFlags := 4120, nameIndex := 121, descriptorIndex := 122, attributes := #[] }])
  fields := #[{ name := "$assertionsDisabled", type := .boolean, accessFlags := 4120, slot := 0, constantValue := 0 }]
  methods := #[k9m0, k9m1]
  instanceTypes := #[]
  staticTypes := #[.boolean]
  resolved := Array.replicate 395 none
  statics := none }

def pool10 : Array CpInfo := pool [(2, .class_ 4), (1, u "java/lang/Object"), (0, u "<init>"), (0, u "()V"), (17, .class_ 26), (1, u "jdk/internal/util/Preconditions"), (6, u "checkIndex"), (21, .class_ 56), (0, u "jdk/internal/util/Preconditions$4"), (57, .class_ 115), (0, u "jdk/internal/util/Preconditions$1"), (7, u "SIOOBE_FORMATTER"), (0, u "Ljava/util/function/BiFunction;"), (0, .class_ 126), (0, u "jdk/internal/util/Preconditions$2"), (3, u "AIOOBE_FORMATTER"), (0, .class_ 132), (0, u "jdk/internal/util/Preconditions$3"), (3, u "IOOBE_FORMATTER"), (41, u "(IILjava/util/function/BiFunction;)I")] 15

def k10m0 : Method := { name := "<init>", desc := "()V", sig := { parameters := [], returnType := none }, accessFlags := 1, code := none }
def k10c1 : Code := { maxStack := 3, maxLocals := 3, code := jdk_41_method_11_code, exceptionTable := #[], attributes := #[] }
def k10m1 : Method := { name := "checkIndex", desc := "(IILjava/util/function/BiFunction;)I", sig := { parameters := [.int, .int, (.object "java/util/function/BiFunction")], returnType := some .int }, accessFlags := 9, code := some k10c1 }
/-- jdk/internal/util/Preconditions -/
def k10 : Class := { plain "jdk/internal/util/Preconditions" (some 0) with
  accessFlags := 33
  interfaces := #[]
  cf := some (fileOf pool10 24 #[.nestMembers #[55, 131, 125, 114]] #[{ accessFlags := 1, nameIndex := 5, descriptorIndex := 6, attributes := #[] }, { accessFlags := 9, nameIndex := 33, descriptorIndex := 178, attributes := #[] }] 33 2 #[] #[{ accessFlags := 25, nameIndex := 123, descriptorIndex := 124, attributes := #[] }, { accessFlags := 25, nameIndex := 130, descriptorIndex := 124, attributes := #[] }, { accessFlags := 25, nameIndex := 136, descriptorIndex := 124, attributes := #[] }])
  fields := #[{ name := "SIOOBE_FORMATTER", type := (.object "java/util/function/BiFunction"), accessFlags := 25, slot := 0, constantValue := 0 }, { name := "AIOOBE_FORMATTER", type := (.object "java/util/function/BiFunction"), accessFlags := 25, slot := 1, constantValue := 0 }, { name := "IOOBE_FORMATTER", type := (.object "java/util/function/BiFunction"), accessFlags := 25, slot := 2, constantValue := 0 }]
  methods := #[k10m0, k10m1]
  instanceTypes := #[]
  staticTypes := #[(.object "java/util/function/BiFunction"), (.object "java/util/function/BiFunction"), (.object "java/util/function/BiFunction")]
  resolved := Array.replicate 194 none
  statics := some 1 }

def pool11 : Array CpInfo := pool [(9, u "<init>"), (6, .class_ 18), (1, u "java/lang/Object"), (0, u "()V"), (1, .class_ 23), (1, u "jdk/internal/util/ArraysSupport"), (0, u "LOG2_ARRAY_LONG_INDEX_SCALE"), (0, u "I"), (2, u "U"), (0, u "Ljdk/internal/misc/Unsafe;"), (8, u "BIG_ENDIAN"), (0, u "Z"), (8, u "LOG2_BYTE_BIT_SIZE"), (4, u "LOG2_ARRAY_INT_INDEX_SCALE"), (54, u "JLA"), (0, u "Ljdk/internal/access/JavaLangAccess;"), (11, u "LOG2_ARRAY_BOOLEAN_INDEX_SCALE"), (9, u "LOG2_ARRAY_BYTE_INDEX_SCALE"), (5, u "LOG2_ARRAY_CHAR_INDEX_SCALE"), (5, u "LOG2_ARRAY_SHORT_INDEX_SCALE"), (18, u "LOG2_ARRAY_FLOAT_INDEX_SCALE"), (24, u "LOG2_ARRAY_DOUBLE_INDEX_SCALE"), (89, u "T_BOOLEAN"), (2, u "T_CHAR"), (1, u "T_FLOAT"), (1, u "T_DOUBLE"), (1, u "T_BYTE"), (1, u "T_SHORT"), (1, u "T_INT"), (1, u "T_LONG"), (1, u "SOFT_MAX_ARRAY_LENGTH")] 83

def k11m0 : Method := { name := "<init>", desc := "()V", sig := { parameters := [], returnType := none }, accessFlags := 2, code := none }
/-- jdk/internal/util/ArraysSupport -/
def k11 : Class := { plain "jdk/internal/util/ArraysSupport" (some 0) with
  accessFlags := 33
  interfaces := #[]
  cf := some (fileOf pool11 21 #[] #[{ accessFlags := 2, nameIndex := 9, descriptorIndex := 19, attributes := #[] }] 33 16 #[] #[{ accessFlags := 24, nameIndex := 28, descriptorIndex := 29, attributes := #[] }, { accessFlags := 26, nameIndex := 38, descriptorIndex := 39, attributes := #[] }, { accessFlags := 25, nameIndex := 121, descriptorIndex := 25, attributes := #[] }, { accessFlags := 25, nameIndex := 131, descriptorIndex := 25, attributes := #[] }, { accessFlags := 25, nameIndex := 137, descriptorIndex := 25, attributes := #[] }, { accessFlags := 25, nameIndex := 143, descriptorIndex := 25, attributes := #[] }, { accessFlags := 25, nameIndex := 53, descriptorIndex := 25, attributes := #[] }, { accessFlags := 25, nameIndex := 24, descriptorIndex := 25, attributes := #[] }, { accessFlags := 25, nameIndex := 162, descriptorIndex := 25, attributes := #[] }, { accessFlags := 25, nameIndex := 187, descriptorIndex := 25, attributes := #[] }, { accessFlags := 26, nameIndex := 48, descriptorIndex := 25, attributes := #[] }, { accessFlags := 25, nameIndex := 277, descriptorIndex := 25, attributes := #[] }, { accessFlags := 25, nameIndex := 280, descriptorIndex := 25, attributes := #[] }, { accessFlags := 25, nameIndex := 282, descriptorIndex := 25, attributes := #[] }, { accessFlags := 25, nameIndex := 284, descriptorIndex := 25, attributes := #[] }, { accessFlags := 25, nameIndex := 286, descriptorIndex := 25, attributes := #[] }, { accessFlags := 25, nameIndex := 288, descriptorIndex := 25, attributes := #[] }, { accessFlags := 25, nameIndex := 290, descriptorIndex := 25, attributes := #[] }, { accessFlags := 25, nameIndex := 292, descriptorIndex := 25, attributes := #[] }, { accessFlags := 26, nameIndex := 108, descriptorIndex := 109, attributes := #[] }, { accessFlags := 25, nameIndex := 294, descriptorIndex := 25, attributes := #[] }])
  fields := #[{ name := "U", type := (.object "jdk/internal/misc/Unsafe"), accessFlags := 24, slot := 0, constantValue := 0 }, { name := "BIG_ENDIAN", type := .boolean, accessFlags := 26, slot := 1, constantValue := 0 }, { name := "LOG2_ARRAY_BOOLEAN_INDEX_SCALE", type := .int, accessFlags := 25, slot := 2, constantValue := 0 }, { name := "LOG2_ARRAY_BYTE_INDEX_SCALE", type := .int, accessFlags := 25, slot := 3, constantValue := 0 }, { name := "LOG2_ARRAY_CHAR_INDEX_SCALE", type := .int, accessFlags := 25, slot := 4, constantValue := 0 }, { name := "LOG2_ARRAY_SHORT_INDEX_SCALE", type := .int, accessFlags := 25, slot := 5, constantValue := 0 }, { name := "LOG2_ARRAY_INT_INDEX_SCALE", type := .int, accessFlags := 25, slot := 6, constantValue := 0 }, { name := "LOG2_ARRAY_LONG_INDEX_SCALE", type := .int, accessFlags := 25, slot := 7, constantValue := 0 }, { name := "LOG2_ARRAY_FLOAT_INDEX_SCALE", type := .int, accessFlags := 25, slot := 8, constantValue := 0 }, { name := "LOG2_ARRAY_DOUBLE_INDEX_SCALE", type := .int, accessFlags := 25, slot := 9, constantValue := 0 }, { name := "LOG2_BYTE_BIT_SIZE", type := .int, accessFlags := 26, slot := 10, constantValue := 0 }, { name := "T_BOOLEAN", type := .int, accessFlags := 25, slot := 11, constantValue := 0 }, { name := "T_CHAR", type := .int, accessFlags := 25, slot := 12, constantValue := 0 }, { name := "T_FLOAT", type := .int, accessFlags := 25, slot := 13, constantValue := 0 }, { name := "T_DOUBLE", type := .int, accessFlags := 25, slot := 14, constantValue := 0 }, { name := "T_BYTE", type := .int, accessFlags := 25, slot := 15, constantValue := 0 }, { name := "T_SHORT", type := .int, accessFlags := 25, slot := 16, constantValue := 0 }, { name := "T_INT", type := .int, accessFlags := 25, slot := 17, constantValue := 0 }, { name := "T_LONG", type := .int, accessFlags := 25, slot := 18, constantValue := 0 }, { name := "JLA", type := (.object "jdk/internal/access/JavaLangAccess"), accessFlags := 26, slot := 19, constantValue := 0 }, { name := "SOFT_MAX_ARRAY_LENGTH", type := .int, accessFlags := 25, slot := 20, constantValue := 0 }]
  methods := #[k11m0]
  instanceTypes := #[]
  staticTypes := #[(.object "jdk/internal/misc/Unsafe"), .boolean, .int, .int, .int, .int, .int, .int, .int, .int, .int, .int, .int, .int, .int, .int, .int, .int, .int, (.object "jdk/internal/access/JavaLangAccess"), .int]
  resolved := Array.replicate 378 none
  statics := none }

def pool12 : Array CpInfo := pool [(1, u "java/lang/Cloneable"), (0, .class_ 1), (0, u "java/lang/Object"), (0, .class_ 3)] 3

/-- java/lang/Cloneable -/
def k12 : Class := { plain "java/lang/Cloneable" (some 0) with
  accessFlags := 1537
  interfaces := #[]
  cf := some (fileOf pool12 2 #[] #[] 1537 4 #[] #[])
  fields := #[]
  methods := #[]
  instanceTypes := #[]
  staticTypes := #[]
  resolved := Array.replicate 8 none
  statics := none }

/-- the primitive byte -/
def k13 : Class := { plain "byte" none with kind := .primitive 'B', accessFlags := 0x411 }
/-- [B -/
def k14 : Class := { plain "[B" (some 0) with kind := .array 13 .byte, interfaces := #[12, 3], accessFlags := 1041 }

/-- the primitive int -/
def k15 : Class := { plain "int" none with kind := .primitive 'I', accessFlags := 0x411 }
/-- [I -/
def k16 : Class := { plain "[I" (some 0) with kind := .array 15 .int, interfaces := #[12, 3], accessFlags := 1041 }

def heap : Heap := #[{ cls := 8, slots := #[.long 0, .int 1, .null, .int 0, .null, .int 0, .int 0], vm := .statics 8 },
  { cls := 10, slots := #[.null, .null, .null], vm := .statics 10 }]
def classes : Array Class := #[k0, k1, k2, k3, k4, k5, k6, k7, k8, k9, k10, k11, k12, k13, k14, k15, k16]
def interned : List (Array UInt16 × Addr) := []
def slotsUsed : Nat := 10
def theMethod : MethodId := ⟨1, 1⟩
def args0 : Array Value := #[.int 97, .int 5]
def aboutOver (below : List Frame) : State where
  vm := { classes := classes, interned := interned.toArray }
  heap := heap
  slotsUsed := slotsUsed
  threads := #[{ frames := .invoking theMethod args0 :: below }]
def below0 : List Frame := [.native { method := ⟨0, 0⟩, args := #[] }]
def about1 : State := aboutOver below0
def p0 : Program := .bare "" "" ""
def e0 : Env := launch0.env 0 0 0
theorem w_frames : about1.frames = Frame.invoking theMethod args0 :: below0 := rfl
set_option maxRecDepth 65536 in
theorem w_args : argsFit about1.vm theMethod args0 = true := by decide +kernel
set_option maxRecDepth 65536 in
theorem w_heap : heapFits about1 = true := by decide +kernel
set_option maxRecDepth 65536 in
theorem w_runnable : about1.curStatus? = some .runnable := by decide +kernel
set_option maxRecDepth 65536 in
theorem w_alone : about1.alone = true := by decide +kernel
set_option maxRecDepth 65536 in
theorem w_named : about1.methodNamed? x = some theMethod := by decide +kernel
set_option maxRecDepth 65536 in
theorem w_hears : about1.hears theMethod below0 = true := by decide +kernel
set_option maxRecDepth 65536 in
theorem w_ripe : about1.ripe theMethod args0 below0 = true := by decide +kernel
theorem w_running : about1.status = .running := rfl
set_option maxRecDepth 65536 in
theorem w_room : about1.hasRoom e0.platform room_1 = true :=
  launch0.hasRoom_least _ room_1 (by decide +kernel) (by decide +kernel) (by decide +kernel) (by decide +kernel) (by decide +kernel) (by decide +kernel)
theorem allAtoms_all (ts : List Jvm.Cond) (a : Array Jvm.Value) (st : Jvm.State) : (allAtoms ts).before a st = ts.all (fun c => c.before a st) := by
  induction ts with
  | nil => rfl
  | cons c t ih =>
    show (Jvm.Cond.and c (allAtoms t)).before a st = _
    rw [Jvm.Cond.before_and, ih, List.all_cons]
def words1 : List Jvm.Cond := Jvm.Cond.code x code maxLocals ret :: tables_1
/-- a 'code' word, met by the world's own term for the bytes: nothing is compared byte by byte -/
theorem code_word {y : MethodName} {bytes : ByteArray} {mx : Nat} {rt : Option FieldType} {a : Array Value} {s : State} {m : MethodId} {meth : Method} {c : Code} (h1 : s.methodNamed? y = some m) (h2 : s.vm.method? m = some meth) (h3 : meth.code = some c) (h4 : c.code = bytes)
    (h5 : (c.maxLocals == mx && c.exceptionTable.isEmpty && decide (c.maxStack ≤ mostOperands) && decide (meth.sig.returnType = rt) && !meth.locks && decide (parseMethodDescriptor y.desc = some meth.sig)) = true) : (Jvm.Cond.code y bytes mx rt).before a s = true := by
  simp only [Bool.and_eq_true, beq_iff_eq, Bool.not_eq_true', decide_eq_true_eq] at h5
  obtain ⟨⟨⟨⟨⟨g1, g2⟩, g3⟩, g4⟩, g5⟩, g6⟩ := h5
  simp [Cond.before, Cond.holds, Cond.value, h1, h2, h3, h4, g1, g2, g3, g4, g5, g6]
def isCode : Jvm.Cond → Bool
  | .code _ _ _ _ => true
  | _ => false
theorem all_split {L : List Jvm.Cond} {P : Jvm.Cond → Bool} (h1 : L.all (fun c => isCode c || P c) = true) (h2 : ∀ c ∈ L.filter isCode, P c = true) : L.all P = true := by
  refine List.all_eq_true.mpr fun c hc => ?_
  have h := List.all_eq_true.mp h1 c hc
  rcases Bool.eq_false_or_eq_true (isCode c) with hi | hi
  · exact h2 c (List.mem_filter.mpr ⟨hc, hi⟩)
  · simpa [hi] using h
set_option maxRecDepth 65536 in
theorem w_c0 : (Jvm.Cond.code x code maxLocals ret).before args0 about1 = true := code_word (m := ⟨1, 1⟩) (meth := k1m1) (c := k1c1) (by decide +kernel) rfl rfl rfl (by decide +kernel)
set_option maxRecDepth 65536 in
theorem w_c1 : (Jvm.Cond.code ({ cls := "com/example/railhead/railhead/io/HexText", name := "digitValue", desc := "(C)I" } : Jvm.MethodName) prog_32_method_8_code (1 : Nat) (Option.some Jvm.ClassFile.FieldType.int)).before args0 about1 = true := code_word (m := ⟨2, 1⟩) (meth := k2m1) (c := k2c1) (by decide +kernel) rfl rfl rfl (by decide +kernel)
set_option maxRecDepth 65536 in
theorem w_c2 : (Jvm.Cond.code ({ cls := "java/lang/String", name := "charAt", desc := "(I)C" } : Jvm.MethodName) jdk_42_method_56_code (2 : Nat) (Option.some Jvm.ClassFile.FieldType.char)).before args0 about1 = true := code_word (m := ⟨8, 1⟩) (meth := k8m1) (c := k8c1) (by decide +kernel) rfl rfl rfl (by decide +kernel)
set_option maxRecDepth 65536 in
theorem w_c3 : (Jvm.Cond.code ({ cls := "java/lang/String", name := "isLatin1", desc := "()Z" } : Jvm.MethodName) jdk_42_method_154_code (1 : Nat) (Option.some Jvm.ClassFile.FieldType.boolean)).before args0 about1 = true := code_word (m := ⟨8, 2⟩) (meth := k8m2) (c := k8c2) (by decide +kernel) rfl rfl rfl (by decide +kernel)
set_option maxRecDepth 65536 in
theorem w_c4 : (Jvm.Cond.code ({ cls := "java/lang/StringLatin1", name := "charAt", desc := "([BI)C" } : Jvm.MethodName) jdk_43_method_2_code (2 : Nat) (Option.some Jvm.ClassFile.FieldType.char)).before args0 about1 = true := code_word (m := ⟨9, 1⟩) (meth := k9m1) (c := k9c1) (by decide +kernel) rfl rfl rfl (by decide +kernel)
set_option maxRecDepth 65536 in
theorem w_c5 : (Jvm.Cond.code ({ cls := "java/lang/String", name := "checkIndex", desc := "(II)V" } : Jvm.MethodName) jdk_42_method_155_code (2 : Nat) (Option.none : Option Jvm.ClassFile.FieldType)).before args0 about1 = true := code_word (m := ⟨8, 3⟩) (meth := k8m3) (c := k8c3) (by decide +kernel) rfl rfl rfl (by decide +kernel)
set_option maxRecDepth 65536 in
theorem w_c6 : (Jvm.Cond.code ({ cls := "jdk/internal/util/Preconditions", name := "checkIndex", desc := "(IILjava/util/function/BiFunction;)I" } : Jvm.MethodName) jdk_41_method_11_code (3 : Nat) (Option.some Jvm.ClassFile.FieldType.int)).before args0 about1 = true := code_word (m := ⟨10, 1⟩) (meth := k10m1) (c := k10c1) (by decide +kernel) rfl rfl rfl (by decide +kernel)
def codes1 : List Jvm.Cond := [Jvm.Cond.code x code maxLocals ret, Jvm.Cond.code ({ cls := "com/example/railhead/railhead/io/HexText", name := "digitValue", desc := "(C)I" } : Jvm.MethodName) prog_32_method_8_code (1 : Nat) (Option.some Jvm.ClassFile.FieldType.int), Jvm.Cond.code ({ cls := "java/lang/String", name := "charAt", desc := "(I)C" } : Jvm.MethodName) jdk_42_method_56_code (2 : Nat) (Option.some Jvm.ClassFile.FieldType.char), Jvm.Cond.code ({ cls := "java/lang/String", name := "isLatin1", desc := "()Z" } : Jvm.MethodName) jdk_42_method_154_code (1 : Nat) (Option.some Jvm.ClassFile.FieldType.boolean), Jvm.Cond.code ({ cls := "java/lang/StringLatin1", name := "charAt", desc := "([BI)C" } : Jvm.MethodName) jdk_43_method_2_code (2 : Nat) (Option.some Jvm.ClassFile.FieldType.char), Jvm.Cond.code ({ cls := "java/lang/String", name := "checkIndex", desc := "(II)V" } : Jvm.MethodName) jdk_42_method_155_code (2 : Nat) (Option.none : Option Jvm.ClassFile.FieldType), Jvm.Cond.code ({ cls := "jdk/internal/util/Preconditions", name := "checkIndex", desc := "(IILjava/util/function/BiFunction;)I" } : Jvm.MethodName) jdk_41_method_11_code (3 : Nat) (Option.some Jvm.ClassFile.FieldType.int)]
set_option maxRecDepth 65536 in
theorem codes_eq : words1.filter isCode = codes1 := rfl
theorem w_codes : ∀ c ∈ words1.filter isCode, c.before args0 about1 = true := by
  rw [codes_eq]
  intro c hc
  simp only [codes1, List.mem_cons, List.not_mem_nil, or_false] at hc
  rcases hc with rfl | rfl | rfl | rfl | rfl | rfl | rfl
  · exact w_c0
  · exact w_c1
  · exact w_c2
  · exact w_c3
  · exact w_c4
  · exact w_c5
  · exact w_c6
set_option maxRecDepth 65536 in
theorem w_t1 : (words1.take 24).all (fun c => isCode c || c.before args0 about1) = true := by decide +kernel
set_option maxRecDepth 65536 in
theorem w_t2 : (words1.drop 24).all (fun c => isCode c || c.before args0 about1) = true := by decide +kernel
theorem w_tables : (allAtoms (Jvm.Cond.code x code maxLocals ret :: tables_1)).before args0 about1 = true := by
  rw [allAtoms_all]
  show words1.all (fun c => c.before args0 about1) = true
  refine all_split ?_ w_codes
  rw [← List.take_append_drop 24 words1, List.all_append, w_t1, w_t2]
  rfl
set_option maxRecDepth 65536 in
theorem w_rest : rest_1_c.before args0 about1 = true := by decide +kernel
set_option maxRecDepth 65536 in
theorem w_case : (Jvm.Cond.and given_1 narrow_1).before args0 about1 = true := by decide +kernel
set_option maxRecDepth 65536 in
theorem w_consts : constsHeld consts_1 about1 := Jvm.Lit.constsHeldB_iff.mp (by decide +kernel)
theorem w_applies : (headSpec (Jvm.Cond.code x code maxLocals ret :: tables_1) room_1).applies x e0.platform about1 = true :=
  (Spec.applies_iff w_frames).mpr ⟨w_running, w_runnable, w_alone, w_named, w_hears, w_ripe, w_room, w_tables⟩
theorem atStart : AtStart classFile x code maxLocals ret World_1 tables_1 room_1 Calls_1 rest_1 Pre_1 launch0 p0 e0 about1 theMethod args0 below0 :=
  ⟨lists_1, trivial, launch0.admits_env _ _ _, launch0.least_env, fairChoices_fair.cas, fairChoices_fair.clock, w_frames, w_args, w_heap, w_applies, ⟨w_consts, trivial⟩, w_rest, w_case⟩
end start1
theorem witness_1 : WitnessClaimed_1 := ⟨start1.p0, start1.e0, start1.about1, start1.theMethod, start1.args0, start1.below0, start1.atStart⟩
end Jvm.Pilot.@@N@@
