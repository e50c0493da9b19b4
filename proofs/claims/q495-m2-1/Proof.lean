import JvmDerived
import JvmDerived.Pilot.@@N@@Statement
import JvmDerived.Pilot.@@N@@Code
set_option linter.unusedVariables false
set_option linter.unusedSimpArgs false
namespace Jvm.RoadKit
open Sem ClassFile Op Lib Jvm.Stand Jvm.Free Jvm.LawKit
section OwnEnds
variable {p : Program} {l : Launch} {e : Env} {R : Room} {s : State} {m : MethodId} {args : Array Value} {below : List Frame} {meth : Method} {c : Code} {T T' : State} {locs : List Loc} {cells slots : Nat} {g g' : JFrame} {Q : Option Value → Heap → List Loc → Prop} {C N : Nat}
/-- from here (the state T, the frame g on top) the run ends, and what it leaves is Q -/
def RunsTo (p : Program) (e : Env) (below : List Frame) (s T : State) (g : JFrame) (Q : Option Value → Heap → List Loc → Prop) (C N : Nat) : Prop :=
  ∃ U o, Steps p.tables e below (T.setTop g) U ∧ U.status = .running ∧ Ended U below o ∧ ∃ v L, o = .returned v ∧ Q v U.heap L ∧ FrameEnd s o U L C N
theorem RunsTo.of (k : ∀ t, Steps p.tables e below (T'.setTop g') t → Steps p.tables e below (T.setTop g) t) (h : RunsTo p e below s T' g' Q C N) : RunsTo p e below s T g Q C N := by
  obtain ⟨U, o, k1, r⟩ := h
  exact ⟨U, o, k U k1, r⟩
theorem RunsTo.start (q : g = g') (h : RunsTo p e below s T g' Q C N) : ∃ U o, Steps p.tables e below (T.setTop g) U ∧ U.status = .running ∧ Ended U below o ∧ ∃ v L, o = .returned v ∧ Q v U.heap L ∧ FrameEnd s o U L C N := by
  subst q; exact h
theorem RunsTo.leave (X : Stand p l e R s m args below meth c T locs cells slots) {v : Option Value} (hv : meth.sig.returnType = none → v = none) (hlocks : meth.locks = false) (hq : Q v T.heap locs) (hC : cells ≤ C) (hN : slots ≤ N)
    (k : ∀ fs, (∀ (f : JFrame) (acts : List Action), f.method = m → f.locked = none → f.entered = [] → (doReturn e (T.setTop f) acts v).1 = T.setFrames fs) → Steps p.tables e below (T.setTop g) (T.setFrames fs)) : RunsTo p e below s T g Q C N := by
  obtain ⟨fs, hr, hrun, hended, hW, hsame⟩ := X.leave (v := v) hv hlocks
  exact ⟨_, _, k fs hr, hrun, hended, v, _, rfl, hq, ⟨_, rfl⟩, hW, hsame.mono hC hN⟩
theorem RunsTo.retI (X : Stand p l e R s m args below meth c T locs cells slots) (hx : p.tables.exec = Jvm.exec) {pc : Nat} {Ls : Array Slot} {z : Int32} {rest : List Value} (hret : meth.sig.returnType = some .int) (hlocks : meth.locks = false) (hd : decode c.code pc = .ok (.ireturn, 1)) (hq : Q (some (.int z)) T.heap locs) (hC : cells ≤ C) (hN : slots ≤ N) :
    RunsTo p e below s T (mkF m pc Ls (.int z :: rest)) Q C N := by
  refine RunsTo.leave X (fun h => by rw [hret] at h; cases h) hlocks hq hC hN fun fs hl => ?_
  have hm' : T.vm.method? m = some meth := X.method'
  have hn : narrow .int (.int z) = .int z := rfl
  show Steps p.tables e below (T.setTop { method := m, pc := pc, locals := Ls, stack := _ :: rest, locked := none }) _
  jvm_step X.here [X.here.top, hx, hd, hm', hret, hn]
  first | (intro acts; rw [hl _ acts rfl rfl rfl]) | rw [hl _ _ rfl rfl rfl]
  exact Steps.refl _
theorem RunsTo.retJ (X : Stand p l e R s m args below meth c T locs cells slots) (hx : p.tables.exec = Jvm.exec) {pc : Nat} {Ls : Array Slot} {z : Int64} {rest : List Value} (hret : meth.sig.returnType = some .long) (hlocks : meth.locks = false) (hd : decode c.code pc = .ok (.lreturn, 1)) (hq : Q (some (.long z)) T.heap locs) (hC : cells ≤ C) (hN : slots ≤ N) :
    RunsTo p e below s T (mkF m pc Ls (.long z :: rest)) Q C N := by
  refine RunsTo.leave X (fun h => by rw [hret] at h; cases h) hlocks hq hC hN fun fs hl => ?_
  have hm' : T.vm.method? m = some meth := X.method'
  show Steps p.tables e below (T.setTop { method := m, pc := pc, locals := Ls, stack := _ :: rest, locked := none }) _
  jvm_step X.here [X.here.top, hx, hd, hm', hret, narrow]
  first | (intro acts; rw [hl _ acts rfl rfl rfl]) | rw [hl _ _ rfl rfl rfl]
  exact Steps.refl _
theorem RunsTo.retA (X : Stand p l e R s m args below meth c T locs cells slots) (hx : p.tables.exec = Jvm.exec) {pc : Nat} {Ls : Array Slot} {z : Value} {ty : FieldType} (hret : meth.sig.returnType = some ty) (hty : ty.isReference = true) (hz : z.isRef = true) (hlocks : meth.locks = false) (hd : decode c.code pc = .ok (.areturn, 1)) (hq : Q (some z) T.heap locs) (hC : cells ≤ C) (hN : slots ≤ N) :
    RunsTo p e below s T (mkF m pc Ls [z]) Q C N :=
  RunsTo.leave X (fun h => by rw [hret] at h; cases h) hlocks hq hC hN fun fs hl => X.areturnOut hx hz hret hty hd hl
theorem RunsTo.retN (X : Stand p l e R s m args below meth c T locs cells slots) (hx : p.tables.exec = Jvm.exec) {pc : Nat} {Ls : Array Slot} {z : Int32} {t : FieldType} {rest : List Value} (hret : meth.sig.returnType = some t) (ht : t = .boolean ∨ t = .byte ∨ t = .char ∨ t = .short) (hlocks : meth.locks = false) (hd : decode c.code pc = .ok (.ireturn, 1)) (hq : Q (some (.int (nar t z))) T.heap locs) (hC : cells ≤ C) (hN : slots ≤ N) :
    RunsTo p e below s T (mkF m pc Ls (.int z :: rest)) Q C N :=
  RunsTo.leave X (fun h => by rw [hret] at h; cases h) hlocks hq hC hN fun fs hl => Jvm.RoadKit.retN X hx hret ht hd hl
theorem RunsTo.retV (X : Stand p l e R s m args below meth c T locs cells slots) (hx : p.tables.exec = Jvm.exec) {pc : Nat} {Ls : Array Slot} (hret : meth.sig.returnType = none) (hlocks : meth.locks = false) (hd : decode c.code pc = .ok (.return_, 1)) (hq : Q none T.heap locs) (hC : cells ≤ C) (hN : slots ≤ N) :
    RunsTo p e below s T (mkF m pc Ls []) Q C N :=
  RunsTo.leave X (fun _ => rfl) hlocks hq hC hN fun fs hl => X.returnOut hx hret hd hl
end OwnEnds
theorem nar_ref (ty : FieldType) {v : Value} (hv : v.isRef = true) : narrow ty v = v := by rcases ref_cases hv with rfl | ⟨a, rfl⟩ <;> cases ty <;> rfl
theorem fits_ref' {ty : FieldType} {v : Value} (h : ty.isReference = true) (hv : v.isRef = true) : fits ty v = true := by rcases ref_cases hv with rfl | ⟨a, rfl⟩ <;> cases ty <;> simp_all [fits, FieldType.isReference]
section OwnArf
variable {Z : State} {h h' : Heap} {a b : Addr} {c : Cell} {k : ClassId} {ty : FieldType} {z j : Int32} {f f' : Nat → Value} {v : Value} {sl : Nat} {ws : List Addr}
/-- an array: its kind, its length z, and what each place holds -/
def Arf (Z : State) (h : Heap) (a : Addr) (ty : FieldType) (z : Int32) (f : Nat → Value) : Prop := ∃ c : Cell, Arr Z h a c ty ∧ c.slots.size = z.toNatClampNeg ∧ ¬ z < 0 ∧ ∀ j, j < c.slots.size → c.slots[j]? = some (f j)
theorem Arf.lt (F : Arf Z h a ty z f) : a < h.size := by obtain ⟨c, A, -⟩ := F; exact A.lt
theorem Arf.ext (F : Arf Z h a ty z f) (E : Ext h h') : Arf Z h' a ty z f := by obtain ⟨c, A, r⟩ := F; exact ⟨c, A.ext E, r⟩
theorem Arf.other (F : Arf Z h b ty z f) (W : Wr h h' a sl v) (q : b ≠ a) : Arf Z h' b ty z f := by obtain ⟨c, A, r⟩ := F; exact ⟨c, A.other W q, r⟩
theorem Arf.keep (F : Arf Z h a ty z f) (K : Keep h h' ws) (q : a ∉ ws) : Arf Z h' a ty z f := by obtain ⟨c, A, r⟩ := F; exact ⟨c, ⟨K.2.1 a c A.1 q, A.2⟩, r⟩
theorem Arf.new (A : Arr Z h a (newA k ty z) ty) (q : ¬ z < 0) : Arf Z h a ty z (fun _ => defaultValue ty) := ⟨_, A, sz_new _ _ _, q, fun i hi => by rw [sz_new] at hi; simp [newA, hi]⟩
theorem Arf.congr (F : Arf Z h a ty z f) (q : ∀ i, i < z.toNatClampNeg → f i = f' i) : Arf Z h a ty z f' := by
  obtain ⟨c, A, S, M, H⟩ := F
  exact ⟨c, A, S, M, fun i hi => by rw [← q i (S ▸ hi)]; exact H i hi⟩
theorem Arf.set (A : Arr Z h a c ty) (S : c.slots.size = z.toNatClampNeg) (M : ¬ z < 0) (H : ∀ i, i < c.slots.size → c.slots[i]? = some (f i)) (W : Wr h h' a j.toNatClampNeg v) : Arf Z h' a ty z (fun i => if i = j.toNatClampNeg then v else f i) := by
  refine ⟨_, A.same W, by rw [sz_set]; exact S, M, fun i hi => ?_⟩
  rw [sz_set] at hi
  by_cases u : i = j.toNatClampNeg
  · subst u
    simp [Cell.setSlot, hi]
  · have : (c.setSlot j.toNatClampNeg v).slots[i]? = c.slots[i]? := by
      simp only [Cell.setSlot]; exact Array.getElem?_setIfInBounds_ne (Ne.symm u)
    rw [this]; show _ = some (if i = j.toNatClampNeg then v else f i); rw [if_neg u]; exact H i hi
end OwnArf
end Jvm.RoadKit
namespace Jvm.Pilot.@@N@@
open Jvm Jvm.ClassFile Sem Op Lib Jvm.Free Jvm.Stand Jvm.LawKit Jvm.RoadKit Bundle Jvm.Pilot.@@N@@.Jvm.D
/-! numbers of the histogram -/
def own_sh (v : Nat) : Nat := v.log2 - 10
def own_idx (v : Nat) : Nat := if v < 2048 then v else 2048 + (own_sh v - 1) * 1024 + v / 2 ^ own_sh v - 1024
def own_buc (v : Nat) : Nat := if v < 2048 then v else v / 2 ^ own_sh v * 2 ^ own_sh v
def own_mic (i : Nat) : Nat := if i < 2048 then i else ((i - 2048) % 1024 + 1024) * 2 ^ ((i - 2048) / 1024 + 1)
theorem own_log (v : Nat) (h : 2048 ≤ v) : 11 ≤ v.log2 := by
  rw [Nat.le_log2 (by omega)]; omega
theorem own_top (v : Nat) (h : 2048 ≤ v) : 1 ≤ own_sh v ∧ 1024 ≤ v / 2 ^ own_sh v ∧ v / 2 ^ own_sh v < 2048 := by
  have h1 := own_log v h
  have h2 : 2 ^ v.log2 ≤ v := Nat.log2_self_le (by omega)
  have h3 : v < 2 ^ (v.log2 + 1) := Nat.lt_log2_self
  have e1 : v.log2 = 10 + own_sh v := by unfold own_sh; omega
  have e2 : v.log2 + 1 = 11 + own_sh v := by unfold own_sh; omega
  rw [e1, Nat.pow_add] at h2
  rw [e2, Nat.pow_add] at h3
  refine ⟨by unfold own_sh; omega, ?_, ?_⟩
  · rw [Nat.le_div_iff_mul_le (Nat.two_pow_pos _)]; exact h2
  · rw [Nat.div_lt_iff_lt_mul (Nat.two_pow_pos _)]; exact h3
theorem own_mic_idx (v : Nat) : own_mic (own_idx v) = own_buc v := by
  unfold own_idx own_buc
  by_cases h : v < 2048
  · rw [if_pos h, if_pos h]; unfold own_mic; rw [if_pos h]
  · rw [if_neg h, if_neg h]
    obtain ⟨h1, h2, h3⟩ := own_top v (by omega)
    generalize own_sh v = s at *
    generalize v / 2 ^ s = w at *
    unfold own_mic
    rw [if_neg (by omega), show 2048 + (s - 1) * 1024 + w - 1024 - 2048 = (s - 1) * 1024 + (w - 1024) by omega]
    rw [show ((s - 1) * 1024 + (w - 1024)) % 1024 = w - 1024 by omega, show ((s - 1) * 1024 + (w - 1024)) / 1024 = s - 1 by omega]
    rw [show w - 1024 + 1024 = w by omega, show s - 1 + 1 = s by omega]
theorem own_mic_step (i : Nat) : own_mic i ≤ own_mic (i + 1) := by
  unfold own_mic
  by_cases h : i + 1 < 2048
  · rw [if_pos (by omega), if_pos h]; omega
  · by_cases h' : i < 2048
    · rw [if_pos h', if_neg h, show i = 2047 by omega]; decide +kernel
    · rw [if_neg h', if_neg h, show i + 1 - 2048 = (i - 2048) + 1 by omega]
      generalize i - 2048 = d
      by_cases q : d % 1024 = 1023
      · have e1 : (d + 1) % 1024 = 0 := by omega
        have e2 : (d + 1) / 1024 = d / 1024 + 1 := by omega
        rw [q, e1, e2, Nat.pow_succ 2 (d / 1024 + 1)]
        generalize 2 ^ (d / 1024 + 1) = P
        omega
      · have e1 : (d + 1) % 1024 = d % 1024 + 1 := by omega
        have e2 : (d + 1) / 1024 = d / 1024 := by omega
        rw [e1, e2]
        exact Nat.mul_le_mul_right _ (by omega)
theorem own_mic_mono {i j : Nat} (h : i ≤ j) : own_mic i ≤ own_mic j := by
  obtain ⟨d, rfl⟩ := Nat.exists_eq_add_of_le h
  induction d with
  | zero => exact Nat.le_refl _
  | succ d ih => exact Nat.le_trans (ih (by omega)) (own_mic_step (i + d))
theorem own_sh_le (v : Nat) (h : v < 2 ^ 54) : own_sh v ≤ 43 := by
  unfold own_sh
  by_cases q : v = 0
  · subst q; decide
  · have := (Nat.log2_lt q (k := 54)).mpr h; omega
theorem own_idx_lt (v : Nat) (h : v < 2 ^ 54) : own_idx v < 46080 := by
  unfold own_idx
  split
  · omega
  · have h1 := own_top v (by omega)
    have h2 := own_sh_le v h
    generalize own_sh v = s at *
    generalize v / 2 ^ s = w at *
    omega
theorem own_mic_lt (i : Nat) (h : i < 46080) : own_mic i < 2 ^ 54 := by
  have h1 := own_mic_mono (show i ≤ 46079 by omega)
  have h2 : own_mic 46079 < 2 ^ 54 := by decide +kernel
  omega
theorem own_nat (j : Int32) (h : 0 ≤ j.toInt) : (j.toNatClampNeg : Int) = j.toInt := by simp only [Int32.toNatClampNeg]; omega
theorem own_bv (q : Int32) (h : 0 ≤ q.toInt) (h2 : q.toInt < 64) : q.toBitVec.toNat % 64 = q.toInt.toNat := by
  have e : q.toInt = q.toBitVec.toInt := rfl
  have b := BitVec.toInt_eq_toNat_cond q.toBitVec
  have l := q.toBitVec.isLt
  rw [e] at h h2 ⊢
  rw [b] at h h2 ⊢
  split at h <;> rename_i c
  · rw [if_pos c] at h2 ⊢; omega
  · omega
/-- a halving step of Integer.numberOfLeadingZeros -/
def own_inv32 (X B : Nat) (i n : Int32) : Prop := ∃ s : Nat, s ≤ B ∧ i.toInt = (X / 2 ^ s : Nat) ∧ n.toInt = 31 - (s : Int) ∧ 0 < X / 2 ^ s
theorem own_step32 {X B : Nat} {i n : Int32} (I : own_inv32 X B i n) (c mk q : Int32) (k : Nat) (hk0 : 0 < k) (hk : k ≤ 16) (hB : B ≤ 32) (hc : c.toInt = (2 ^ k : Nat)) (hm : mk.toInt = -(k : Int)) (hq : q.toBitVec.toNat % 32 = k) (hi : i.toInt < (2 ^ (k + k) : Nat)) :
    own_inv32 X (B + k) (if i < c then i else ((i.toUInt32 >>> (q &&& 31).toUInt32).toInt32)) (if i < c then n else n + mk) ∧ (if i < c then i else ((i.toUInt32 >>> (q &&& 31).toUInt32).toInt32)).toInt < (2 ^ k : Nat) := by
  obtain ⟨s, h1, h2, h3, h4⟩ := I
  by_cases h : i < c
  · rw [if_pos h, if_pos h]
    rw [Int32.lt_iff_toInt_lt, hc] at h
    exact ⟨⟨s, by omega, h2, h3, h4⟩, h⟩
  · rw [if_neg h, if_neg h]
    rw [Int32.lt_iff_toInt_lt, hc] at h
    have a := c_iushr i q k hq hk0
    have hp : 0 < 2 ^ k := Nat.two_pow_pos k
    have b : i.toInt % 4294967296 = i.toInt := by have := rng32 i; omega
    rw [b, h2] at a
    have d : ((X / 2 ^ s : Nat) : Int) / ((2 ^ k : Nat) : Int) = ((X / 2 ^ (s + k) : Nat) : Int) := by
      rw [Nat.pow_add, ← Nat.div_div_eq_div_mul]; exact (Int.natCast_ediv _ _).symm
    rw [d] at a
    have e1 := c_iadd n mk
    have e2 := rng32 (n + mk)
    rw [h2] at h hi
    have h5 : 2 ^ k ≤ X / 2 ^ s := by omega
    have h6 : X / 2 ^ s < 2 ^ (k + k) := by omega
    have h7 : X / 2 ^ (s + k) = X / 2 ^ s / 2 ^ k := by rw [Nat.pow_add, Nat.div_div_eq_div_mul]
    refine ⟨⟨s + k, by omega, a, by omega, ?_⟩, ?_⟩
    · rw [h7]; exact Nat.div_pos h5 hp
    · rw [a, h7]
      have : X / 2 ^ s / 2 ^ k < 2 ^ k := by rw [Nat.div_lt_iff_lt_mul hp, ← Nat.pow_add]; exact h6
      omega
def own_lz32 (n : Nat) : Int := if n = 0 then 32 else 31 - (n.log2 : Int)
theorem own_log_of {X s : Nat} (h : X / 2 ^ s = 1) : X.log2 = s := by
  have hp : 0 < 2 ^ s := Nat.two_pow_pos s
  have h1 : 2 ^ s ≤ X := by
    have := Nat.div_mul_le_self X (2 ^ s); rw [h] at this; omega
  have h2 : X < 2 ^ (s + 1) := by
    have := (Nat.div_lt_iff_lt_mul hp (x := X) (y := 2)).mp (by omega); rw [Nat.pow_succ]; omega
  exact (Nat.log2_eq_iff (by omega)).mpr ⟨h1, h2⟩
theorem own_last32 {X B : Nat} {i n : Int32} (I : own_inv32 X B i n) (hB : B ≤ 30) (hi : i.toInt < 4) : (n - ((i.toUInt32 >>> ((1 : Int32) &&& 31).toUInt32).toInt32)).toInt = own_lz32 X := by
  obtain ⟨s, h1, h2, h3, h4⟩ := I
  have a := c_iushr i 1 1 (by decide) (by decide)
  have b : i.toInt % 4294967296 = i.toInt := by have := rng32 i; omega
  rw [b] at a
  have e1 := c_isub n ((i.toUInt32 >>> ((1 : Int32) &&& 31).toUInt32).toInt32)
  have e2 := rng32 (n - ((i.toUInt32 >>> ((1 : Int32) &&& 31).toUInt32).toInt32))
  have hX : X ≠ 0 := by intro q; subst q; rw [Nat.zero_div] at h4; omega
  unfold own_lz32
  rw [if_neg hX]
  by_cases q : X / 2 ^ s = 1
  · rw [own_log_of q]; rw [q] at h2; simp only [Nat.pow_one] at a; omega
  · have : X / 2 ^ (s + 1) = 1 := by
      rw [Nat.pow_succ, ← Nat.div_div_eq_div_mul]; omega
    rw [own_log_of this]; simp only [Nat.pow_one] at a; omega
/-- a halving step on longs: a bit length -/
def own_invL (X B : Nat) (x : Int64) (n : Int32) : Prop := ∃ s : Nat, s ≤ B ∧ x.toInt = (X / 2 ^ s : Nat) ∧ n.toInt = (s : Int) ∧ 0 < X / 2 ^ s
theorem own_shrL (x : Int64) (q : Int32) (k : Nat) (hq : q.toBitVec.toNat % 64 = k) (hk : 0 < k) (h : 0 ≤ x.toInt) : ((x.toUInt64 >>> (q &&& 0x3f).toInt64.toUInt64).toInt64).toInt = x.toInt / (2 ^ k : Nat) := by
  have a := c_lushr x q k hq hk
  have b : x.toInt % 18446744073709551616 = x.toInt := by have := rng64 x; omega
  rw [b] at a; exact a
theorem own_stepL {X B : Nat} {x : Int64} {n : Int32} (I : own_invL X B x n) (mk q : Int32) (k : Nat) (hk0 : 0 < k) (hk : k ≤ 32) (hB : B ≤ 64) (hm : mk.toInt = (k : Int)) (hq : q.toBitVec.toNat % 64 = k) (hi : x.toInt < (2 ^ (k + k) : Nat)) {P : Prop} [Decidable P] (hP : P ↔ x.toInt < (2 ^ k : Nat)) :
    own_invL X (B + k) (if P then x else ((x.toUInt64 >>> (q &&& 0x3f).toInt64.toUInt64).toInt64)) (if P then n else n + mk) ∧ (if P then x else ((x.toUInt64 >>> (q &&& 0x3f).toInt64.toUInt64).toInt64)).toInt < (2 ^ k : Nat) := by
  obtain ⟨s, h1, h2, h3, h4⟩ := I
  by_cases h : P
  · rw [if_pos h, if_pos h]
    exact ⟨⟨s, by omega, h2, h3, h4⟩, hP.mp h⟩
  · rw [if_neg h, if_neg h]
    have h : ¬ x.toInt < ((2 ^ k : Nat) : Int) := fun q => h (hP.mpr q)
    have hx0 : 0 ≤ x.toInt := by rw [h2]; exact Int.natCast_nonneg _
    have a := own_shrL x q k hq hk0 hx0
    have hp : 0 < 2 ^ k := Nat.two_pow_pos k
    rw [h2] at a
    have d : ((X / 2 ^ s : Nat) : Int) / ((2 ^ k : Nat) : Int) = ((X / 2 ^ (s + k) : Nat) : Int) := by
      rw [Nat.pow_add, ← Nat.div_div_eq_div_mul]; exact (Int.natCast_ediv _ _).symm
    rw [d] at a
    have e1 := c_iadd n mk
    have e2 := rng32 (n + mk)
    rw [h2] at h hi
    have h5 : 2 ^ k ≤ X / 2 ^ s := by omega
    have h6 : X / 2 ^ s < 2 ^ (k + k) := by omega
    have h7 : X / 2 ^ (s + k) = X / 2 ^ s / 2 ^ k := by rw [Nat.pow_add, Nat.div_div_eq_div_mul]
    refine ⟨⟨s + k, by omega, a, by omega, ?_⟩, ?_⟩
    · rw [h7]; exact Nat.div_pos h5 hp
    · rw [a, h7]
      have : X / 2 ^ s / 2 ^ k < 2 ^ k := by rw [Nat.div_lt_iff_lt_mul hp, ← Nat.pow_add]; exact h6
      omega
theorem own_lastL {X B : Nat} {x : Int64} {n : Int32} (I : own_invL X B x n) (hB : B ≤ 64) (hi : x.toInt < 2) : (n + 1).toInt = X.log2 + 1 ∧ x.toInt = 1 := by
  obtain ⟨s, h1, h2, h3, h4⟩ := I
  have q : X / 2 ^ s = 1 := by omega
  have e1 := c_iadd n 1
  have e2 := rng32 (n + 1)
  rw [show (1 : Int32).toInt = 1 from rfl] at e1
  rw [own_log_of q]; omega
theorem own_log32 (X : Nat) (h : 0 < X / 2 ^ 32) : X.log2 = (X / 2 ^ 32).log2 + 32 := by
  have h1 : 2 ^ (X / 2 ^ 32).log2 ≤ X / 2 ^ 32 := Nat.log2_self_le (by omega)
  have h2 : X / 2 ^ 32 < 2 ^ ((X / 2 ^ 32).log2 + 1) := Nat.lt_log2_self
  generalize (X / 2 ^ 32).log2 = k at *
  refine (Nat.log2_eq_iff (by omega)).mpr ⟨?_, ?_⟩
  · rw [Nat.pow_add]
    exact (Nat.le_div_iff_mul_le (Nat.two_pow_pos 32)).mp h1
  · rw [show k + 32 + 1 = k + 1 + 32 by omega, Nat.pow_add]
    exact (Nat.div_lt_iff_lt_mul (Nat.two_pow_pos 32)).mp h2
theorem own_un (y : Int32) (h : 0 ≤ y.toInt) : (y.toBitVec.toNat : Int) = y.toInt := by
  have e : y.toInt = y.toBitVec.toInt := rfl
  have b := BitVec.toInt_eq_toNat_cond y.toBitVec
  have l := y.toBitVec.isLt
  rw [e, b] at h ⊢
  split at h <;> rename_i c
  · rw [if_pos c]
  · omega
theorem own_lowbits (x : Int64) (h : 0 ≤ x.toInt) (h2 : x.toInt < 4294967296) : (x.toInt32.toBitVec.toNat : Int) = x.toInt := by
  have a := c_l2i x
  have e : x.toInt32.toInt = x.toInt32.toBitVec.toInt := rfl
  have b := BitVec.toInt_eq_toNat_cond x.toInt32.toBitVec
  have l := x.toInt32.toBitVec.isLt
  rw [e, b] at a
  split at a <;> omega
/-- Long.numberOfLeadingZeros: the two ways -/
theorem own_lz_lo (x : Int64) (r : Int32) (h : 0 < x.toInt) (hz : ((x.toUInt64 >>> ((32 : Int32) &&& 0x3f).toInt64.toUInt64).toInt64).toInt32 = 0) (hr : r.toInt = own_lz32 x.toInt32.toBitVec.toNat) : ((32 : Int32) + r).toInt = 63 - (x.toInt.toNat.log2 : Int) := by
  have a := own_shrL x 32 32 (by decide) (by decide) (by omega)
  have b := c_l2i ((x.toUInt64 >>> ((32 : Int32) &&& 0x3f).toInt64.toUInt64).toInt64)
  rw [hz, a, show (0 : Int32).toInt = 0 from rfl] at b
  have c := rng64 x
  have d : x.toInt < 4294967296 := by simp only [show ((2 ^ 32 : Nat) : Int) = 4294967296 from rfl] at b; omega
  have e := own_lowbits x (by omega) d
  have e' : x.toInt32.toBitVec.toNat = x.toInt.toNat := by omega
  rw [e'] at hr
  unfold own_lz32 at hr
  rw [if_neg (by omega)] at hr
  have f := c_iadd 32 r
  have g := rng32 (32 + r)
  rw [show (32 : Int32).toInt = 32 from rfl] at f
  have hl : x.toInt.toNat.log2 < 32 := (Nat.log2_lt (by omega)).mpr (by omega)
  omega
theorem own_lz_hi (x : Int64) (r : Int32) (h : 0 < x.toInt) (hz : ¬ ((x.toUInt64 >>> ((32 : Int32) &&& 0x3f).toInt64.toUInt64).toInt64).toInt32 = 0) (hr : r.toInt = own_lz32 ((x.toUInt64 >>> ((32 : Int32) &&& 0x3f).toInt64.toUInt64).toInt64).toInt32.toBitVec.toNat) : r.toInt = 63 - (x.toInt.toNat.log2 : Int) := by
  have a := own_shrL x 32 32 (by decide) (by decide) (by omega)
  have c := rng64 x
  generalize ((x.toUInt64 >>> ((32 : Int32) &&& 0x3f).toInt64.toUInt64).toInt64) = y at *
  simp only [show ((2 ^ 32 : Nat) : Int) = 4294967296 from rfl] at a
  have b := c_l2i y
  have b2 := rng32 y.toInt32
  have b3 : y.toInt32.toInt = y.toInt := by omega
  have b4 : y.toInt32.toInt ≠ 0 := fun q => hz (Int32.toInt_inj.mp q)
  have e := own_un y.toInt32 (by omega)
  have e' : y.toInt32.toBitVec.toNat = x.toInt.toNat / 2 ^ 32 := by simp only [show (2 : Nat) ^ 32 = 4294967296 from rfl]; omega
  have hp : 0 < x.toInt.toNat / 2 ^ 32 := by omega
  rw [e'] at hr
  unfold own_lz32 at hr
  rw [if_neg (by omega)] at hr
  rw [own_log32 _ hp]; omega
theorem own_index_val (x : Int64) (r : Int32) (h : 2048 ≤ x.toInt) (h2 : x.toInt < 18014398509481984) (hr : r.toInt = 63 - (x.toInt.toNat.log2 : Int)) :
    ∃ s : Int32, s = ((64 : Int32) - r) - (11 : Int32) ∧ s.toInt = own_sh x.toInt.toNat ∧ ((((2048 : Int32) + ((s - (1 : Int32)) * (1024 : Int32))) + ((x.toUInt64 >>> (s &&& 0x3f).toInt64.toUInt64).toInt64).toInt32) - (1024 : Int32)).toInt = own_idx x.toInt.toNat := by
  refine ⟨_, rfl, ?_⟩
  have hV : x.toInt.toNat < 2 ^ 54 := by simp only [show (2 : Nat) ^ 54 = 18014398509481984 from rfl]; omega
  have h3 := own_top x.toInt.toNat (by omega)
  have h4 := own_sh_le x.toInt.toNat hV
  have h5 := own_log x.toInt.toNat (by omega)
  have e1 := c_isub 64 r
  have e2 := rng32 (64 - r)
  have e3 := c_isub (64 - r) 11
  have e4 := rng32 (64 - r - 11)
  rw [show (64 : Int32).toInt = 64 from rfl] at e1
  rw [show (11 : Int32).toInt = 11 from rfl] at e3
  have e5 : own_sh x.toInt.toNat = x.toInt.toNat.log2 - 10 := rfl
  have hs : (64 - r - 11).toInt = own_sh x.toInt.toNat := by omega
  refine ⟨hs, ?_⟩
  generalize (64 : Int32) - r - 11 = s at *
  have a := own_shrL x s (own_sh x.toInt.toNat) (by rw [own_bv s (by omega) (by omega)]; omega) (by omega) (by omega)
  have a' : ((x.toUInt64 >>> (s &&& 0x3f).toInt64.toUInt64).toInt64).toInt = ((x.toInt.toNat / 2 ^ own_sh x.toInt.toNat : Nat) : Int) := by
    rw [a, Int.natCast_ediv, Int.toNat_of_nonneg (by omega)]
  generalize ((x.toUInt64 >>> (s &&& 0x3f).toInt64.toUInt64).toInt64) = y at *
  have b := c_l2i y
  have b2 := rng32 y.toInt32
  have d1 := c_isub s 1
  have d2 := rng32 (s - 1)
  rw [show (1 : Int32).toInt = 1 from rfl] at d1
  have d3 := c_imul (s - 1) 1024
  have d4 := rng32 ((s - 1) * 1024)
  rw [show (1024 : Int32).toInt = 1024 from rfl] at d3
  have d5 := c_iadd 2048 ((s - 1) * 1024)
  have d6 := rng32 (2048 + (s - 1) * 1024)
  rw [show (2048 : Int32).toInt = 2048 from rfl] at d5
  have d7 := c_iadd (2048 + (s - 1) * 1024) y.toInt32
  have d8 := rng32 (2048 + (s - 1) * 1024 + y.toInt32)
  have d9 := c_isub (2048 + (s - 1) * 1024 + y.toInt32) 1024
  have d10 := rng32 (2048 + (s - 1) * 1024 + y.toInt32 - 1024)
  rw [show (1024 : Int32).toInt = 1024 from rfl] at d9
  unfold own_idx
  rw [if_neg (by omega)]
  clear a e5
  generalize own_sh x.toInt.toNat = k at *
  generalize x.toInt.toNat / 2 ^ k = w at *
  generalize (2048 + (s - 1) * 1024 + y.toInt32 - 1024).toInt = r9 at *
  generalize (2048 + (s - 1) * 1024 + y.toInt32).toInt = r7 at *
  generalize (2048 + (s - 1) * 1024).toInt = r5 at *
  generalize ((s - 1) * 1024).toInt = r3 at *
  generalize (s - 1).toInt = r1 at *
  generalize y.toInt32.toInt = ry at *
  have q1 : r1 = k - 1 := by omega
  have q3 : r3 = r1 * 1024 := by omega
  have q5 : r5 = 2048 + r3 := by omega
  have qy : ry = w := by omega
  have q7 : r7 = r5 + ry := by omega
  have q9 : r9 = r7 - 1024 := by omega
  omega
theorem own_micros_val (i : Int32) (h : 2048 ≤ i.toInt) (h2 : i.toInt < 46080) :
    ((((i - (2048 : Int32)) % (1024 : Int32)) + (1024 : Int32)).toInt64 <<< ((((i - (2048 : Int32)) / (1024 : Int32)) + (1 : Int32)) &&& 0x3f).toInt64).toInt = own_mic i.toNatClampNeg := by
  have e1 := c_isub i 2048
  have e2 := rng32 (i - 2048)
  rw [show (2048 : Int32).toInt = 2048 from rfl] at e1
  have e3 : (i - 2048).toInt = i.toInt - 2048 := by omega
  have d1 := (c_idiv (i - 2048) 1024 1024 rfl (by decide)).1 (by omega)
  have r1 := (c_irem (i - 2048) 1024 1024 rfl).1 (by omega)
  have d2 := c_iadd ((i - 2048) / 1024) 1
  have d3 := rng32 ((i - 2048) / 1024 + 1)
  rw [show (1 : Int32).toInt = 1 from rfl] at d2
  have r2 := c_iadd ((i - 2048) % 1024) 1024
  have r3 := rng32 ((i - 2048) % 1024 + 1024)
  rw [show (1024 : Int32).toInt = 1024 from rfl] at r2
  have hn := own_nat i (by omega)
  have hlt := own_mic_lt i.toNatClampNeg (by omega)
  unfold own_mic at hlt ⊢
  rw [if_neg (by omega)] at hlt ⊢
  have q1 : ((i - 2048) / 1024 + 1).toInt = (((i.toNatClampNeg - 2048) / 1024 + 1 : Nat) : Int) := by omega
  have q2 : ((i - 2048) % 1024 + 1024).toInt = (((i.toNatClampNeg - 2048) % 1024 + 1024 : Nat) : Int) := by omega
  generalize (i - 2048) / 1024 + 1 = s at *
  generalize (i - 2048) % 1024 + 1024 = b at *
  have a := c_lshl b.toInt64 s ((i.toNatClampNeg - 2048) / 1024 + 1) (by rw [own_bv s (by omega) (by omega)]; omega)
  rw [c_i2l, q2] at a
  have c := rng64 (b.toInt64 <<< (s &&& 0x3f).toInt64)
  generalize (i.toNatClampNeg - 2048) % 1024 + 1024 = B at *
  generalize 2 ^ ((i.toNatClampNeg - 2048) / 1024 + 1) = P at *
  rw [← Int.natCast_mul] at a
  generalize B * P = M at *
  simp only [show (2 : Nat) ^ 54 = 18014398509481984 from rfl] at hlt
  omega
theorem own_buc_val (x : Int64) (b : Int32) (h : 2048 ≤ x.toInt) (h2 : x.toInt < 18014398509481984) (hb : b.toInt = x.toInt.toNat.log2 + 1) :
    (((x.toUInt64 >>> ((b - (11 : Int32)) &&& 0x3f).toInt64.toUInt64).toInt64) <<< ((b - (11 : Int32)) &&& 0x3f).toInt64).toInt = own_buc x.toInt.toNat := by
  have hV : x.toInt.toNat < 2 ^ 54 := by simp only [show (2 : Nat) ^ 54 = 18014398509481984 from rfl]; omega
  have h3 := own_top x.toInt.toNat (by omega)
  have h4 := own_sh_le x.toInt.toNat hV
  have h5 := own_log x.toInt.toNat (by omega)
  have e3 := c_isub b 11
  have e4 := rng32 (b - 11)
  rw [show (11 : Int32).toInt = 11 from rfl] at e3
  have e5 : own_sh x.toInt.toNat = x.toInt.toNat.log2 - 10 := rfl
  have hs : (b - 11).toInt = own_sh x.toInt.toNat := by omega
  generalize b - 11 = s at *
  have hq : s.toBitVec.toNat % 64 = own_sh x.toInt.toNat := by rw [own_bv s (by omega) (by omega)]; omega
  have a := own_shrL x s (own_sh x.toInt.toNat) hq (by omega) (by omega)
  have a' : ((x.toUInt64 >>> (s &&& 0x3f).toInt64.toUInt64).toInt64).toInt = ((x.toInt.toNat / 2 ^ own_sh x.toInt.toNat : Nat) : Int) := by
    rw [a, Int.natCast_ediv, Int.toNat_of_nonneg (by omega)]
  generalize ((x.toUInt64 >>> (s &&& 0x3f).toInt64.toUInt64).toInt64) = y at *
  have c := c_lshl y s (own_sh x.toInt.toNat) hq
  have d := rng64 (y <<< (s &&& 0x3f).toInt64)
  unfold own_buc
  rw [if_neg (by omega)]
  have f : x.toInt.toNat / 2 ^ own_sh x.toInt.toNat * 2 ^ own_sh x.toInt.toNat ≤ x.toInt.toNat := Nat.div_mul_le_self _ _
  rw [a', ← Int.natCast_mul] at c
  generalize x.toInt.toNat / 2 ^ own_sh x.toInt.toNat * 2 ^ own_sh x.toInt.toNat = M at *
  omega
theorem own_shr_le (x : Int64) (q : Int32) (h : 0 ≤ x.toInt) : 0 ≤ ((x.toUInt64 >>> (q &&& 0x3f).toInt64.toUInt64).toInt64).toInt ∧ ((x.toUInt64 >>> (q &&& 0x3f).toInt64.toUInt64).toInt64).toInt ≤ x.toInt := by
  by_cases k : q.toBitVec.toNat % 64 = 0
  · have e := (sm64 q 0 k).1
    have : ((x.toUInt64 >>> (q &&& 0x3f).toInt64.toUInt64).toInt64) = x := by
      apply Int64.toBitVec_inj.mp
      show x.toBitVec >>> ((q &&& 0x3f).toInt64.toBitVec % 64) = x.toBitVec
      rw [e]; simp
    rw [this]; omega
  · have a := own_shrL x q _ rfl (by omega) h
    rw [a]
    have hp : (0 : Int) < ((2 ^ (q.toBitVec.toNat % 64) : Nat) : Int) := by have := Nat.two_pow_pos (q.toBitVec.toNat % 64); omega
    exact ⟨Int.ediv_nonneg h (by omega), Int.ediv_le_self _ h⟩
def own_minL (x y : Int64) : Int64 := if y < x then y else x
def own_maxL (x y : Int64) : Int64 := if x < y then y else x
def own_ind (p : Prop) [Decidable p] : Int64 := if p then 1 else 0
theorem own_ind_succ (i k : Nat) : own_ind (i < k + 1) = own_ind (i < k) + own_ind (i = k) := by
  unfold own_ind
  by_cases a : i < k
  · rw [if_pos (by omega), if_pos a, if_neg (by omega)]; rfl
  · by_cases b : i = k
    · rw [if_pos (by omega), if_neg a, if_pos b]; rfl
    · rw [if_neg (by omega), if_neg a, if_neg b]; rfl
theorem own_ind2 (i j k : Nat) : own_ind (i < k + 1) + own_ind (j < k + 1) = (own_ind (i < k) + own_ind (j < k)) + (own_ind (i = k) + own_ind (j = k)) := by
  rw [own_ind_succ, own_ind_succ]; ac_rfl
theorem own_ind3 (i j m k : Nat) : own_ind (i < k + 1) + own_ind (j < k + 1) + own_ind (m < k + 1) = (own_ind (i < k) + own_ind (j < k) + own_ind (m < k)) + (own_ind (i = k) + own_ind (j = k) + own_ind (m = k)) := by
  rw [own_ind_succ, own_ind_succ, own_ind_succ]; ac_rfl
theorem own_invL_nonneg {X B : Nat} {x : Int64} {n : Int32} (I : own_invL X B x n) : 0 ≤ x.toInt := by
  obtain ⟨s, -, h2, -⟩ := I; rw [h2]; exact Int.natCast_nonneg _
theorem own_zeroL (x : Int64) (q : Int32) (k : Nat) (hk : 0 < k) (hq : q.toBitVec.toNat % 64 = k) (h : 0 ≤ x.toInt) : ((x.toUInt64 >>> (q &&& 0x3f).toInt64.toUInt64).toInt64) = 0 ↔ x.toInt < (2 ^ k : Nat) := by
  have a := own_shrL x q k hq hk h
  have hp : (0 : Int) < ((2 ^ k : Nat) : Int) := by have := Nat.two_pow_pos k; omega
  rw [← Int64.toInt_inj, a, show (0 : Int64).toInt = 0 from rfl]
  constructor
  · intro z
    have h1 := Int.emod_lt_of_pos x.toInt hp
    have h2 := Int.mul_ediv_add_emod x.toInt ((2 ^ k : Nat) : Int)
    rw [z, Int.mul_zero] at h2; omega
  · intro z; exact Int.ediv_eq_zero_of_lt h z

theorem d8_0 : decode jdk_33_method_47_code 0 = .ok (.iload_n 0, 1) := by decide +kernel
theorem d8_1 : decode jdk_33_method_47_code 1 = .ok (.ifCond .gt 14, 3) := by decide +kernel
theorem d8_15 : decode jdk_33_method_47_code 15 = .ok (.bipush 31, 2) := by decide +kernel
theorem d8_17 : decode jdk_33_method_47_code 17 = .ok (.istore_n 1, 1) := by decide +kernel
theorem d8_18 : decode jdk_33_method_47_code 18 = .ok (.iload_n 0, 1) := by decide +kernel
theorem d8_19 : decode jdk_33_method_47_code 19 = .ok (.ldc_w 264, 3) := by decide +kernel
theorem d8_22 : decode jdk_33_method_47_code 22 = .ok (.if_icmp .lt 11, 3) := by decide +kernel
theorem d8_25 : decode jdk_33_method_47_code 25 = .ok (.iinc 1 (-16), 3) := by decide +kernel
theorem d8_28 : decode jdk_33_method_47_code 28 = .ok (.iload_n 0, 1) := by decide +kernel
theorem d8_29 : decode jdk_33_method_47_code 29 = .ok (.bipush 16, 2) := by decide +kernel
theorem d8_31 : decode jdk_33_method_47_code 31 = .ok (.iushr, 1) := by decide +kernel
theorem d8_32 : decode jdk_33_method_47_code 32 = .ok (.istore_n 0, 1) := by decide +kernel
theorem d8_33 : decode jdk_33_method_47_code 33 = .ok (.iload_n 0, 1) := by decide +kernel
theorem d8_34 : decode jdk_33_method_47_code 34 = .ok (.sipush 256, 3) := by decide +kernel
theorem d8_37 : decode jdk_33_method_47_code 37 = .ok (.if_icmp .lt 11, 3) := by decide +kernel
theorem d8_40 : decode jdk_33_method_47_code 40 = .ok (.iinc 1 (-8), 3) := by decide +kernel
theorem d8_43 : decode jdk_33_method_47_code 43 = .ok (.iload_n 0, 1) := by decide +kernel
theorem d8_44 : decode jdk_33_method_47_code 44 = .ok (.bipush 8, 2) := by decide +kernel
theorem d8_46 : decode jdk_33_method_47_code 46 = .ok (.iushr, 1) := by decide +kernel
theorem d8_47 : decode jdk_33_method_47_code 47 = .ok (.istore_n 0, 1) := by decide +kernel
theorem d8_48 : decode jdk_33_method_47_code 48 = .ok (.iload_n 0, 1) := by decide +kernel
theorem d8_49 : decode jdk_33_method_47_code 49 = .ok (.bipush 16, 2) := by decide +kernel
theorem d8_51 : decode jdk_33_method_47_code 51 = .ok (.if_icmp .lt 10, 3) := by decide +kernel
theorem d8_54 : decode jdk_33_method_47_code 54 = .ok (.iinc 1 (-4), 3) := by decide +kernel
theorem d8_57 : decode jdk_33_method_47_code 57 = .ok (.iload_n 0, 1) := by decide +kernel
theorem d8_58 : decode jdk_33_method_47_code 58 = .ok (.iconst 4, 1) := by decide +kernel
theorem d8_59 : decode jdk_33_method_47_code 59 = .ok (.iushr, 1) := by decide +kernel
theorem d8_60 : decode jdk_33_method_47_code 60 = .ok (.istore_n 0, 1) := by decide +kernel
theorem d8_61 : decode jdk_33_method_47_code 61 = .ok (.iload_n 0, 1) := by decide +kernel
theorem d8_62 : decode jdk_33_method_47_code 62 = .ok (.iconst 4, 1) := by decide +kernel
theorem d8_63 : decode jdk_33_method_47_code 63 = .ok (.if_icmp .lt 10, 3) := by decide +kernel
theorem d8_66 : decode jdk_33_method_47_code 66 = .ok (.iinc 1 (-2), 3) := by decide +kernel
theorem d8_69 : decode jdk_33_method_47_code 69 = .ok (.iload_n 0, 1) := by decide +kernel
theorem d8_70 : decode jdk_33_method_47_code 70 = .ok (.iconst 2, 1) := by decide +kernel
theorem d8_71 : decode jdk_33_method_47_code 71 = .ok (.iushr, 1) := by decide +kernel
theorem d8_72 : decode jdk_33_method_47_code 72 = .ok (.istore_n 0, 1) := by decide +kernel
theorem d8_73 : decode jdk_33_method_47_code 73 = .ok (.iload_n 1, 1) := by decide +kernel
theorem d8_74 : decode jdk_33_method_47_code 74 = .ok (.iload_n 0, 1) := by decide +kernel
theorem d8_75 : decode jdk_33_method_47_code 75 = .ok (.iconst 1, 1) := by decide +kernel
theorem d8_76 : decode jdk_33_method_47_code 76 = .ok (.iushr, 1) := by decide +kernel
theorem d8_77 : decode jdk_33_method_47_code 77 = .ok (.isub, 1) := by decide +kernel
theorem d8_78 : decode jdk_33_method_47_code 78 = .ok (.ireturn, 1) := by decide +kernel
theorem d8_4 : decode jdk_33_method_47_code 4 = .ok (.iload_n 0, 1) := by decide +kernel
theorem d8_5 : decode jdk_33_method_47_code 5 = .ok (.ifCond .ne 8, 3) := by decide +kernel
theorem d8_8 : decode jdk_33_method_47_code 8 = .ok (.bipush 32, 2) := by decide +kernel
theorem d8_10 : decode jdk_33_method_47_code 10 = .ok (.goto 4, 3) := by decide +kernel
theorem d8_13 : decode jdk_33_method_47_code 13 = .ok (.iconst 0, 1) := by decide +kernel
theorem d8_14 : decode jdk_33_method_47_code 14 = .ok (.ireturn, 1) := by decide +kernel
theorem pn_0 : plainName "java/lang/Integer" = true := by first | (simp [plainName, overriddenIn]; done) | decide +kernel
theorem ef_rm_nlz32 (m : MethodId) (x0 : Int32) : entryFrame m #[(.int x0)] 2 = mkF m 0 #[.val (.int x0), .unset] [] := by first | (simp [entryFrame, mkF, argsToLocals, Value.category]; done) | rfl
def Q_nlz32 (Z : State) (x0 : Int32) (h0 : Heap) (n0 : Nat) (v : Option Value) (h : Heap) (L : List Loc) : Prop := ∃ r : Int32, v = some (.int r) ∧ Fr n0 L ∧ h = h0 ∧ r.toInt = own_lz32 x0.toBitVec.toNat
set_option maxRecDepth 65536 in
set_option maxHeartbeats 40000000 in
theorem rm_nlz32 (l : Launch) (Z : State) (a0 : Array Value) (hw : ∀ d ∈ tables_1, d.before a0 Z = true) (ws : List Jvm.Cond) (x0 : Int32) (h0 : Heap) (n0 : Nat) (Z0 : n0 ≤ h0.size)  :
    MetFree l (⟨"java/lang/Integer", "numberOfLeadingZeros", "(I)I"⟩ : MethodName) (head1 (Jvm.Cond.code (⟨"java/lang/Integer", "numberOfLeadingZeros", "(I)I"⟩ : MethodName) jdk_33_method_47_code 2 (some .int) :: ws) ({ frames := 0, cells := 0, slots := 0, locals := 0 } : Room)) (fun as' U => as' = #[(.int x0)] ∧ Z.Warmed39 U.vm ∧ U.heap = h0) (fun _ _ _ _ _ => True) (fun _ U_ o_ U'_ => ∃ v_ L_, o_ = .returned v_ ∧ Q_nlz32 Z x0 h0 n0 v_ U'_.heap L_ ∧ FrameEnd U_ o_ U'_ L_ ({ frames := 0, cells := 0, slots := 0, locals := 0 } : Room).cells ({ frames := 0, cells := 0, slots := 0, locals := 0 } : Room).slots) := by
  refine MetFree.of_bodySF (plainFor_of_name pn_0) hisR ?_
  intro p e s m args below meth c s₁ Bd hml0 hP hK
  obtain ⟨rfl, hZ, hh⟩ := hP
  have hx := Bd.exec
  have hby := Bd.bytes
  have hml : c.maxLocals = 2 := hml0
  have hown : s.vm.findClass "java/lang/Integer" = some m.cls := findClass_of_methodNamed Bd.named
  have hnm := (name_of_methodNamed Bd.named Bd.method).1
  have X0 : Stand p l e ({ frames := 0, cells := 0, slots := 0, locals := 0 } : Room) s m #[(.int x0)] below meth c s₁ [] 0 0 := Stand.of_body Bd
  have e0 : s₁.heap = h0 := by rw [← hh, Bd.state]; rfl
  have N0 := Fr.nil n0
  refine RunsTo.start (ef_rm_nlz32 m x0) ?_
  show RunsTo p e below s s₁ (mkF m 0 #[.val (.int x0), .unset] []) (Q_nlz32 Z x0 h0 n0) ({ frames := 0, cells := 0, slots := 0, locals := 0 } : Room).cells ({ frames := 0, cells := 0, slots := 0, locals := 0 } : Room).slots
  refine RunsTo.of (T' := s₁) (g' := (mkF m 1 #[.val (.int x0), .unset] [(.int x0)])) (fun tgt_ kt => ?_) ?_
  · refine XS.iloadN X0.here hx rfl (hb hby d8_0) rfl ?_
    show Steps p.tables e below (s₁.setTop (mkF m 1 #[.val (.int x0), .unset] [(.int x0)])) _
    exact kt
  by_cases hpos : (0 : Int32) < x0
  · refine RunsTo.of (T' := s₁) (g' := (mkF m 22 #[.val (.int x0), .val (.int (31 : Int32))] [(.int (65536 : Int32)), (.int x0)])) (fun tgt_ kt => ?_) ?_
    · refine XS.ifYes X0.here hx rfl (pc0 := 1) (pc' := 15) rfl (hb hby d8_1) rfl ((if0 _ _).trans (tlt hpos).2.2.1) (by decide) (by decide) ?_
      show Steps p.tables e below (s₁.setTop (mkF m 15 #[.val (.int x0), .unset] [])) _
      refine XS.bipush X0.here hx rfl (hb hby d8_15) ?_
      show Steps p.tables e below (s₁.setTop (mkF m 17 #[.val (.int x0), .unset] [(.int (31 : Int32))])) _
      refine XS.istoreN X0.here hx rfl (hb hby d8_17) rfl (l' := #[.val (.int x0), .val (.int (31 : Int32))]) rfl ?_
      show Steps p.tables e below (s₁.setTop (mkF m 18 #[.val (.int x0), .val (.int (31 : Int32))] [])) _
      refine XS.iloadN X0.here hx rfl (hb hby d8_18) rfl ?_
      show Steps p.tables e below (s₁.setTop (mkF m 19 #[.val (.int x0), .val (.int (31 : Int32))] [(.int x0)])) _
      refine X0.ldcwInt hx hown (mvT hZ (hw _ (List.mem_of_getElem? (i := 44) rfl))) (g := (mkF m 19 #[.val (.int x0), .val (.int (31 : Int32))] [(.int x0)])) rfl (hb hby d8_19) _ ?_
      show Steps p.tables e below (s₁.setTop (mkF m 22 #[.val (.int x0), .val (.int (31 : Int32))] [(.int (65536 : Int32)), (.int x0)])) _
      exact kt
    have hx0 : 0 < x0.toInt := by rw [Int32.lt_iff_toInt_lt] at hpos; exact hpos
    have hun := own_un x0 (by omega)
    have hr0 := rng32 x0
    have I0 : own_inv32 x0.toBitVec.toNat 0 x0 31 := ⟨0, Nat.le_refl 0, by rw [Nat.pow_zero, Nat.div_one]; omega, rfl, by rw [Nat.pow_zero, Nat.div_one]; omega⟩
    have B0 : x0.toInt < ((2 ^ (16 + 16) : Nat) : Int) := by simp only [show ((2 ^ (16 + 16) : Nat) : Int) = 4294967296 from rfl]; omega
    obtain ⟨i1, hi1⟩ : ∃ z : Int32, z = (if x0 < (65536 : Int32) then x0 else ((x0.toUInt32 >>> ((16 : Int32) &&& 31).toUInt32).toInt32)) := ⟨_, rfl⟩
    obtain ⟨m1, hm1⟩ : ∃ z : Int32, z = (if x0 < (65536 : Int32) then (31 : Int32) else ((31 : Int32) + (-16 : Int32))) := ⟨_, rfl⟩
    refine RunsTo.of (T' := s₁) (g' := (mkF m 33 #[.val (.int i1), .val (.int m1)] [])) (fun tgt_ kt => ?_) ?_
    · by_cases hc22a : x0 < (65536 : Int32)
      · refine XS.icmpYes X0.here hx rfl (pc0 := 22) (pc' := 33) rfl (hb hby d8_22) rfl (tlt hc22a).1 (by decide) (by decide) ?_
        show Steps p.tables e below (s₁.setTop (mkF m 33 #[.val (.int x0), .val (.int (31 : Int32))] [])) _
        try rw [if_pos hc22a] at hi1
        rw [hi1] at kt
        try rw [if_pos hc22a] at hm1
        rw [hm1] at kt
        exact kt
      · refine XS.icmpNo X0.here hx rfl (hb hby d8_22) rfl (flt hc22a).1 ?_
        show Steps p.tables e below (s₁.setTop (mkF m 25 #[.val (.int x0), .val (.int (31 : Int32))] [])) _
        try rw [if_neg hc22a] at hi1
        rw [hi1] at kt
        try rw [if_neg hc22a] at hm1
        rw [hm1] at kt
        refine XS.iinc X0.here hx rfl (hb hby d8_25) rfl (l' := #[.val (.int x0), .val (.int ((31 : Int32) + (-16 : Int32)))]) rfl ?_
        show Steps p.tables e below (s₁.setTop (mkF m 28 #[.val (.int x0), .val (.int ((31 : Int32) + (-16 : Int32)))] [])) _
        refine XS.iloadN X0.here hx rfl (hb hby d8_28) rfl ?_
        show Steps p.tables e below (s₁.setTop (mkF m 29 #[.val (.int x0), .val (.int ((31 : Int32) + (-16 : Int32)))] [(.int x0)])) _
        refine XS.bipush X0.here hx rfl (hb hby d8_29) ?_
        show Steps p.tables e below (s₁.setTop (mkF m 31 #[.val (.int x0), .val (.int ((31 : Int32) + (-16 : Int32)))] [(.int (16 : Int32)), (.int x0)])) _
        refine XS.iushr X0.here hx rfl (hb hby d8_31) rfl ?_
        show Steps p.tables e below (s₁.setTop (mkF m 32 #[.val (.int x0), .val (.int ((31 : Int32) + (-16 : Int32)))] [(.int ((x0.toUInt32 >>> ((16 : Int32) &&& 31).toUInt32).toInt32))])) _
        refine XS.istoreN X0.here hx rfl (hb hby d8_32) rfl (l' := #[.val (.int ((x0.toUInt32 >>> ((16 : Int32) &&& 31).toUInt32).toInt32)), .val (.int ((31 : Int32) + (-16 : Int32)))]) rfl ?_
        show Steps p.tables e below (s₁.setTop (mkF m 33 #[.val (.int ((x0.toUInt32 >>> ((16 : Int32) &&& 31).toUInt32).toInt32)), .val (.int ((31 : Int32) + (-16 : Int32)))] [])) _
        exact kt
    obtain ⟨I1, B1⟩ : own_inv32 x0.toBitVec.toNat 16 i1 m1 ∧ i1.toInt < ((2 ^ 16 : Nat) : Int) := by rw [hi1, hm1]; exact own_step32 I0 65536 (-16) 16 16 (by decide) (by decide) (by decide) rfl rfl (by decide) B0
    refine RunsTo.of (T' := s₁) (g' := (mkF m 37 #[.val (.int i1), .val (.int m1)] [(.int (256 : Int32)), (.int i1)])) (fun tgt_ kt => ?_) ?_
    · refine XS.iloadN X0.here hx rfl (hb hby d8_33) rfl ?_
      show Steps p.tables e below (s₁.setTop (mkF m 34 #[.val (.int i1), .val (.int m1)] [(.int i1)])) _
      refine XS.sipush X0.here hx rfl (hb hby d8_34) ?_
      show Steps p.tables e below (s₁.setTop (mkF m 37 #[.val (.int i1), .val (.int m1)] [(.int (256 : Int32)), (.int i1)])) _
      exact kt
    obtain ⟨i2, hi2⟩ : ∃ z : Int32, z = (if i1 < (256 : Int32) then i1 else ((i1.toUInt32 >>> ((8 : Int32) &&& 31).toUInt32).toInt32)) := ⟨_, rfl⟩
    obtain ⟨m2, hm2⟩ : ∃ z : Int32, z = (if i1 < (256 : Int32) then m1 else (m1 + (-8 : Int32))) := ⟨_, rfl⟩
    refine RunsTo.of (T' := s₁) (g' := (mkF m 48 #[.val (.int i2), .val (.int m2)] [])) (fun tgt_ kt => ?_) ?_
    · by_cases hc37b : i1 < (256 : Int32)
      · refine XS.icmpYes X0.here hx rfl (pc0 := 37) (pc' := 48) rfl (hb hby d8_37) rfl (tlt hc37b).1 (by decide) (by decide) ?_
        show Steps p.tables e below (s₁.setTop (mkF m 48 #[.val (.int i1), .val (.int m1)] [])) _
        try rw [if_pos hc37b] at hi2
        rw [hi2] at kt
        try rw [if_pos hc37b] at hm2
        rw [hm2] at kt
        exact kt
      · refine XS.icmpNo X0.here hx rfl (hb hby d8_37) rfl (flt hc37b).1 ?_
        show Steps p.tables e below (s₁.setTop (mkF m 40 #[.val (.int i1), .val (.int m1)] [])) _
        try rw [if_neg hc37b] at hi2
        rw [hi2] at kt
        try rw [if_neg hc37b] at hm2
        rw [hm2] at kt
        refine XS.iinc X0.here hx rfl (hb hby d8_40) rfl (l' := #[.val (.int i1), .val (.int (m1 + (-8 : Int32)))]) rfl ?_
        show Steps p.tables e below (s₁.setTop (mkF m 43 #[.val (.int i1), .val (.int (m1 + (-8 : Int32)))] [])) _
        refine XS.iloadN X0.here hx rfl (hb hby d8_43) rfl ?_
        show Steps p.tables e below (s₁.setTop (mkF m 44 #[.val (.int i1), .val (.int (m1 + (-8 : Int32)))] [(.int i1)])) _
        refine XS.bipush X0.here hx rfl (hb hby d8_44) ?_
        show Steps p.tables e below (s₁.setTop (mkF m 46 #[.val (.int i1), .val (.int (m1 + (-8 : Int32)))] [(.int (8 : Int32)), (.int i1)])) _
        refine XS.iushr X0.here hx rfl (hb hby d8_46) rfl ?_
        show Steps p.tables e below (s₁.setTop (mkF m 47 #[.val (.int i1), .val (.int (m1 + (-8 : Int32)))] [(.int ((i1.toUInt32 >>> ((8 : Int32) &&& 31).toUInt32).toInt32))])) _
        refine XS.istoreN X0.here hx rfl (hb hby d8_47) rfl (l' := #[.val (.int ((i1.toUInt32 >>> ((8 : Int32) &&& 31).toUInt32).toInt32)), .val (.int (m1 + (-8 : Int32)))]) rfl ?_
        show Steps p.tables e below (s₁.setTop (mkF m 48 #[.val (.int ((i1.toUInt32 >>> ((8 : Int32) &&& 31).toUInt32).toInt32)), .val (.int (m1 + (-8 : Int32)))] [])) _
        exact kt
    obtain ⟨I2, B2⟩ : own_inv32 x0.toBitVec.toNat 24 i2 m2 ∧ i2.toInt < ((2 ^ 8 : Nat) : Int) := by rw [hi2, hm2]; exact own_step32 I1 256 (-8) 8 8 (by decide) (by decide) (by decide) rfl rfl (by decide) B1
    refine RunsTo.of (T' := s₁) (g' := (mkF m 51 #[.val (.int i2), .val (.int m2)] [(.int (16 : Int32)), (.int i2)])) (fun tgt_ kt => ?_) ?_
    · refine XS.iloadN X0.here hx rfl (hb hby d8_48) rfl ?_
      show Steps p.tables e below (s₁.setTop (mkF m 49 #[.val (.int i2), .val (.int m2)] [(.int i2)])) _
      refine XS.bipush X0.here hx rfl (hb hby d8_49) ?_
      show Steps p.tables e below (s₁.setTop (mkF m 51 #[.val (.int i2), .val (.int m2)] [(.int (16 : Int32)), (.int i2)])) _
      exact kt
    obtain ⟨i3, hi3⟩ : ∃ z : Int32, z = (if i2 < (16 : Int32) then i2 else ((i2.toUInt32 >>> ((4 : Int32) &&& 31).toUInt32).toInt32)) := ⟨_, rfl⟩
    obtain ⟨m3, hm3⟩ : ∃ z : Int32, z = (if i2 < (16 : Int32) then m2 else (m2 + (-4 : Int32))) := ⟨_, rfl⟩
    refine RunsTo.of (T' := s₁) (g' := (mkF m 61 #[.val (.int i3), .val (.int m3)] [])) (fun tgt_ kt => ?_) ?_
    · by_cases hc51c : i2 < (16 : Int32)
      · refine XS.icmpYes X0.here hx rfl (pc0 := 51) (pc' := 61) rfl (hb hby d8_51) rfl (tlt hc51c).1 (by decide) (by decide) ?_
        show Steps p.tables e below (s₁.setTop (mkF m 61 #[.val (.int i2), .val (.int m2)] [])) _
        try rw [if_pos hc51c] at hi3
        rw [hi3] at kt
        try rw [if_pos hc51c] at hm3
        rw [hm3] at kt
        exact kt
      · refine XS.icmpNo X0.here hx rfl (hb hby d8_51) rfl (flt hc51c).1 ?_
        show Steps p.tables e below (s₁.setTop (mkF m 54 #[.val (.int i2), .val (.int m2)] [])) _
        try rw [if_neg hc51c] at hi3
        rw [hi3] at kt
        try rw [if_neg hc51c] at hm3
        rw [hm3] at kt
        refine XS.iinc X0.here hx rfl (hb hby d8_54) rfl (l' := #[.val (.int i2), .val (.int (m2 + (-4 : Int32)))]) rfl ?_
        show Steps p.tables e below (s₁.setTop (mkF m 57 #[.val (.int i2), .val (.int (m2 + (-4 : Int32)))] [])) _
        refine XS.iloadN X0.here hx rfl (hb hby d8_57) rfl ?_
        show Steps p.tables e below (s₁.setTop (mkF m 58 #[.val (.int i2), .val (.int (m2 + (-4 : Int32)))] [(.int i2)])) _
        refine XS.iconst X0.here hx rfl (hb hby d8_58) ?_
        show Steps p.tables e below (s₁.setTop (mkF m 59 #[.val (.int i2), .val (.int (m2 + (-4 : Int32)))] [(.int (4 : Int32)), (.int i2)])) _
        refine XS.iushr X0.here hx rfl (hb hby d8_59) rfl ?_
        show Steps p.tables e below (s₁.setTop (mkF m 60 #[.val (.int i2), .val (.int (m2 + (-4 : Int32)))] [(.int ((i2.toUInt32 >>> ((4 : Int32) &&& 31).toUInt32).toInt32))])) _
        refine XS.istoreN X0.here hx rfl (hb hby d8_60) rfl (l' := #[.val (.int ((i2.toUInt32 >>> ((4 : Int32) &&& 31).toUInt32).toInt32)), .val (.int (m2 + (-4 : Int32)))]) rfl ?_
        show Steps p.tables e below (s₁.setTop (mkF m 61 #[.val (.int ((i2.toUInt32 >>> ((4 : Int32) &&& 31).toUInt32).toInt32)), .val (.int (m2 + (-4 : Int32)))] [])) _
        exact kt
    obtain ⟨I3, B3⟩ : own_inv32 x0.toBitVec.toNat 28 i3 m3 ∧ i3.toInt < ((2 ^ 4 : Nat) : Int) := by rw [hi3, hm3]; exact own_step32 I2 16 (-4) 4 4 (by decide) (by decide) (by decide) rfl rfl (by decide) B2
    refine RunsTo.of (T' := s₁) (g' := (mkF m 63 #[.val (.int i3), .val (.int m3)] [(.int (4 : Int32)), (.int i3)])) (fun tgt_ kt => ?_) ?_
    · refine XS.iloadN X0.here hx rfl (hb hby d8_61) rfl ?_
      show Steps p.tables e below (s₁.setTop (mkF m 62 #[.val (.int i3), .val (.int m3)] [(.int i3)])) _
      refine XS.iconst X0.here hx rfl (hb hby d8_62) ?_
      show Steps p.tables e below (s₁.setTop (mkF m 63 #[.val (.int i3), .val (.int m3)] [(.int (4 : Int32)), (.int i3)])) _
      exact kt
    obtain ⟨i4, hi4⟩ : ∃ z : Int32, z = (if i3 < (4 : Int32) then i3 else ((i3.toUInt32 >>> ((2 : Int32) &&& 31).toUInt32).toInt32)) := ⟨_, rfl⟩
    obtain ⟨m4, hm4⟩ : ∃ z : Int32, z = (if i3 < (4 : Int32) then m3 else (m3 + (-2 : Int32))) := ⟨_, rfl⟩
    refine RunsTo.of (T' := s₁) (g' := (mkF m 73 #[.val (.int i4), .val (.int m4)] [])) (fun tgt_ kt => ?_) ?_
    · by_cases hc63d : i3 < (4 : Int32)
      · refine XS.icmpYes X0.here hx rfl (pc0 := 63) (pc' := 73) rfl (hb hby d8_63) rfl (tlt hc63d).1 (by decide) (by decide) ?_
        show Steps p.tables e below (s₁.setTop (mkF m 73 #[.val (.int i3), .val (.int m3)] [])) _
        try rw [if_pos hc63d] at hi4
        rw [hi4] at kt
        try rw [if_pos hc63d] at hm4
        rw [hm4] at kt
        exact kt
      · refine XS.icmpNo X0.here hx rfl (hb hby d8_63) rfl (flt hc63d).1 ?_
        show Steps p.tables e below (s₁.setTop (mkF m 66 #[.val (.int i3), .val (.int m3)] [])) _
        try rw [if_neg hc63d] at hi4
        rw [hi4] at kt
        try rw [if_neg hc63d] at hm4
        rw [hm4] at kt
        refine XS.iinc X0.here hx rfl (hb hby d8_66) rfl (l' := #[.val (.int i3), .val (.int (m3 + (-2 : Int32)))]) rfl ?_
        show Steps p.tables e below (s₁.setTop (mkF m 69 #[.val (.int i3), .val (.int (m3 + (-2 : Int32)))] [])) _
        refine XS.iloadN X0.here hx rfl (hb hby d8_69) rfl ?_
        show Steps p.tables e below (s₁.setTop (mkF m 70 #[.val (.int i3), .val (.int (m3 + (-2 : Int32)))] [(.int i3)])) _
        refine XS.iconst X0.here hx rfl (hb hby d8_70) ?_
        show Steps p.tables e below (s₁.setTop (mkF m 71 #[.val (.int i3), .val (.int (m3 + (-2 : Int32)))] [(.int (2 : Int32)), (.int i3)])) _
        refine XS.iushr X0.here hx rfl (hb hby d8_71) rfl ?_
        show Steps p.tables e below (s₁.setTop (mkF m 72 #[.val (.int i3), .val (.int (m3 + (-2 : Int32)))] [(.int ((i3.toUInt32 >>> ((2 : Int32) &&& 31).toUInt32).toInt32))])) _
        refine XS.istoreN X0.here hx rfl (hb hby d8_72) rfl (l' := #[.val (.int ((i3.toUInt32 >>> ((2 : Int32) &&& 31).toUInt32).toInt32)), .val (.int (m3 + (-2 : Int32)))]) rfl ?_
        show Steps p.tables e below (s₁.setTop (mkF m 73 #[.val (.int ((i3.toUInt32 >>> ((2 : Int32) &&& 31).toUInt32).toInt32)), .val (.int (m3 + (-2 : Int32)))] [])) _
        exact kt
    obtain ⟨I4, B4⟩ : own_inv32 x0.toBitVec.toNat 30 i4 m4 ∧ i4.toInt < ((2 ^ 2 : Nat) : Int) := by rw [hi4, hm4]; exact own_step32 I3 4 (-2) 2 2 (by decide) (by decide) (by decide) rfl rfl (by decide) B3
    refine RunsTo.of (T' := s₁) (g' := (mkF m 78 #[.val (.int i4), .val (.int m4)] [(.int (m4 - ((i4.toUInt32 >>> ((1 : Int32) &&& 31).toUInt32).toInt32)))])) (fun tgt_ kt => ?_) ?_
    · refine XS.iloadN X0.here hx rfl (hb hby d8_73) rfl ?_
      show Steps p.tables e below (s₁.setTop (mkF m 74 #[.val (.int i4), .val (.int m4)] [(.int m4)])) _
      refine XS.iloadN X0.here hx rfl (hb hby d8_74) rfl ?_
      show Steps p.tables e below (s₁.setTop (mkF m 75 #[.val (.int i4), .val (.int m4)] [(.int i4), (.int m4)])) _
      refine XS.iconst X0.here hx rfl (hb hby d8_75) ?_
      show Steps p.tables e below (s₁.setTop (mkF m 76 #[.val (.int i4), .val (.int m4)] [(.int (1 : Int32)), (.int i4), (.int m4)])) _
      refine XS.iushr X0.here hx rfl (hb hby d8_76) rfl ?_
      show Steps p.tables e below (s₁.setTop (mkF m 77 #[.val (.int i4), .val (.int m4)] [(.int ((i4.toUInt32 >>> ((1 : Int32) &&& 31).toUInt32).toInt32)), (.int m4)])) _
      refine XS.isub X0.here hx rfl (hb hby d8_77) rfl ?_
      show Steps p.tables e below (s₁.setTop (mkF m 78 #[.val (.int i4), .val (.int m4)] [(.int (m4 - ((i4.toUInt32 >>> ((1 : Int32) &&& 31).toUInt32).toInt32)))])) _
      exact kt
    refine RunsTo.retI X0 hx Bd.returns Bd.notSynchronized (hb hby d8_78) ?_ (by decide) (by decide)
    rw [e0]
    exact ⟨_, rfl, N0, rfl, own_last32 I4 (by decide) B4⟩
  · refine RunsTo.of (T' := s₁) (g' := (mkF m 5 #[.val (.int x0), .unset] [(.int x0)])) (fun tgt_ kt => ?_) ?_
    · refine XS.ifNo X0.here hx rfl (hb hby d8_1) rfl ((if0 _ _).trans (flt hpos).2.2.1) ?_
      show Steps p.tables e below (s₁.setTop (mkF m 4 #[.val (.int x0), .unset] [])) _
      refine XS.iloadN X0.here hx rfl (hb hby d8_4) rfl ?_
      show Steps p.tables e below (s₁.setTop (mkF m 5 #[.val (.int x0), .unset] [(.int x0)])) _
      exact kt
    obtain ⟨y, hy⟩ : ∃ z : Int32, z = (if x0 = (0 : Int32) then (32 : Int32) else (0 : Int32)) := ⟨_, rfl⟩
    refine RunsTo.of (T' := s₁) (g' := (mkF m 14 #[.val (.int x0), .unset] [(.int y)])) (fun tgt_ kt => ?_) ?_
    · by_cases hc5 : x0 = (0 : Int32)
      · refine XS.ifNo X0.here hx rfl (hb hby d8_5) rfl ((if0 _ _).trans (teq hc5).2) ?_
        show Steps p.tables e below (s₁.setTop (mkF m 8 #[.val (.int x0), .unset] [])) _
        try rw [if_pos hc5] at hy
        rw [hy] at kt
        refine XS.bipush X0.here hx rfl (hb hby d8_8) ?_
        show Steps p.tables e below (s₁.setTop (mkF m 10 #[.val (.int x0), .unset] [(.int (32 : Int32))])) _
        refine XS.goto X0.here hx rfl (pc0 := 10) (pc' := 14) rfl (hb hby d8_10) (by decide) (by decide) ?_
        show Steps p.tables e below (s₁.setTop (mkF m 14 #[.val (.int x0), .unset] [(.int (32 : Int32))])) _
        exact kt
      · refine XS.ifYes X0.here hx rfl (pc0 := 5) (pc' := 13) rfl (hb hby d8_5) rfl ((if0 _ _).trans (feq hc5).2) (by decide) (by decide) ?_
        show Steps p.tables e below (s₁.setTop (mkF m 13 #[.val (.int x0), .unset] [])) _
        try rw [if_neg hc5] at hy
        rw [hy] at kt
        refine XS.iconst X0.here hx rfl (hb hby d8_13) ?_
        show Steps p.tables e below (s₁.setTop (mkF m 14 #[.val (.int x0), .unset] [(.int (0 : Int32))])) _
        exact kt
    refine RunsTo.retI X0 hx Bd.returns Bd.notSynchronized (hb hby d8_14) ?_ (by decide) (by decide)
    rw [e0]
    refine ⟨_, rfl, N0, rfl, ?_⟩
    have hneg : x0.toInt ≤ 0 := by rw [Int32.lt_iff_toInt_lt] at hpos; have : (0 : Int32).toInt = 0 := rfl; omega
    rw [hy]
    by_cases q : x0 = 0
    · rw [if_pos q, q]; decide
    · rw [if_neg q]
      have hb := BitVec.toInt_eq_toNat_cond x0.toBitVec
      have hl := x0.toBitVec.isLt
      have hne : x0.toInt ≠ 0 := fun z => q (Int32.toInt_inj.mp z)
      have he : x0.toInt = x0.toBitVec.toInt := rfl
      rw [he, hb] at hneg hne
      have hge : 2147483648 ≤ x0.toBitVec.toNat := by
        split at hneg <;> rename_i c
        · rw [if_pos c] at hne; omega
        · omega
      unfold own_lz32
      rw [if_neg (by omega), (Nat.log2_eq_iff (by omega) (k := 31)).mpr ⟨by omega, by omega⟩]
      rfl
theorem d7_0 : decode jdk_35_method_48_code 0 = .ok (.lload_n 0, 1) := by decide +kernel
theorem d7_1 : decode jdk_35_method_48_code 1 = .ok (.bipush 32, 2) := by decide +kernel
theorem d7_3 : decode jdk_35_method_48_code 3 = .ok (.lushr, 1) := by decide +kernel
theorem d7_4 : decode jdk_35_method_48_code 4 = .ok (.l2i, 1) := by decide +kernel
theorem d7_5 : decode jdk_35_method_48_code 5 = .ok (.istore_n 2, 1) := by decide +kernel
theorem d7_6 : decode jdk_35_method_48_code 6 = .ok (.iload_n 2, 1) := by decide +kernel
theorem d7_7 : decode jdk_35_method_48_code 7 = .ok (.ifCond .ne 14, 3) := by decide +kernel
theorem d7_10 : decode jdk_35_method_48_code 10 = .ok (.bipush 32, 2) := by decide +kernel
theorem d7_12 : decode jdk_35_method_48_code 12 = .ok (.lload_n 0, 1) := by decide +kernel
theorem d7_13 : decode jdk_35_method_48_code 13 = .ok (.l2i, 1) := by decide +kernel
theorem pd_0 : parseMethodDescriptor "(I)I" = some ⟨[.int], some .int⟩ := by decide +kernel
theorem d7_14 : decode jdk_35_method_48_code 14 = .ok (.invokestatic 308, 3) := by decide +kernel
theorem d7_17 : decode jdk_35_method_48_code 17 = .ok (.iadd, 1) := by decide +kernel
theorem d7_18 : decode jdk_35_method_48_code 18 = .ok (.goto 7, 3) := by decide +kernel
theorem d7_25 : decode jdk_35_method_48_code 25 = .ok (.ireturn, 1) := by decide +kernel
theorem d7_21 : decode jdk_35_method_48_code 21 = .ok (.iload_n 2, 1) := by decide +kernel
theorem d7_22 : decode jdk_35_method_48_code 22 = .ok (.invokestatic 308, 3) := by decide +kernel
theorem pn_1 : plainName "java/lang/Long" = true := by first | (simp [plainName, overriddenIn]; done) | decide +kernel
theorem ef_rm_nlz64 (m : MethodId) (x0 : Int64) : entryFrame m #[(.long x0)] 3 = mkF m 0 #[.val (.long x0), .second, .unset] [] := by first | (simp [entryFrame, mkF, argsToLocals, Value.category]; done) | rfl
def Q_nlz64 (Z : State) (x0 : Int64) (h0 : Heap) (n0 : Nat) (v : Option Value) (h : Heap) (L : List Loc) : Prop := ∃ r : Int32, v = some (.int r) ∧ Fr n0 L ∧ h = h0 ∧ r.toInt = 63 - (x0.toInt.toNat.log2 : Int)
set_option maxRecDepth 65536 in
set_option maxHeartbeats 40000000 in
theorem rm_nlz64 (l : Launch) (Z : State) (a0 : Array Value) (hw : ∀ d ∈ tables_1, d.before a0 Z = true) (ws : List Jvm.Cond) (x0 : Int64) (h0 : Heap) (n0 : Nat) (Z0 : n0 ≤ h0.size) (hx0 : 0 < x0.toInt) :
    MetFree l (⟨"java/lang/Long", "numberOfLeadingZeros", "(J)I"⟩ : MethodName) (head1 (Jvm.Cond.code (⟨"java/lang/Long", "numberOfLeadingZeros", "(J)I"⟩ : MethodName) jdk_35_method_48_code 3 (some .int) :: ws) ({ frames := 1, cells := 0, slots := 0, locals := 14 } : Room)) (fun as' U => as' = #[(.long x0)] ∧ Z.Warmed39 U.vm ∧ U.heap = h0) (fun _ _ _ _ _ => True) (fun _ U_ o_ U'_ => ∃ v_ L_, o_ = .returned v_ ∧ Q_nlz64 Z x0 h0 n0 v_ U'_.heap L_ ∧ FrameEnd U_ o_ U'_ L_ ({ frames := 1, cells := 0, slots := 0, locals := 14 } : Room).cells ({ frames := 1, cells := 0, slots := 0, locals := 14 } : Room).slots) := by
  refine MetFree.of_bodySF (plainFor_of_name pn_1) hisR ?_
  intro p e s m args below meth c s₁ Bd hml0 hP hK
  obtain ⟨rfl, hZ, hh⟩ := hP
  have hx := Bd.exec
  have hby := Bd.bytes
  have hml : c.maxLocals = 3 := hml0
  have hown : s.vm.findClass "java/lang/Long" = some m.cls := findClass_of_methodNamed Bd.named
  have hnm := (name_of_methodNamed Bd.named Bd.method).1
  have X0 : Stand p l e ({ frames := 1, cells := 0, slots := 0, locals := 14 } : Room) s m #[(.long x0)] below meth c s₁ [] 0 0 := Stand.of_body Bd
  have e0 : s₁.heap = h0 := by rw [← hh, Bd.state]; rfl
  have N0 := Fr.nil n0
  refine RunsTo.start (ef_rm_nlz64 m x0) ?_
  show RunsTo p e below s s₁ (mkF m 0 #[.val (.long x0), .second, .unset] []) (Q_nlz64 Z x0 h0 n0) ({ frames := 1, cells := 0, slots := 0, locals := 14 } : Room).cells ({ frames := 1, cells := 0, slots := 0, locals := 14 } : Room).slots
  refine RunsTo.of (T' := s₁) (g' := (mkF m 7 #[.val (.long x0), .second, .val (.int ((x0.toUInt64 >>> ((32 : Int32) &&& 0x3f).toInt64.toUInt64).toInt64).toInt32)] [(.int ((x0.toUInt64 >>> ((32 : Int32) &&& 0x3f).toInt64.toUInt64).toInt64).toInt32)])) (fun tgt_ kt => ?_) ?_
  · refine XS.lloadN X0.here hx rfl (hb hby d7_0) rfl ?_
    show Steps p.tables e below (s₁.setTop (mkF m 1 #[.val (.long x0), .second, .unset] [(.long x0)])) _
    refine XS.bipush X0.here hx rfl (hb hby d7_1) ?_
    show Steps p.tables e below (s₁.setTop (mkF m 3 #[.val (.long x0), .second, .unset] [(.int (32 : Int32)), (.long x0)])) _
    refine XS.lushr X0.here hx rfl (hb hby d7_3) rfl ?_
    show Steps p.tables e below (s₁.setTop (mkF m 4 #[.val (.long x0), .second, .unset] [(.long ((x0.toUInt64 >>> ((32 : Int32) &&& 0x3f).toInt64.toUInt64).toInt64))])) _
    refine XS.l2i X0.here hx rfl (hb hby d7_4) rfl ?_
    show Steps p.tables e below (s₁.setTop (mkF m 5 #[.val (.long x0), .second, .unset] [(.int ((x0.toUInt64 >>> ((32 : Int32) &&& 0x3f).toInt64.toUInt64).toInt64).toInt32)])) _
    refine XS.istoreN X0.here hx rfl (hb hby d7_5) rfl (l' := #[.val (.long x0), .second, .val (.int ((x0.toUInt64 >>> ((32 : Int32) &&& 0x3f).toInt64.toUInt64).toInt64).toInt32)]) rfl ?_
    show Steps p.tables e below (s₁.setTop (mkF m 6 #[.val (.long x0), .second, .val (.int ((x0.toUInt64 >>> ((32 : Int32) &&& 0x3f).toInt64.toUInt64).toInt64).toInt32)] [])) _
    refine XS.iloadN X0.here hx rfl (hb hby d7_6) rfl ?_
    show Steps p.tables e below (s₁.setTop (mkF m 7 #[.val (.long x0), .second, .val (.int ((x0.toUInt64 >>> ((32 : Int32) &&& 0x3f).toInt64.toUInt64).toInt64).toInt32)] [(.int ((x0.toUInt64 >>> ((32 : Int32) &&& 0x3f).toInt64.toUInt64).toInt64).toInt32)])) _
    exact kt
  by_cases hz : ((x0.toUInt64 >>> ((32 : Int32) &&& 0x3f).toInt64.toUInt64).toInt64).toInt32 = (0 : Int32)
  · refine RunsTo.of (T' := s₁) (g' := (mkF m 14 #[.val (.long x0), .second, .val (.int ((x0.toUInt64 >>> ((32 : Int32) &&& 0x3f).toInt64.toUInt64).toInt64).toInt32)] [(.int x0.toInt32), (.int (32 : Int32))])) (fun tgt_ kt => ?_) ?_
    · refine XS.ifNo X0.here hx rfl (hb hby d7_7) rfl ((if0 _ _).trans (teq hz).2) ?_
      show Steps p.tables e below (s₁.setTop (mkF m 10 #[.val (.long x0), .second, .val (.int ((x0.toUInt64 >>> ((32 : Int32) &&& 0x3f).toInt64.toUInt64).toInt64).toInt32)] [])) _
      refine XS.bipush X0.here hx rfl (hb hby d7_10) ?_
      show Steps p.tables e below (s₁.setTop (mkF m 12 #[.val (.long x0), .second, .val (.int ((x0.toUInt64 >>> ((32 : Int32) &&& 0x3f).toInt64.toUInt64).toInt64).toInt32)] [(.int (32 : Int32))])) _
      refine XS.lloadN X0.here hx rfl (hb hby d7_12) rfl ?_
      show Steps p.tables e below (s₁.setTop (mkF m 13 #[.val (.long x0), .second, .val (.int ((x0.toUInt64 >>> ((32 : Int32) &&& 0x3f).toInt64.toUInt64).toInt64).toInt32)] [(.long x0), (.int (32 : Int32))])) _
      refine XS.l2i X0.here hx rfl (hb hby d7_13) rfl ?_
      show Steps p.tables e below (s₁.setTop (mkF m 14 #[.val (.long x0), .second, .val (.int ((x0.toUInt64 >>> ((32 : Int32) &&& 0x3f).toInt64.toUInt64).toInt64).toInt32)] [(.int x0.toInt32), (.int (32 : Int32))])) _
      exact kt
    obtain ⟨_, _, ⟨T1, L1, k1, n1⟩, -, X1, ⟨Lc1, hQ1, l1, y1, z1⟩, st1⟩ := Jvm.LawKit.callS X0 hx (y := (⟨"java/lang/Integer", "numberOfLeadingZeros", "(I)I"⟩ : MethodName)) hown (mvT hZ (hw _ (List.mem_of_getElem? (i := 40) rfl))) (mvT hZ (hw _ (List.mem_of_getElem? (i := 41) rfl))) (mvT hZ (hw _ (List.mem_of_getElem? (i := 42) rfl))) (mvT hZ (hw _ (List.mem_of_getElem? (i := 43) rfl))) (by decide) (backOf (W := 1) (rm_nlz32 l Z a0 hw [] x0.toInt32 h0 n0 Z0 ) hZ (hw _ (List.mem_of_getElem? (i := 43) rfl)) (hw _ (List.mem_of_getElem? (i := 42) rfl)) (by decide) (by decide)) (g := (mkF m 14 #[.val (.long x0), .second, .val (.int ((x0.toUInt64 >>> ((32 : Int32) &&& 0x3f).toInt64.toUInt64).toInt64).toInt32)] [(.int x0.toInt32), (.int (32 : Int32))])) rfl (by rw [hml]; rfl) (argsL := [(.int x0.toInt32)]) (rest := [(.int (32 : Int32))]) (lenOf pd_0 rfl) rfl (by show 2 * 0 + _ ≤ _; exact Nat.le_of_eq rfl) (hb hby d7_14) (fun _ _ => ⟨rfl, e0, (by decide : 0 + 0 ≤ _), (by decide : 0 + 0 ≤ _)⟩)
    dsimp only [Pt.U, Pt.locs, Pt.cells, Pt.slots] at X1 l1 y1 z1 st1 hQ1
    subst l1 y1 z1
    obtain ⟨r1, rfl, N1q, e1, hr1⟩ := hQ1
    have N1 := Fr.app N0 N1q
    refine RunsTo.of (T' := T1) (g' := (mkF m 17 #[.val (.long x0), .second, .val (.int ((x0.toUInt64 >>> ((32 : Int32) &&& 0x3f).toInt64.toUInt64).toInt64).toInt32)] [(.int r1), (.int (32 : Int32))])) st1 ?_
    refine RunsTo.of (T' := T1) (g' := (mkF m 25 #[.val (.long x0), .second, .val (.int ((x0.toUInt64 >>> ((32 : Int32) &&& 0x3f).toInt64.toUInt64).toInt64).toInt32)] [(.int ((32 : Int32) + r1))])) (fun tgt_ kt => ?_) ?_
    · refine XS.iadd X1.here hx rfl (hb hby d7_17) rfl ?_
      show Steps p.tables e below (T1.setTop (mkF m 18 #[.val (.long x0), .second, .val (.int ((x0.toUInt64 >>> ((32 : Int32) &&& 0x3f).toInt64.toUInt64).toInt64).toInt32)] [(.int ((32 : Int32) + r1))])) _
      refine XS.goto X1.here hx rfl (pc0 := 18) (pc' := 25) rfl (hb hby d7_18) (by decide) (by decide) ?_
      show Steps p.tables e below (T1.setTop (mkF m 25 #[.val (.long x0), .second, .val (.int ((x0.toUInt64 >>> ((32 : Int32) &&& 0x3f).toInt64.toUInt64).toInt64).toInt32)] [(.int ((32 : Int32) + r1))])) _
      exact kt
    refine RunsTo.retI X1 hx Bd.returns Bd.notSynchronized (hb hby d7_25) ?_ (by decide) (by decide)
    rw [e1]
    exact ⟨_, rfl, N1, rfl, own_lz_lo x0 r1 hx0 hz hr1⟩
  · refine RunsTo.of (T' := s₁) (g' := (mkF m 22 #[.val (.long x0), .second, .val (.int ((x0.toUInt64 >>> ((32 : Int32) &&& 0x3f).toInt64.toUInt64).toInt64).toInt32)] [(.int ((x0.toUInt64 >>> ((32 : Int32) &&& 0x3f).toInt64.toUInt64).toInt64).toInt32)])) (fun tgt_ kt => ?_) ?_
    · refine XS.ifYes X0.here hx rfl (pc0 := 7) (pc' := 21) rfl (hb hby d7_7) rfl ((if0 _ _).trans (feq hz).2) (by decide) (by decide) ?_
      show Steps p.tables e below (s₁.setTop (mkF m 21 #[.val (.long x0), .second, .val (.int ((x0.toUInt64 >>> ((32 : Int32) &&& 0x3f).toInt64.toUInt64).toInt64).toInt32)] [])) _
      refine XS.iloadN X0.here hx rfl (hb hby d7_21) rfl ?_
      show Steps p.tables e below (s₁.setTop (mkF m 22 #[.val (.long x0), .second, .val (.int ((x0.toUInt64 >>> ((32 : Int32) &&& 0x3f).toInt64.toUInt64).toInt64).toInt32)] [(.int ((x0.toUInt64 >>> ((32 : Int32) &&& 0x3f).toInt64.toUInt64).toInt64).toInt32)])) _
      exact kt
    obtain ⟨_, _, ⟨T2, L2, k2, n2⟩, -, X2, ⟨Lc2, hQ2, l2, y2, z2⟩, st2⟩ := Jvm.LawKit.callS X0 hx (y := (⟨"java/lang/Integer", "numberOfLeadingZeros", "(I)I"⟩ : MethodName)) hown (mvT hZ (hw _ (List.mem_of_getElem? (i := 40) rfl))) (mvT hZ (hw _ (List.mem_of_getElem? (i := 41) rfl))) (mvT hZ (hw _ (List.mem_of_getElem? (i := 42) rfl))) (mvT hZ (hw _ (List.mem_of_getElem? (i := 43) rfl))) (by decide) (backOf (W := 0) (rm_nlz32 l Z a0 hw [] ((x0.toUInt64 >>> ((32 : Int32) &&& 0x3f).toInt64.toUInt64).toInt64).toInt32 h0 n0 Z0 ) hZ (hw _ (List.mem_of_getElem? (i := 43) rfl)) (hw _ (List.mem_of_getElem? (i := 42) rfl)) (by decide) (by decide)) (g := (mkF m 22 #[.val (.long x0), .second, .val (.int ((x0.toUInt64 >>> ((32 : Int32) &&& 0x3f).toInt64.toUInt64).toInt64).toInt32)] [(.int ((x0.toUInt64 >>> ((32 : Int32) &&& 0x3f).toInt64.toUInt64).toInt64).toInt32)])) rfl (by rw [hml]; rfl) (argsL := [(.int ((x0.toUInt64 >>> ((32 : Int32) &&& 0x3f).toInt64.toUInt64).toInt64).toInt32)]) (rest := []) (lenOf pd_0 rfl) rfl (by show 2 * 0 + _ ≤ _; exact Nat.le_of_eq rfl) (hb hby d7_22) (fun _ _ => ⟨rfl, e0, (by decide : 0 + 0 ≤ _), (by decide : 0 + 0 ≤ _)⟩)
    dsimp only [Pt.U, Pt.locs, Pt.cells, Pt.slots] at X2 l2 y2 z2 st2 hQ2
    subst l2 y2 z2
    obtain ⟨r2, rfl, N2q, e2, hr2⟩ := hQ2
    have N2 := Fr.app N0 N2q
    refine RunsTo.of (T' := T2) (g' := (mkF m 25 #[.val (.long x0), .second, .val (.int ((x0.toUInt64 >>> ((32 : Int32) &&& 0x3f).toInt64.toUInt64).toInt64).toInt32)] [(.int r2)])) st2 ?_
    refine RunsTo.retI X2 hx Bd.returns Bd.notSynchronized (hb hby d7_25) ?_ (by decide) (by decide)
    rw [e2]
    exact ⟨_, rfl, N2, rfl, own_lz_hi x0 r2 hx0 hz hr2⟩
theorem d6_0 : decode prog_26_method_5_code 0 = .ok (.lload_n 0, 1) := by decide +kernel
theorem d6_1 : decode prog_26_method_5_code 1 = .ok (.ldc2_w 41, 3) := by decide +kernel
theorem d6_4 : decode prog_26_method_5_code 4 = .ok (.lcmp, 1) := by decide +kernel
theorem d6_5 : decode prog_26_method_5_code 5 = .ok (.ifCond .ge 6, 3) := by decide +kernel
theorem d6_8 : decode prog_26_method_5_code 8 = .ok (.lload_n 0, 1) := by decide +kernel
theorem d6_9 : decode prog_26_method_5_code 9 = .ok (.l2i, 1) := by decide +kernel
theorem d6_10 : decode prog_26_method_5_code 10 = .ok (.ireturn, 1) := by decide +kernel
theorem d6_11 : decode prog_26_method_5_code 11 = .ok (.bipush 64, 2) := by decide +kernel
theorem d6_13 : decode prog_26_method_5_code 13 = .ok (.lload_n 0, 1) := by decide +kernel
theorem pd_1 : parseMethodDescriptor "(J)I" = some ⟨[.long], some .int⟩ := by decide +kernel
theorem d6_14 : decode prog_26_method_5_code 14 = .ok (.invokestatic 43, 3) := by decide +kernel
theorem d6_17 : decode prog_26_method_5_code 17 = .ok (.isub, 1) := by decide +kernel
theorem d6_18 : decode prog_26_method_5_code 18 = .ok (.bipush 11, 2) := by decide +kernel
theorem d6_20 : decode prog_26_method_5_code 20 = .ok (.isub, 1) := by decide +kernel
theorem d6_21 : decode prog_26_method_5_code 21 = .ok (.istore_n 2, 1) := by decide +kernel
theorem d6_22 : decode prog_26_method_5_code 22 = .ok (.sipush 2048, 3) := by decide +kernel
theorem d6_25 : decode prog_26_method_5_code 25 = .ok (.iload_n 2, 1) := by decide +kernel
theorem d6_26 : decode prog_26_method_5_code 26 = .ok (.iconst 1, 1) := by decide +kernel
theorem d6_27 : decode prog_26_method_5_code 27 = .ok (.isub, 1) := by decide +kernel
theorem d6_28 : decode prog_26_method_5_code 28 = .ok (.sipush 1024, 3) := by decide +kernel
theorem d6_31 : decode prog_26_method_5_code 31 = .ok (.imul, 1) := by decide +kernel
theorem d6_32 : decode prog_26_method_5_code 32 = .ok (.iadd, 1) := by decide +kernel
theorem d6_33 : decode prog_26_method_5_code 33 = .ok (.lload_n 0, 1) := by decide +kernel
theorem d6_34 : decode prog_26_method_5_code 34 = .ok (.iload_n 2, 1) := by decide +kernel
theorem d6_35 : decode prog_26_method_5_code 35 = .ok (.lushr, 1) := by decide +kernel
theorem d6_36 : decode prog_26_method_5_code 36 = .ok (.l2i, 1) := by decide +kernel
theorem d6_37 : decode prog_26_method_5_code 37 = .ok (.iadd, 1) := by decide +kernel
theorem d6_38 : decode prog_26_method_5_code 38 = .ok (.sipush 1024, 3) := by decide +kernel
theorem d6_41 : decode prog_26_method_5_code 41 = .ok (.isub, 1) := by decide +kernel
theorem d6_42 : decode prog_26_method_5_code 42 = .ok (.ireturn, 1) := by decide +kernel
theorem pn_2 : plainName "com/example/iron_latch/ironlatch/cli/PairTimes" = true := by first | (simp [plainName, overriddenIn]; done) | decide +kernel
theorem ef_rm_index (m : MethodId) (x0 : Int64) : entryFrame m #[(.long x0)] 3 = mkF m 0 #[.val (.long x0), .second, .unset] [] := by first | (simp [entryFrame, mkF, argsToLocals, Value.category]; done) | rfl
def Q_index (Z : State) (x0 : Int64) (h0 : Heap) (n0 : Nat) (v : Option Value) (h : Heap) (L : List Loc) : Prop := ∃ r : Int32, v = some (.int r) ∧ Fr n0 L ∧ h = h0 ∧ r.toInt = own_idx x0.toInt.toNat
set_option maxRecDepth 65536 in
set_option maxHeartbeats 40000000 in
theorem rm_index (l : Launch) (Z : State) (a0 : Array Value) (hw : ∀ d ∈ tables_1, d.before a0 Z = true) (ws : List Jvm.Cond) (x0 : Int64) (h0 : Heap) (n0 : Nat) (Z0 : n0 ≤ h0.size) (hx0 : 0 ≤ x0.toInt ∧ x0.toInt < 18014398509481984) :
    MetFree l (⟨"com/example/iron_latch/ironlatch/cli/PairTimes", "index", "(J)I"⟩ : MethodName) (head1 (Jvm.Cond.code (⟨"com/example/iron_latch/ironlatch/cli/PairTimes", "index", "(J)I"⟩ : MethodName) prog_26_method_5_code 3 (some .int) :: ws) ({ frames := 2, cells := 0, slots := 0, locals := 29 } : Room)) (fun as' U => as' = #[(.long x0)] ∧ Z.Warmed39 U.vm ∧ U.heap = h0) (fun _ _ _ _ _ => True) (fun _ U_ o_ U'_ => ∃ v_ L_, o_ = .returned v_ ∧ Q_index Z x0 h0 n0 v_ U'_.heap L_ ∧ FrameEnd U_ o_ U'_ L_ ({ frames := 2, cells := 0, slots := 0, locals := 29 } : Room).cells ({ frames := 2, cells := 0, slots := 0, locals := 29 } : Room).slots) := by
  refine MetFree.of_bodySF (plainFor_of_name pn_2) hisR ?_
  intro p e s m args below meth c s₁ Bd hml0 hP hK
  obtain ⟨rfl, hZ, hh⟩ := hP
  have hx := Bd.exec
  have hby := Bd.bytes
  have hml : c.maxLocals = 3 := hml0
  have hown : s.vm.findClass "com/example/iron_latch/ironlatch/cli/PairTimes" = some m.cls := findClass_of_methodNamed Bd.named
  have hnm := (name_of_methodNamed Bd.named Bd.method).1
  have X0 : Stand p l e ({ frames := 2, cells := 0, slots := 0, locals := 29 } : Room) s m #[(.long x0)] below meth c s₁ [] 0 0 := Stand.of_body Bd
  have e0 : s₁.heap = h0 := by rw [← hh, Bd.state]; rfl
  have N0 := Fr.nil n0
  refine RunsTo.start (ef_rm_index m x0) ?_
  show RunsTo p e below s s₁ (mkF m 0 #[.val (.long x0), .second, .unset] []) (Q_index Z x0 h0 n0) ({ frames := 2, cells := 0, slots := 0, locals := 29 } : Room).cells ({ frames := 2, cells := 0, slots := 0, locals := 29 } : Room).slots
  refine RunsTo.of (T' := s₁) (g' := (mkF m 5 #[.val (.long x0), .second, .unset] [(.int (lcmpW x0 (2048 : Int64)))])) (fun tgt_ kt => ?_) ?_
  · refine XS.lloadN X0.here hx rfl (hb hby d6_0) rfl ?_
    show Steps p.tables e below (s₁.setTop (mkF m 1 #[.val (.long x0), .second, .unset] [(.long x0)])) _
    refine X0.ldc2Long hx hown (mvT hZ (hw _ (List.mem_of_getElem? (i := 33) rfl))) (g := (mkF m 1 #[.val (.long x0), .second, .unset] [(.long x0)])) rfl (hb hby d6_1) _ ?_
    show Steps p.tables e below (s₁.setTop (mkF m 4 #[.val (.long x0), .second, .unset] [(.long (2048 : Int64)), (.long x0)])) _
    refine XS.lcmp X0.here hx rfl (hb hby d6_4) rfl ?_
    show Steps p.tables e below (s₁.setTop (mkF m 5 #[.val (.long x0), .second, .unset] [(.int (lcmpW x0 (2048 : Int64)))])) _
    exact kt
  by_cases hlt : x0 < (2048 : Int64)
  · refine RunsTo.of (T' := s₁) (g' := (mkF m 10 #[.val (.long x0), .second, .unset] [(.int x0.toInt32)])) (fun tgt_ kt => ?_) ?_
    · refine XS.ifNo X0.here hx rfl (hb hby d6_5) rfl ((if0 _ _).trans (tlt ((lw_lt x0 (2048 : Int64)).mpr hlt)).2.1) ?_
      show Steps p.tables e below (s₁.setTop (mkF m 8 #[.val (.long x0), .second, .unset] [])) _
      refine XS.lloadN X0.here hx rfl (hb hby d6_8) rfl ?_
      show Steps p.tables e below (s₁.setTop (mkF m 9 #[.val (.long x0), .second, .unset] [(.long x0)])) _
      refine XS.l2i X0.here hx rfl (hb hby d6_9) rfl ?_
      show Steps p.tables e below (s₁.setTop (mkF m 10 #[.val (.long x0), .second, .unset] [(.int x0.toInt32)])) _
      exact kt
    refine RunsTo.retI X0 hx Bd.returns Bd.notSynchronized (hb hby d6_10) ?_ (by decide) (by decide)
    rw [e0]
    refine ⟨_, rfl, N0, rfl, ?_⟩
    rw [Int64.lt_iff_toInt_lt, show (2048 : Int64).toInt = 2048 from rfl] at hlt
    have a := c_l2i x0
    have b := rng32 x0.toInt32
    unfold own_idx
    rw [if_pos (by omega)]
    omega
  · refine RunsTo.of (T' := s₁) (g' := (mkF m 14 #[.val (.long x0), .second, .unset] [(.long x0), (.int (64 : Int32))])) (fun tgt_ kt => ?_) ?_
    · refine XS.ifYes X0.here hx rfl (pc0 := 5) (pc' := 11) rfl (hb hby d6_5) rfl ((if0 _ _).trans (flt (fun q_ => hlt ((lw_lt x0 (2048 : Int64)).mp q_))).2.1) (by decide) (by decide) ?_
      show Steps p.tables e below (s₁.setTop (mkF m 11 #[.val (.long x0), .second, .unset] [])) _
      refine XS.bipush X0.here hx rfl (hb hby d6_11) ?_
      show Steps p.tables e below (s₁.setTop (mkF m 13 #[.val (.long x0), .second, .unset] [(.int (64 : Int32))])) _
      refine XS.lloadN X0.here hx rfl (hb hby d6_13) rfl ?_
      show Steps p.tables e below (s₁.setTop (mkF m 14 #[.val (.long x0), .second, .unset] [(.long x0), (.int (64 : Int32))])) _
      exact kt
    have hge : 2048 ≤ x0.toInt := by rw [Int64.lt_iff_toInt_lt, show (2048 : Int64).toInt = 2048 from rfl] at hlt; omega
    obtain ⟨_, _, ⟨T1, L1, k1, n1⟩, -, X1, ⟨Lc1, hQ1, l1, y1, z1⟩, st1⟩ := Jvm.LawKit.callS X0 hx (y := (⟨"java/lang/Long", "numberOfLeadingZeros", "(J)I"⟩ : MethodName)) hown (mvT hZ (hw _ (List.mem_of_getElem? (i := 36) rfl))) (mvT hZ (hw _ (List.mem_of_getElem? (i := 37) rfl))) (mvT hZ (hw _ (List.mem_of_getElem? (i := 38) rfl))) (mvT hZ (hw _ (List.mem_of_getElem? (i := 39) rfl))) (by decide) (backOf (W := 1) (rm_nlz64 l Z a0 hw [] x0 h0 n0 Z0 (by omega)) hZ (hw _ (List.mem_of_getElem? (i := 39) rfl)) (hw _ (List.mem_of_getElem? (i := 38) rfl)) (by decide) (by decide)) (g := (mkF m 14 #[.val (.long x0), .second, .unset] [(.long x0), (.int (64 : Int32))])) rfl (by rw [hml]; rfl) (argsL := [(.long x0)]) (rest := [(.int (64 : Int32))]) (lenOf pd_1 rfl) rfl (by show 2 * 0 + _ ≤ _; exact Nat.le_of_eq rfl) (hb hby d6_14) (fun _ _ => ⟨rfl, e0, (by decide : 0 + 0 ≤ _), (by decide : 0 + 0 ≤ _)⟩)
    dsimp only [Pt.U, Pt.locs, Pt.cells, Pt.slots] at X1 l1 y1 z1 st1 hQ1
    subst l1 y1 z1
    obtain ⟨r1, rfl, N1q, e1, hr1⟩ := hQ1
    have N1 := Fr.app N0 N1q
    refine RunsTo.of (T' := T1) (g' := (mkF m 17 #[.val (.long x0), .second, .unset] [(.int r1), (.int (64 : Int32))])) st1 ?_
    obtain ⟨ss, hss, hs1, hs2⟩ := own_index_val x0 r1 hge hx0.2 hr1
    refine RunsTo.of (T' := T1) (g' := (mkF m 22 #[.val (.long x0), .second, .val (.int (((64 : Int32) - r1) - (11 : Int32)))] [])) (fun tgt_ kt => ?_) ?_
    · refine XS.isub X1.here hx rfl (hb hby d6_17) rfl ?_
      show Steps p.tables e below (T1.setTop (mkF m 18 #[.val (.long x0), .second, .unset] [(.int ((64 : Int32) - r1))])) _
      refine XS.bipush X1.here hx rfl (hb hby d6_18) ?_
      show Steps p.tables e below (T1.setTop (mkF m 20 #[.val (.long x0), .second, .unset] [(.int (11 : Int32)), (.int ((64 : Int32) - r1))])) _
      refine XS.isub X1.here hx rfl (hb hby d6_20) rfl ?_
      show Steps p.tables e below (T1.setTop (mkF m 21 #[.val (.long x0), .second, .unset] [(.int (((64 : Int32) - r1) - (11 : Int32)))])) _
      refine XS.istoreN X1.here hx rfl (hb hby d6_21) rfl (l' := #[.val (.long x0), .second, .val (.int (((64 : Int32) - r1) - (11 : Int32)))]) rfl ?_
      show Steps p.tables e below (T1.setTop (mkF m 22 #[.val (.long x0), .second, .val (.int (((64 : Int32) - r1) - (11 : Int32)))] [])) _
      exact kt
    rw [← hss]
    refine RunsTo.of (T' := T1) (g' := (mkF m 42 #[.val (.long x0), .second, .val (.int ss)] [(.int ((((2048 : Int32) + ((ss - (1 : Int32)) * (1024 : Int32))) + ((x0.toUInt64 >>> (ss &&& 0x3f).toInt64.toUInt64).toInt64).toInt32) - (1024 : Int32)))])) (fun tgt_ kt => ?_) ?_
    · refine XS.sipush X1.here hx rfl (hb hby d6_22) ?_
      show Steps p.tables e below (T1.setTop (mkF m 25 #[.val (.long x0), .second, .val (.int ss)] [(.int (2048 : Int32))])) _
      refine XS.iloadN X1.here hx rfl (hb hby d6_25) rfl ?_
      show Steps p.tables e below (T1.setTop (mkF m 26 #[.val (.long x0), .second, .val (.int ss)] [(.int ss), (.int (2048 : Int32))])) _
      refine XS.iconst X1.here hx rfl (hb hby d6_26) ?_
      show Steps p.tables e below (T1.setTop (mkF m 27 #[.val (.long x0), .second, .val (.int ss)] [(.int (1 : Int32)), (.int ss), (.int (2048 : Int32))])) _
      refine XS.isub X1.here hx rfl (hb hby d6_27) rfl ?_
      show Steps p.tables e below (T1.setTop (mkF m 28 #[.val (.long x0), .second, .val (.int ss)] [(.int (ss - (1 : Int32))), (.int (2048 : Int32))])) _
      refine XS.sipush X1.here hx rfl (hb hby d6_28) ?_
      show Steps p.tables e below (T1.setTop (mkF m 31 #[.val (.long x0), .second, .val (.int ss)] [(.int (1024 : Int32)), (.int (ss - (1 : Int32))), (.int (2048 : Int32))])) _
      refine XS.imul X1.here hx rfl (hb hby d6_31) rfl ?_
      show Steps p.tables e below (T1.setTop (mkF m 32 #[.val (.long x0), .second, .val (.int ss)] [(.int ((ss - (1 : Int32)) * (1024 : Int32))), (.int (2048 : Int32))])) _
      refine XS.iadd X1.here hx rfl (hb hby d6_32) rfl ?_
      show Steps p.tables e below (T1.setTop (mkF m 33 #[.val (.long x0), .second, .val (.int ss)] [(.int ((2048 : Int32) + ((ss - (1 : Int32)) * (1024 : Int32))))])) _
      refine XS.lloadN X1.here hx rfl (hb hby d6_33) rfl ?_
      show Steps p.tables e below (T1.setTop (mkF m 34 #[.val (.long x0), .second, .val (.int ss)] [(.long x0), (.int ((2048 : Int32) + ((ss - (1 : Int32)) * (1024 : Int32))))])) _
      refine XS.iloadN X1.here hx rfl (hb hby d6_34) rfl ?_
      show Steps p.tables e below (T1.setTop (mkF m 35 #[.val (.long x0), .second, .val (.int ss)] [(.int ss), (.long x0), (.int ((2048 : Int32) + ((ss - (1 : Int32)) * (1024 : Int32))))])) _
      refine XS.lushr X1.here hx rfl (hb hby d6_35) rfl ?_
      show Steps p.tables e below (T1.setTop (mkF m 36 #[.val (.long x0), .second, .val (.int ss)] [(.long ((x0.toUInt64 >>> (ss &&& 0x3f).toInt64.toUInt64).toInt64)), (.int ((2048 : Int32) + ((ss - (1 : Int32)) * (1024 : Int32))))])) _
      refine XS.l2i X1.here hx rfl (hb hby d6_36) rfl ?_
      show Steps p.tables e below (T1.setTop (mkF m 37 #[.val (.long x0), .second, .val (.int ss)] [(.int ((x0.toUInt64 >>> (ss &&& 0x3f).toInt64.toUInt64).toInt64).toInt32), (.int ((2048 : Int32) + ((ss - (1 : Int32)) * (1024 : Int32))))])) _
      refine XS.iadd X1.here hx rfl (hb hby d6_37) rfl ?_
      show Steps p.tables e below (T1.setTop (mkF m 38 #[.val (.long x0), .second, .val (.int ss)] [(.int (((2048 : Int32) + ((ss - (1 : Int32)) * (1024 : Int32))) + ((x0.toUInt64 >>> (ss &&& 0x3f).toInt64.toUInt64).toInt64).toInt32))])) _
      refine XS.sipush X1.here hx rfl (hb hby d6_38) ?_
      show Steps p.tables e below (T1.setTop (mkF m 41 #[.val (.long x0), .second, .val (.int ss)] [(.int (1024 : Int32)), (.int (((2048 : Int32) + ((ss - (1 : Int32)) * (1024 : Int32))) + ((x0.toUInt64 >>> (ss &&& 0x3f).toInt64.toUInt64).toInt64).toInt32))])) _
      refine XS.isub X1.here hx rfl (hb hby d6_41) rfl ?_
      show Steps p.tables e below (T1.setTop (mkF m 42 #[.val (.long x0), .second, .val (.int ss)] [(.int ((((2048 : Int32) + ((ss - (1 : Int32)) * (1024 : Int32))) + ((x0.toUInt64 >>> (ss &&& 0x3f).toInt64.toUInt64).toInt64).toInt32) - (1024 : Int32)))])) _
      exact kt
    refine RunsTo.retI X1 hx Bd.returns Bd.notSynchronized (hb hby d6_42) ?_ (by decide) (by decide)
    rw [e1]
    exact ⟨_, rfl, N1, rfl, hs2⟩
theorem d13_0 : decode prog_26_method_6_code 0 = .ok (.iload_n 0, 1) := by decide +kernel
theorem d13_1 : decode prog_26_method_6_code 1 = .ok (.sipush 2048, 3) := by decide +kernel
theorem d13_4 : decode prog_26_method_6_code 4 = .ok (.if_icmp .ge 6, 3) := by decide +kernel
theorem d13_7 : decode prog_26_method_6_code 7 = .ok (.iload_n 0, 1) := by decide +kernel
theorem d13_8 : decode prog_26_method_6_code 8 = .ok (.i2l, 1) := by decide +kernel
theorem d13_9 : decode prog_26_method_6_code 9 = .ok (.lreturn, 1) := by decide +kernel
theorem d13_10 : decode prog_26_method_6_code 10 = .ok (.iload_n 0, 1) := by decide +kernel
theorem d13_11 : decode prog_26_method_6_code 11 = .ok (.sipush 2048, 3) := by decide +kernel
theorem d13_14 : decode prog_26_method_6_code 14 = .ok (.isub, 1) := by decide +kernel
theorem d13_15 : decode prog_26_method_6_code 15 = .ok (.sipush 1024, 3) := by decide +kernel
theorem d13_18 : decode prog_26_method_6_code 18 = .ok (.idiv, 1) := by decide +kernel
theorem d13_19 : decode prog_26_method_6_code 19 = .ok (.iconst 1, 1) := by decide +kernel
theorem d13_20 : decode prog_26_method_6_code 20 = .ok (.iadd, 1) := by decide +kernel
theorem d13_21 : decode prog_26_method_6_code 21 = .ok (.istore_n 1, 1) := by decide +kernel
theorem d13_22 : decode prog_26_method_6_code 22 = .ok (.iload_n 0, 1) := by decide +kernel
theorem d13_23 : decode prog_26_method_6_code 23 = .ok (.sipush 2048, 3) := by decide +kernel
theorem d13_26 : decode prog_26_method_6_code 26 = .ok (.isub, 1) := by decide +kernel
theorem d13_27 : decode prog_26_method_6_code 27 = .ok (.sipush 1024, 3) := by decide +kernel
theorem d13_30 : decode prog_26_method_6_code 30 = .ok (.irem, 1) := by decide +kernel
theorem d13_31 : decode prog_26_method_6_code 31 = .ok (.sipush 1024, 3) := by decide +kernel
theorem d13_34 : decode prog_26_method_6_code 34 = .ok (.iadd, 1) := by decide +kernel
theorem d13_35 : decode prog_26_method_6_code 35 = .ok (.i2l, 1) := by decide +kernel
theorem d13_36 : decode prog_26_method_6_code 36 = .ok (.iload_n 1, 1) := by decide +kernel
theorem d13_37 : decode prog_26_method_6_code 37 = .ok (.lshl, 1) := by decide +kernel
theorem d13_38 : decode prog_26_method_6_code 38 = .ok (.lreturn, 1) := by decide +kernel
theorem ef_rm_micros (m : MethodId) (x0 : Int32) : entryFrame m #[(.int x0)] 2 = mkF m 0 #[.val (.int x0), .unset] [] := by first | (simp [entryFrame, mkF, argsToLocals, Value.category]; done) | rfl
def Q_micros (Z : State) (x0 : Int32) (h0 : Heap) (n0 : Nat) (v : Option Value) (h : Heap) (L : List Loc) : Prop := ∃ r : Int64, v = some (.long r) ∧ Fr n0 L ∧ h = h0 ∧ r.toInt = own_mic x0.toNatClampNeg
set_option maxRecDepth 65536 in
set_option maxHeartbeats 40000000 in
theorem rm_micros (l : Launch) (Z : State) (a0 : Array Value) (hw : ∀ d ∈ tables_1, d.before a0 Z = true) (ws : List Jvm.Cond) (x0 : Int32) (h0 : Heap) (n0 : Nat) (Z0 : n0 ≤ h0.size) (hx0 : 0 ≤ x0.toInt ∧ x0.toInt < 46080) :
    MetFree l (⟨"com/example/iron_latch/ironlatch/cli/PairTimes", "micros", "(I)J"⟩ : MethodName) (head1 (Jvm.Cond.code (⟨"com/example/iron_latch/ironlatch/cli/PairTimes", "micros", "(I)J"⟩ : MethodName) prog_26_method_6_code 2 (some .long) :: ws) ({ frames := 0, cells := 0, slots := 0, locals := 0 } : Room)) (fun as' U => as' = #[(.int x0)] ∧ Z.Warmed39 U.vm ∧ U.heap = h0) (fun _ _ _ _ _ => True) (fun _ U_ o_ U'_ => ∃ v_ L_, o_ = .returned v_ ∧ Q_micros Z x0 h0 n0 v_ U'_.heap L_ ∧ FrameEnd U_ o_ U'_ L_ ({ frames := 0, cells := 0, slots := 0, locals := 0 } : Room).cells ({ frames := 0, cells := 0, slots := 0, locals := 0 } : Room).slots) := by
  refine MetFree.of_bodySF (plainFor_of_name pn_2) hisR ?_
  intro p e s m args below meth c s₁ Bd hml0 hP hK
  obtain ⟨rfl, hZ, hh⟩ := hP
  have hx := Bd.exec
  have hby := Bd.bytes
  have hml : c.maxLocals = 2 := hml0
  have hown : s.vm.findClass "com/example/iron_latch/ironlatch/cli/PairTimes" = some m.cls := findClass_of_methodNamed Bd.named
  have hnm := (name_of_methodNamed Bd.named Bd.method).1
  have X0 : Stand p l e ({ frames := 0, cells := 0, slots := 0, locals := 0 } : Room) s m #[(.int x0)] below meth c s₁ [] 0 0 := Stand.of_body Bd
  have e0 : s₁.heap = h0 := by rw [← hh, Bd.state]; rfl
  have N0 := Fr.nil n0
  refine RunsTo.start (ef_rm_micros m x0) ?_
  show RunsTo p e below s s₁ (mkF m 0 #[.val (.int x0), .unset] []) (Q_micros Z x0 h0 n0) ({ frames := 0, cells := 0, slots := 0, locals := 0 } : Room).cells ({ frames := 0, cells := 0, slots := 0, locals := 0 } : Room).slots
  refine RunsTo.of (T' := s₁) (g' := (mkF m 4 #[.val (.int x0), .unset] [(.int (2048 : Int32)), (.int x0)])) (fun tgt_ kt => ?_) ?_
  · refine XS.iloadN X0.here hx rfl (hb hby d13_0) rfl ?_
    show Steps p.tables e below (s₁.setTop (mkF m 1 #[.val (.int x0), .unset] [(.int x0)])) _
    refine XS.sipush X0.here hx rfl (hb hby d13_1) ?_
    show Steps p.tables e below (s₁.setTop (mkF m 4 #[.val (.int x0), .unset] [(.int (2048 : Int32)), (.int x0)])) _
    exact kt
  by_cases hlt : x0 < (2048 : Int32)
  · refine RunsTo.of (T' := s₁) (g' := (mkF m 9 #[.val (.int x0), .unset] [(.long x0.toInt64)])) (fun tgt_ kt => ?_) ?_
    · refine XS.icmpNo X0.here hx rfl (hb hby d13_4) rfl (tlt hlt).2.1 ?_
      show Steps p.tables e below (s₁.setTop (mkF m 7 #[.val (.int x0), .unset] [])) _
      refine XS.iloadN X0.here hx rfl (hb hby d13_7) rfl ?_
      show Steps p.tables e below (s₁.setTop (mkF m 8 #[.val (.int x0), .unset] [(.int x0)])) _
      refine XS.i2l X0.here hx rfl (hb hby d13_8) rfl ?_
      show Steps p.tables e below (s₁.setTop (mkF m 9 #[.val (.int x0), .unset] [(.long x0.toInt64)])) _
      exact kt
    refine RunsTo.retJ X0 hx Bd.returns Bd.notSynchronized (hb hby d13_9) ?_ (by decide) (by decide)
    rw [e0]
    refine ⟨_, rfl, N0, rfl, ?_⟩
    rw [Int32.lt_iff_toInt_lt, show (2048 : Int32).toInt = 2048 from rfl] at hlt
    have a := c_i2l x0
    have b := own_nat x0 hx0.1
    unfold own_mic
    rw [if_pos (by omega)]
    omega
  · refine RunsTo.of (T' := s₁) (g' := (mkF m 38 #[.val (.int x0), .val (.int (((x0 - (2048 : Int32)) / (1024 : Int32)) + (1 : Int32)))] [(.long ((((x0 - (2048 : Int32)) % (1024 : Int32)) + (1024 : Int32)).toInt64 <<< ((((x0 - (2048 : Int32)) / (1024 : Int32)) + (1 : Int32)) &&& 0x3f).toInt64))])) (fun tgt_ kt => ?_) ?_
    · refine XS.icmpYes X0.here hx rfl (pc0 := 4) (pc' := 10) rfl (hb hby d13_4) rfl (flt hlt).2.1 (by decide) (by decide) ?_
      show Steps p.tables e below (s₁.setTop (mkF m 10 #[.val (.int x0), .unset] [])) _
      refine XS.iloadN X0.here hx rfl (hb hby d13_10) rfl ?_
      show Steps p.tables e below (s₁.setTop (mkF m 11 #[.val (.int x0), .unset] [(.int x0)])) _
      refine XS.sipush X0.here hx rfl (hb hby d13_11) ?_
      show Steps p.tables e below (s₁.setTop (mkF m 14 #[.val (.int x0), .unset] [(.int (2048 : Int32)), (.int x0)])) _
      refine XS.isub X0.here hx rfl (hb hby d13_14) rfl ?_
      show Steps p.tables e below (s₁.setTop (mkF m 15 #[.val (.int x0), .unset] [(.int (x0 - (2048 : Int32)))])) _
      refine XS.sipush X0.here hx rfl (hb hby d13_15) ?_
      show Steps p.tables e below (s₁.setTop (mkF m 18 #[.val (.int x0), .unset] [(.int (1024 : Int32)), (.int (x0 - (2048 : Int32)))])) _
      refine XS.idiv X0.here hx rfl (hb hby d13_18) rfl (by decide) ?_
      show Steps p.tables e below (s₁.setTop (mkF m 19 #[.val (.int x0), .unset] [(.int ((x0 - (2048 : Int32)) / (1024 : Int32)))])) _
      refine XS.iconst X0.here hx rfl (hb hby d13_19) ?_
      show Steps p.tables e below (s₁.setTop (mkF m 20 #[.val (.int x0), .unset] [(.int (1 : Int32)), (.int ((x0 - (2048 : Int32)) / (1024 : Int32)))])) _
      refine XS.iadd X0.here hx rfl (hb hby d13_20) rfl ?_
      show Steps p.tables e below (s₁.setTop (mkF m 21 #[.val (.int x0), .unset] [(.int (((x0 - (2048 : Int32)) / (1024 : Int32)) + (1 : Int32)))])) _
      refine XS.istoreN X0.here hx rfl (hb hby d13_21) rfl (l' := #[.val (.int x0), .val (.int (((x0 - (2048 : Int32)) / (1024 : Int32)) + (1 : Int32)))]) rfl ?_
      show Steps p.tables e below (s₁.setTop (mkF m 22 #[.val (.int x0), .val (.int (((x0 - (2048 : Int32)) / (1024 : Int32)) + (1 : Int32)))] [])) _
      refine XS.iloadN X0.here hx rfl (hb hby d13_22) rfl ?_
      show Steps p.tables e below (s₁.setTop (mkF m 23 #[.val (.int x0), .val (.int (((x0 - (2048 : Int32)) / (1024 : Int32)) + (1 : Int32)))] [(.int x0)])) _
      refine XS.sipush X0.here hx rfl (hb hby d13_23) ?_
      show Steps p.tables e below (s₁.setTop (mkF m 26 #[.val (.int x0), .val (.int (((x0 - (2048 : Int32)) / (1024 : Int32)) + (1 : Int32)))] [(.int (2048 : Int32)), (.int x0)])) _
      refine XS.isub X0.here hx rfl (hb hby d13_26) rfl ?_
      show Steps p.tables e below (s₁.setTop (mkF m 27 #[.val (.int x0), .val (.int (((x0 - (2048 : Int32)) / (1024 : Int32)) + (1 : Int32)))] [(.int (x0 - (2048 : Int32)))])) _
      refine XS.sipush X0.here hx rfl (hb hby d13_27) ?_
      show Steps p.tables e below (s₁.setTop (mkF m 30 #[.val (.int x0), .val (.int (((x0 - (2048 : Int32)) / (1024 : Int32)) + (1 : Int32)))] [(.int (1024 : Int32)), (.int (x0 - (2048 : Int32)))])) _
      refine XS.irem X0.here hx rfl (hb hby d13_30) rfl (by decide) ?_
      rw [irem_eq_mod]
      show Steps p.tables e below (s₁.setTop (mkF m 31 #[.val (.int x0), .val (.int (((x0 - (2048 : Int32)) / (1024 : Int32)) + (1 : Int32)))] [(.int ((x0 - (2048 : Int32)) % (1024 : Int32)))])) _
      refine XS.sipush X0.here hx rfl (hb hby d13_31) ?_
      show Steps p.tables e below (s₁.setTop (mkF m 34 #[.val (.int x0), .val (.int (((x0 - (2048 : Int32)) / (1024 : Int32)) + (1 : Int32)))] [(.int (1024 : Int32)), (.int ((x0 - (2048 : Int32)) % (1024 : Int32)))])) _
      refine XS.iadd X0.here hx rfl (hb hby d13_34) rfl ?_
      show Steps p.tables e below (s₁.setTop (mkF m 35 #[.val (.int x0), .val (.int (((x0 - (2048 : Int32)) / (1024 : Int32)) + (1 : Int32)))] [(.int (((x0 - (2048 : Int32)) % (1024 : Int32)) + (1024 : Int32)))])) _
      refine XS.i2l X0.here hx rfl (hb hby d13_35) rfl ?_
      show Steps p.tables e below (s₁.setTop (mkF m 36 #[.val (.int x0), .val (.int (((x0 - (2048 : Int32)) / (1024 : Int32)) + (1 : Int32)))] [(.long (((x0 - (2048 : Int32)) % (1024 : Int32)) + (1024 : Int32)).toInt64)])) _
      refine XS.iloadN X0.here hx rfl (hb hby d13_36) rfl ?_
      show Steps p.tables e below (s₁.setTop (mkF m 37 #[.val (.int x0), .val (.int (((x0 - (2048 : Int32)) / (1024 : Int32)) + (1 : Int32)))] [(.int (((x0 - (2048 : Int32)) / (1024 : Int32)) + (1 : Int32))), (.long (((x0 - (2048 : Int32)) % (1024 : Int32)) + (1024 : Int32)).toInt64)])) _
      refine XS.lshl X0.here hx rfl (hb hby d13_37) rfl ?_
      show Steps p.tables e below (s₁.setTop (mkF m 38 #[.val (.int x0), .val (.int (((x0 - (2048 : Int32)) / (1024 : Int32)) + (1 : Int32)))] [(.long ((((x0 - (2048 : Int32)) % (1024 : Int32)) + (1024 : Int32)).toInt64 <<< ((((x0 - (2048 : Int32)) / (1024 : Int32)) + (1 : Int32)) &&& 0x3f).toInt64))])) _
      exact kt
    refine RunsTo.retJ X0 hx Bd.returns Bd.notSynchronized (hb hby d13_38) ?_ (by decide) (by decide)
    rw [e0]
    refine ⟨_, rfl, N0, rfl, own_micros_val x0 ?_ hx0.2⟩
    rw [Int32.lt_iff_toInt_lt, show (2048 : Int32).toInt = 2048 from rfl] at hlt
    omega
theorem d11_0 : decode prog_26_method_3_code 0 = .ok (.aload_n 0, 1) := by decide +kernel
theorem d11_1 : decode prog_26_method_3_code 1 = .ok (.getfield 24, 3) := by decide +kernel
theorem d11_4 : decode prog_26_method_3_code 4 = .ok (.lreturn, 1) := by decide +kernel
theorem ef_rm_count (m : MethodId) (x0 : Addr) : entryFrame m #[(.ref x0)] 1 = mkF m 0 #[.val (.ref x0)] [] := by first | (simp [entryFrame, mkF, argsToLocals, Value.category]; done) | rfl
def Q_count (Z : State) (b : Addr) (w : Int64) (h0 : Heap) (n0 : Nat) (v : Option Value) (h : Heap) (L : List Loc) : Prop := v = some (.long w) ∧ Fr n0 L ∧ h = h0
set_option maxRecDepth 65536 in
set_option maxHeartbeats 40000000 in
theorem rm_count (l : Launch) (Z : State) (a0 : Array Value) (hw : ∀ d ∈ tables_1, d.before a0 Z = true) (ws : List Jvm.Cond) (b : Addr) (w : Int64) (h0 : Heap) (n0 : Nat) (Z0 : n0 ≤ h0.size) (F_b : Fld Z h0 b "com/example/iron_latch/ironlatch/cli/PairTimes" "recorded" "J" (.long w)) :
    MetFree l (⟨"com/example/iron_latch/ironlatch/cli/PairTimes", "count", "()J"⟩ : MethodName) (head1 (Jvm.Cond.code (⟨"com/example/iron_latch/ironlatch/cli/PairTimes", "count", "()J"⟩ : MethodName) prog_26_method_3_code 1 (some .long) :: ws) ({ frames := 0, cells := 0, slots := 0, locals := 0 } : Room)) (fun as' U => as' = #[(.ref b)] ∧ Z.Warmed39 U.vm ∧ U.heap = h0) (fun _ _ _ _ _ => True) (fun _ U_ o_ U'_ => ∃ v_ L_, o_ = .returned v_ ∧ Q_count Z b w h0 n0 v_ U'_.heap L_ ∧ FrameEnd U_ o_ U'_ L_ ({ frames := 0, cells := 0, slots := 0, locals := 0 } : Room).cells ({ frames := 0, cells := 0, slots := 0, locals := 0 } : Room).slots) := by
  refine MetFree.of_bodySF (plainFor_of_name pn_2) hisR ?_
  intro p e s m args below meth c s₁ Bd hml0 hP hK
  obtain ⟨rfl, hZ, hh⟩ := hP
  have hx := Bd.exec
  have hby := Bd.bytes
  have hml : c.maxLocals = 1 := hml0
  have hown : s.vm.findClass "com/example/iron_latch/ironlatch/cli/PairTimes" = some m.cls := findClass_of_methodNamed Bd.named
  have hnm := (name_of_methodNamed Bd.named Bd.method).1
  have X0 : Stand p l e ({ frames := 0, cells := 0, slots := 0, locals := 0 } : Room) s m #[(.ref b)] below meth c s₁ [] 0 0 := Stand.of_body Bd
  have e0 : s₁.heap = h0 := by rw [← hh, Bd.state]; rfl
  have N0 := Fr.nil n0
  refine RunsTo.start (ef_rm_count m b) ?_
  show RunsTo p e below s s₁ (mkF m 0 #[.val (.ref b)] []) (Q_count Z b w h0 n0) ({ frames := 0, cells := 0, slots := 0, locals := 0 } : Room).cells ({ frames := 0, cells := 0, slots := 0, locals := 0 } : Room).slots
  refine RunsTo.of (T' := s₁) (g' := (mkF m 1 #[.val (.ref b)] [(.ref b)])) (fun tgt_ kt => ?_) ?_
  · refine XS.aloadN X0.here hx rfl (hb hby d11_0) rfl rfl ?_
    show Steps p.tables e below (s₁.setTop (mkF m 1 #[.val (.ref b)] [(.ref b)])) _
    exact kt
  obtain ⟨T1, X1, e1, st1⟩ := getF X0 hx hZ hown (host := "") (Or.inl (hw _ (List.mem_of_getElem? (i := 34) rfl))) Via.refl e0 F_b (g := (mkF m 1 #[.val (.ref b)] [(.ref b)])) rfl rfl (hb hby d11_1)
  refine RunsTo.of (T' := T1) (g' := (mkF m 4 #[.val (.ref b)] [(.long w)])) st1 ?_
  refine RunsTo.retJ X1 hx Bd.returns Bd.notSynchronized (hb hby d11_4) ?_ (by decide) (by decide)
  rw [e1]
  exact ⟨rfl, N0, rfl⟩
theorem d3_0 : decode prog_26_method_1_code 0 = .ok (.aload_n 0, 1) := by decide +kernel
theorem d3_1 : decode prog_26_method_1_code 1 = .ok (.invokespecial 3, 3) := by decide +kernel
theorem d3_4 : decode prog_26_method_1_code 4 = .ok (.aload_n 0, 1) := by decide +kernel
theorem d3_5 : decode prog_26_method_1_code 5 = .ok (.ldc 11, 2) := by decide +kernel
theorem d3_7 : decode prog_26_method_1_code 7 = .ok (.newarray .long, 2) := by decide +kernel
theorem d3_9 : decode prog_26_method_1_code 9 = .ok (.putfield 12, 3) := by decide +kernel
theorem d3_12 : decode prog_26_method_1_code 12 = .ok (.return_, 1) := by decide +kernel
theorem ef_rm_init (m : MethodId) (x0 : Addr) : entryFrame m #[(.ref x0)] 1 = mkF m 0 #[.val (.ref x0)] [] := by first | (simp [entryFrame, mkF, argsToLocals, Value.category]; done) | rfl
def Q_init (Z : State) (t : Addr) (h0 : Heap) (n0 : Nat) (v : Option Value) (h : Heap) (L : List Loc) : Prop := ∃ a : Addr, v = none ∧ Fr n0 L ∧ n0 ≤ a ∧ h0.size ≤ a ∧ Keep h0 h [t] ∧ Fld Z h t "com/example/iron_latch/ironlatch/cli/PairTimes" "counts" "[J" (.ref a) ∧ Fld Z h t "com/example/iron_latch/ironlatch/cli/PairTimes" "recorded" "J" (.long (0 : Int64)) ∧ Arf Z h a .long (56320 : Int32) (fun _ => .long (0 : Int64))
set_option maxRecDepth 65536 in
set_option maxHeartbeats 40000000 in
theorem rm_init (l : Launch) (Z : State) (a0 : Array Value) (hw : ∀ d ∈ tables_1, d.before a0 Z = true) (ws : List Jvm.Cond) (t : Addr) (h0 : Heap) (n0 : Nat) (Z0 : n0 ≤ h0.size) (E_t : Exa Z h0 t "com/example/iron_latch/ironlatch/cli/PairTimes") (g_t : n0 ≤ t) (F_counts_t : Fld Z h0 t "com/example/iron_latch/ironlatch/cli/PairTimes" "counts" "[J" .null) (F_recorded_t : Fld Z h0 t "com/example/iron_latch/ironlatch/cli/PairTimes" "recorded" "J" (.long (0 : Int64))) :
    MetFree l (⟨"com/example/iron_latch/ironlatch/cli/PairTimes", "<init>", "()V"⟩ : MethodName) (head1 (Jvm.Cond.code (⟨"com/example/iron_latch/ironlatch/cli/PairTimes", "<init>", "()V"⟩ : MethodName) prog_26_method_1_code 1 none :: ws) ({ frames := 1, cells := 1, slots := 56320, locals := 12 } : Room)) (fun as' U => as' = #[(.ref t)] ∧ Z.Warmed39 U.vm ∧ U.heap = h0) (fun _ _ _ _ _ => True) (fun _ U_ o_ U'_ => ∃ v_ L_, o_ = .returned v_ ∧ Q_init Z t h0 n0 v_ U'_.heap L_ ∧ FrameEnd U_ o_ U'_ L_ ({ frames := 1, cells := 1, slots := 56320, locals := 12 } : Room).cells ({ frames := 1, cells := 1, slots := 56320, locals := 12 } : Room).slots) := by
  refine MetFree.of_bodySF (plainFor_of_name pn_2) hisR ?_
  intro p e s m args below meth c s₁ Bd hml0 hP hK
  obtain ⟨rfl, hZ, hh⟩ := hP
  have hx := Bd.exec
  have hby := Bd.bytes
  have hml : c.maxLocals = 1 := hml0
  have hown : s.vm.findClass "com/example/iron_latch/ironlatch/cli/PairTimes" = some m.cls := findClass_of_methodNamed Bd.named
  have hnm := (name_of_methodNamed Bd.named Bd.method).1
  have X0 : Stand p l e ({ frames := 1, cells := 1, slots := 56320, locals := 12 } : Room) s m #[(.ref t)] below meth c s₁ [] 0 0 := Stand.of_body Bd
  have e0 : s₁.heap = h0 := by rw [← hh, Bd.state]; rfl
  have N0 := Fr.nil n0
  refine RunsTo.start (ef_rm_init m t) ?_
  show RunsTo p e below s s₁ (mkF m 0 #[.val (.ref t)] []) (Q_init Z t h0 n0) ({ frames := 1, cells := 1, slots := 56320, locals := 12 } : Room).cells ({ frames := 1, cells := 1, slots := 56320, locals := 12 } : Room).slots
  refine RunsTo.of (T' := s₁) (g' := (mkF m 1 #[.val (.ref t)] [(.ref t)])) (fun tgt_ kt => ?_) ?_
  · refine XS.aloadN X0.here hx rfl (hb hby d3_0) rfl rfl ?_
    show Steps p.tables e below (s₁.setTop (mkF m 1 #[.val (.ref t)] [(.ref t)])) _
    exact kt
  obtain ⟨T1, X1, e1, st1⟩ := initO X0 hx hZ hown (hw _ (List.mem_of_getElem? (i := 16) rfl)) (hw _ (List.mem_of_getElem? (i := 17) rfl)) (hw _ (List.mem_of_getElem? (i := 18) rfl)) e0 (g := (mkF m 1 #[.val (.ref t)] [(.ref t)])) rfl (by rw [hml]; rfl) rfl (hb hby d3_1) (by decide) (W := 0) (by show 2 * 0 + _ ≤ _; exact Nat.le_of_eq rfl) (by decide)
  refine RunsTo.of (T' := T1) (g' := (mkF m 4 #[.val (.ref t)] [])) st1 ?_
  refine RunsTo.of (T' := T1) (g' := (mkF m 7 #[.val (.ref t)] [(.int (56320 : Int32)), (.ref t)])) (fun tgt_ kt => ?_) ?_
  · refine XS.aloadN X1.here hx rfl (hb hby d3_4) rfl rfl ?_
    show Steps p.tables e below (T1.setTop (mkF m 5 #[.val (.ref t)] [(.ref t)])) _
    refine X1.ldcInt hx hown (mvT hZ (hw _ (List.mem_of_getElem? (i := 19) rfl))) (g := (mkF m 5 #[.val (.ref t)] [(.ref t)])) rfl (hb hby d3_5) _ ?_
    show Steps p.tables e below (T1.setTop (mkF m 7 #[.val (.ref t)] [(.int (56320 : Int32)), (.ref t)])) _
    exact kt
  obtain ⟨T2, h2, k2, X2, e2, E2, A2, st2⟩ := newP X1 hx hZ (hw _ (List.mem_of_getElem? (i := 20) rfl)) e1 (g := (mkF m 7 #[.val (.ref t)] [(.int (56320 : Int32)), (.ref t)])) rfl (hb hby d3_7) rfl (by decide) (cap := 56320) (by decide) (by decide) (by decide) (by decide)
  obtain ⟨a, g2⟩ : ∃ z, z = h0.size := ⟨_, rfl⟩
  rw [← g2] at A2 st2
  have Z2 : n0 ≤ h2.size := Nat.le_trans Z0 E2.1
  have g_a : n0 ≤ a := Nat.le_trans Z0 (Nat.le_of_eq g2.symm)
  have ne_t_a : t ≠ a := Nat.ne_of_lt (Nat.lt_of_lt_of_le E_t.lt (Nat.le_of_eq g2.symm))
  have E_t := E_t.ext E2
  have F_counts_t := F_counts_t.ext E2
  have F_recorded_t := F_recorded_t.ext E2
  have V_a : Arf Z h2 a .long (56320 : Int32) (fun _ => (Value.long (0 : Int64))) := Arf.new A2 (by decide)
  refine RunsTo.of (T' := T2) (g' := (mkF m 9 #[.val (.ref t)] [(.ref a), (.ref t)])) st2 ?_
  obtain ⟨T3, h3, X3, e3, W3, st3⟩ := putF X2 hx hZ hown (host := "") (Or.inl (hw _ (List.mem_of_getElem? (i := 21) rfl))) Via.refl e2 F_counts_t E_t (Or.inr ⟨(hw _ (List.mem_of_getElem? (i := 22) rfl)), rfl, hnm⟩) (hw _ (List.mem_of_getElem? (i := 11) rfl)) (ty := (.array .long)) (by decide) rfl rfl (g := (mkF m 9 #[.val (.ref t)] [(.ref a), (.ref t)])) rfl rfl (hb hby d3_9)
  have N3 := Fr.snoc X3 N0 g_t
  have Z3 : n0 ≤ h3.size := Nat.le_trans Z2 (Nat.le_of_eq W3.size.symm)
  have E_t := E_t.wr W3
  have F_counts_t := F_counts_t.same W3
  have F_recorded_t := F_recorded_t.other W3 (Or.inr (slot_ne (Or.inl (hw _ (List.mem_of_getElem? (i := 35) rfl))) (Or.inr (hw _ (List.mem_of_getElem? (i := 22) rfl))) (by decide) (t := .long) (t' := (.array .long)) (by decide) (by decide)))
  have V_a := V_a.other W3 (Ne.symm ne_t_a)
  refine RunsTo.of (T' := T3) (g' := (mkF m 12 #[.val (.ref t)] [])) st3 ?_
  refine RunsTo.retV X3 hx Bd.returns Bd.notSynchronized (hb hby d3_12) ?_ (by decide) (by decide)
  rw [e3]
  exact ⟨a, rfl, N3, g_a, Nat.le_of_eq g2.symm, ((Keep.refl h0 [t]).ext E2).wr W3 (Or.inl (List.mem_of_getElem? (i := 0) rfl)), F_counts_t, F_recorded_t, V_a⟩
theorem d5_0 : decode prog_26_method_2_code 0 = .ok (.aload_n 0, 1) := by decide +kernel
theorem d5_1 : decode prog_26_method_2_code 1 = .ok (.getfield 12, 3) := by decide +kernel
theorem d5_4 : decode prog_26_method_2_code 4 = .ok (.lload_n 1, 1) := by decide +kernel
theorem d5_5 : decode prog_26_method_2_code 5 = .ok (.ldc2_w 16, 3) := by decide +kernel
theorem d5_8 : decode prog_26_method_2_code 8 = .ok (.ladd, 1) := by decide +kernel
theorem d5_9 : decode prog_26_method_2_code 9 = .ok (.ldc2_w 18, 3) := by decide +kernel
theorem d5_12 : decode prog_26_method_2_code 12 = .ok (.ldiv, 1) := by decide +kernel
theorem d5_13 : decode prog_26_method_2_code 13 = .ok (.invokestatic 20, 3) := by decide +kernel
theorem d5_16 : decode prog_26_method_2_code 16 = .ok (.dup2, 1) := by decide +kernel
theorem d5_17 : decode prog_26_method_2_code 17 = .ok (.laload, 1) := by decide +kernel
theorem d5_18 : decode prog_26_method_2_code 18 = .ok (.lconst 1, 1) := by decide +kernel
theorem d5_19 : decode prog_26_method_2_code 19 = .ok (.ladd, 1) := by decide +kernel
theorem d5_20 : decode prog_26_method_2_code 20 = .ok (.lastore, 1) := by decide +kernel
theorem d5_21 : decode prog_26_method_2_code 21 = .ok (.aload_n 0, 1) := by decide +kernel
theorem d5_22 : decode prog_26_method_2_code 22 = .ok (.dup, 1) := by decide +kernel
theorem d5_23 : decode prog_26_method_2_code 23 = .ok (.getfield 24, 3) := by decide +kernel
theorem d5_26 : decode prog_26_method_2_code 26 = .ok (.lconst 1, 1) := by decide +kernel
theorem d5_27 : decode prog_26_method_2_code 27 = .ok (.ladd, 1) := by decide +kernel
theorem d5_28 : decode prog_26_method_2_code 28 = .ok (.putfield 24, 3) := by decide +kernel
theorem d5_31 : decode prog_26_method_2_code 31 = .ok (.return_, 1) := by decide +kernel
theorem ef_rm_record (m : MethodId) (x0 : Addr) (x1 : Int64) : entryFrame m #[(.ref x0), (.long x1)] 3 = mkF m 0 #[.val (.ref x0), .val (.long x1), .second] [] := by first | (simp [entryFrame, mkF, argsToLocals, Value.category]; done) | rfl
def Q_record (Z : State) (t : Addr) (x1 : Int64) (a : Addr) (rec : Int64) (cnt : Nat → Int64) (h0 : Heap) (n0 : Nat) (v : Option Value) (h : Heap) (L : List Loc) : Prop := v = none ∧ Fr n0 L ∧ Keep h0 h [t, a] ∧ Fld Z h t "com/example/iron_latch/ironlatch/cli/PairTimes" "counts" "[J" (.ref a) ∧ Fld Z h t "com/example/iron_latch/ironlatch/cli/PairTimes" "recorded" "J" (.long (rec + 1)) ∧ Arf Z h a .long (56320 : Int32) (fun i => .long (if i = own_idx ((x1.toInt + 500) / 1000).toNat then cnt i + 1 else cnt i))
set_option maxRecDepth 65536 in
set_option maxHeartbeats 40000000 in
theorem rm_record (l : Launch) (Z : State) (a0 : Array Value) (hw : ∀ d ∈ tables_1, d.before a0 Z = true) (ws : List Jvm.Cond) (t : Addr) (x1 : Int64) (a : Addr) (rec : Int64) (cnt : Nat → Int64) (h0 : Heap) (n0 : Nat) (Z0 : n0 ≤ h0.size) (E_t : Exa Z h0 t "com/example/iron_latch/ironlatch/cli/PairTimes") (g_t : n0 ≤ t) (g_a : n0 ≤ a) (F_counts_t : Fld Z h0 t "com/example/iron_latch/ironlatch/cli/PairTimes" "counts" "[J" (.ref a)) (F_recorded_t : Fld Z h0 t "com/example/iron_latch/ironlatch/cli/PairTimes" "recorded" "J" (.long rec)) (V_a : Arf Z h0 a .long (56320 : Int32) (fun i => .long (cnt i))) (ne_t_a : t ≠ a) (hx1 : 0 ≤ x1.toInt ∧ x1.toInt ≤ 9223372036854775307) :
    MetFree l (⟨"com/example/iron_latch/ironlatch/cli/PairTimes", "record", "(J)V"⟩ : MethodName) (head1 (Jvm.Cond.code (⟨"com/example/iron_latch/ironlatch/cli/PairTimes", "record", "(J)V"⟩ : MethodName) prog_26_method_2_code 3 none :: ws) ({ frames := 3, cells := 0, slots := 0, locals := 44 } : Room)) (fun as' U => as' = #[(.ref t), (.long x1)] ∧ Z.Warmed39 U.vm ∧ U.heap = h0) (fun _ _ _ _ _ => True) (fun _ U_ o_ U'_ => ∃ v_ L_, o_ = .returned v_ ∧ Q_record Z t x1 a rec cnt h0 n0 v_ U'_.heap L_ ∧ FrameEnd U_ o_ U'_ L_ ({ frames := 3, cells := 0, slots := 0, locals := 44 } : Room).cells ({ frames := 3, cells := 0, slots := 0, locals := 44 } : Room).slots) := by
  refine MetFree.of_bodySF (plainFor_of_name pn_2) hisR ?_
  intro p e s m args below meth c s₁ Bd hml0 hP hK
  obtain ⟨rfl, hZ, hh⟩ := hP
  have hx := Bd.exec
  have hby := Bd.bytes
  have hml : c.maxLocals = 3 := hml0
  have hown : s.vm.findClass "com/example/iron_latch/ironlatch/cli/PairTimes" = some m.cls := findClass_of_methodNamed Bd.named
  have hnm := (name_of_methodNamed Bd.named Bd.method).1
  have X0 : Stand p l e ({ frames := 3, cells := 0, slots := 0, locals := 44 } : Room) s m #[(.ref t), (.long x1)] below meth c s₁ [] 0 0 := Stand.of_body Bd
  have e0 : s₁.heap = h0 := by rw [← hh, Bd.state]; rfl
  have N0 := Fr.nil n0
  refine RunsTo.start (ef_rm_record m t x1) ?_
  show RunsTo p e below s s₁ (mkF m 0 #[.val (.ref t), .val (.long x1), .second] []) (Q_record Z t x1 a rec cnt h0 n0) ({ frames := 3, cells := 0, slots := 0, locals := 44 } : Room).cells ({ frames := 3, cells := 0, slots := 0, locals := 44 } : Room).slots
  refine RunsTo.of (T' := s₁) (g' := (mkF m 1 #[.val (.ref t), .val (.long x1), .second] [(.ref t)])) (fun tgt_ kt => ?_) ?_
  · refine XS.aloadN X0.here hx rfl (hb hby d5_0) rfl rfl ?_
    show Steps p.tables e below (s₁.setTop (mkF m 1 #[.val (.ref t), .val (.long x1), .second] [(.ref t)])) _
    exact kt
  obtain ⟨T1, X1, e1, st1⟩ := getF X0 hx hZ hown (host := "") (Or.inl (hw _ (List.mem_of_getElem? (i := 21) rfl))) Via.refl e0 F_counts_t (g := (mkF m 1 #[.val (.ref t), .val (.long x1), .second] [(.ref t)])) rfl rfl (hb hby d5_1)
  refine RunsTo.of (T' := T1) (g' := (mkF m 4 #[.val (.ref t), .val (.long x1), .second] [(.ref a)])) st1 ?_
  refine RunsTo.of (T' := T1) (g' := (mkF m 13 #[.val (.ref t), .val (.long x1), .second] [(.long ((x1 + (500 : Int64)) / (1000 : Int64))), (.ref a)])) (fun tgt_ kt => ?_) ?_
  · refine XS.lloadN X1.here hx rfl (hb hby d5_4) rfl ?_
    show Steps p.tables e below (T1.setTop (mkF m 5 #[.val (.ref t), .val (.long x1), .second] [(.long x1), (.ref a)])) _
    refine X1.ldc2Long hx hown (mvT hZ (hw _ (List.mem_of_getElem? (i := 28) rfl))) (g := (mkF m 5 #[.val (.ref t), .val (.long x1), .second] [(.long x1), (.ref a)])) rfl (hb hby d5_5) _ ?_
    show Steps p.tables e below (T1.setTop (mkF m 8 #[.val (.ref t), .val (.long x1), .second] [(.long (500 : Int64)), (.long x1), (.ref a)])) _
    refine XS.ladd X1.here hx rfl (hb hby d5_8) rfl ?_
    show Steps p.tables e below (T1.setTop (mkF m 9 #[.val (.ref t), .val (.long x1), .second] [(.long (x1 + (500 : Int64))), (.ref a)])) _
    refine X1.ldc2Long hx hown (mvT hZ (hw _ (List.mem_of_getElem? (i := 29) rfl))) (g := (mkF m 9 #[.val (.ref t), .val (.long x1), .second] [(.long (x1 + (500 : Int64))), (.ref a)])) rfl (hb hby d5_9) _ ?_
    show Steps p.tables e below (T1.setTop (mkF m 12 #[.val (.ref t), .val (.long x1), .second] [(.long (1000 : Int64)), (.long (x1 + (500 : Int64))), (.ref a)])) _
    refine XS.ldiv X1.here hx rfl (hb hby d5_12) rfl (by decide) ?_
    show Steps p.tables e below (T1.setTop (mkF m 13 #[.val (.ref t), .val (.long x1), .second] [(.long ((x1 + (500 : Int64)) / (1000 : Int64))), (.ref a)])) _
    exact kt
  have hs := c_ladd x1 500
  have hsr := rng64 (x1 + 500)
  rw [show (500 : Int64).toInt = 500 from rfl] at hs
  have hs' : (x1 + 500).toInt = x1.toInt + 500 := by omega
  have hd := (c_ldiv (x1 + 500) 1000 1000 rfl (by decide)).1 (by omega)
  rw [hs'] at hd
  obtain ⟨_, _, ⟨T2, L2, k2, n2⟩, -, X2, ⟨Lc2, hQ2, l2, y2, z2⟩, st2⟩ := Jvm.LawKit.callS X1 hx (y := (⟨"com/example/iron_latch/ironlatch/cli/PairTimes", "index", "(J)I"⟩ : MethodName)) hown (mvT hZ (hw _ (List.mem_of_getElem? (i := 30) rfl))) (mvT hZ (hw _ (List.mem_of_getElem? (i := 31) rfl))) (mvT hZ (hw _ (List.mem_of_getElem? (i := 12) rfl))) (mvT hZ (hw _ (List.mem_of_getElem? (i := 32) rfl))) (by decide) (backOf (W := 1) (rm_index l Z a0 hw [] ((x1 + (500 : Int64)) / (1000 : Int64)) h0 n0 Z0 ⟨by omega, by omega⟩) hZ (hw _ (List.mem_of_getElem? (i := 32) rfl)) (hw _ (List.mem_of_getElem? (i := 12) rfl)) (by decide) (by decide)) (g := (mkF m 13 #[.val (.ref t), .val (.long x1), .second] [(.long ((x1 + (500 : Int64)) / (1000 : Int64))), (.ref a)])) rfl (by rw [hml]; rfl) (argsL := [(.long ((x1 + (500 : Int64)) / (1000 : Int64)))]) (rest := [(.ref a)]) (lenOf pd_1 rfl) rfl (by show 2 * 0 + _ ≤ _; exact Nat.le_of_eq rfl) (hb hby d5_13) (fun _ _ => ⟨rfl, e1, (by decide : 0 + 0 ≤ _), (by decide : 0 + 0 ≤ _)⟩)
  dsimp only [Pt.U, Pt.locs, Pt.cells, Pt.slots] at X2 l2 y2 z2 st2 hQ2
  subst l2 y2 z2
  obtain ⟨ix, rfl, N2q, e2, hix⟩ := hQ2
  have N2 := Fr.app N0 N2q
  refine RunsTo.of (T' := T2) (g' := (mkF m 16 #[.val (.ref t), .val (.long x1), .second] [(.int ix), (.ref a)])) st2 ?_
  rw [hd] at hix
  have hil := own_idx_lt ((x1.toInt + 500) / 1000).toNat (by simp only [show (2 : Nat) ^ 54 = 18014398509481984 from rfl]; omega)
  have hin : ¬ ix < 0 ∧ ix < 56320 := ⟨by rw [Int32.lt_iff_toInt_lt]; show ¬ _ < (0 : Int); omega, by rw [Int32.lt_iff_toInt_lt]; show _ < (56320 : Int); omega⟩
  have hixn := own_nat ix (by omega)
  have hixe : ix.toNatClampNeg = own_idx ((x1.toInt + 500) / 1000).toNat := by omega
  refine RunsTo.of (T' := T2) (g' := (mkF m 17 #[.val (.ref t), .val (.long x1), .second] [(.int ix), (.ref a), (.int ix), (.ref a)])) (fun tgt_ kt => ?_) ?_
  · refine XT.dup2 X2.here hx rfl (hb hby d5_16) rfl rfl rfl ?_
    show Steps p.tables e below (T2.setTop (mkF m 17 #[.val (.ref t), .val (.long x1), .second] [(.int ix), (.ref a), (.int ix), (.ref a)])) _
    exact kt
  obtain ⟨cl_a_3, Ar_a_3, S_a_3, M_a_3, H_a_3⟩ := id V_a
  have hin_a_3 : ¬ (ix < 0 ∨ cl_a_3.slots.size ≤ (ix).toNatClampNeg) := inb_of S_a_3 hin
  have hat_a_3 : cl_a_3.slots[(ix).toNatClampNeg]? = some (.long (cnt ix.toNatClampNeg)) := (H_a_3 _ (Nat.lt_of_not_le fun y => hin_a_3 (Or.inr y))).trans (congrArg some rfl)
  refine RunsTo.of (T' := T2) (g' := (mkF m 18 #[.val (.ref t), .val (.long x1), .second] [(.long (cnt ix.toNatClampNeg)), (.int ix), (.ref a)])) (fun tgt_ kt => ?_) ?_
  · refine X2.laload hx (j := ix) (v := (.long (cnt ix.toNatClampNeg))) (by rw [e2]; exact Ar_a_3.1) (State.isArrayOf_alike hZ.alike Ar_a_3.2.1) Ar_a_3.2.2 hin_a_3 hat_a_3 (g := (mkF m 17 #[.val (.ref t), .val (.long x1), .second] [(.int ix), (.ref a), (.int ix), (.ref a)])) rfl rfl (hb hby d5_17) _ ?_
    show Steps p.tables e below (T2.setTop (mkF m 18 #[.val (.ref t), .val (.long x1), .second] [(.long (cnt ix.toNatClampNeg)), (.int ix), (.ref a)])) _
    exact kt
  refine RunsTo.of (T' := T2) (g' := (mkF m 20 #[.val (.ref t), .val (.long x1), .second] [(.long ((cnt ix.toNatClampNeg) + (1 : Int64))), (.int ix), (.ref a)])) (fun tgt_ kt => ?_) ?_
  · refine XS.lconst X2.here hx rfl (hb hby d5_18) ?_
    show Steps p.tables e below (T2.setTop (mkF m 19 #[.val (.ref t), .val (.long x1), .second] [(.long (1 : Int64)), (.long (cnt ix.toNatClampNeg)), (.int ix), (.ref a)])) _
    refine XS.ladd X2.here hx rfl (hb hby d5_19) rfl ?_
    show Steps p.tables e below (T2.setTop (mkF m 20 #[.val (.ref t), .val (.long x1), .second] [(.long ((cnt ix.toNatClampNeg) + (1 : Int64))), (.int ix), (.ref a)])) _
    exact kt
  obtain ⟨cl_a_4, Ar_a_4, S_a_4, M_a_4, H_a_4⟩ := id V_a
  have hin_a_4 : ¬ (ix < 0 ∨ cl_a_4.slots.size ≤ (ix).toNatClampNeg) := inb_of S_a_4 hin
  obtain ⟨T5, h5, X5, e5, W5, st5⟩ := stJ X2 hx hZ e2 Ar_a_4 (j := ix) hin_a_4 (g := (mkF m 20 #[.val (.ref t), .val (.long x1), .second] [(.long ((cnt ix.toNatClampNeg) + (1 : Int64))), (.int ix), (.ref a)])) rfl rfl (hb hby d5_20)
  have N5 := Fr.snoc X5 N2 g_a
  have Z5 : n0 ≤ h5.size := Nat.le_trans Z0 (Nat.le_of_eq W5.size.symm)
  have V_a : Arf Z h5 a .long (56320 : Int32) (fun jj => if jj = (ix).toNatClampNeg then (Value.long ((cnt ix.toNatClampNeg) + (1 : Int64))) else (fun i => .long (cnt i)) jj) := Arf.set Ar_a_4 S_a_4 M_a_4 H_a_4 W5
  have V_a : Arf Z h5 a .long (56320 : Int32) (fun i => .long (if i = own_idx ((x1.toInt + 500) / 1000).toNat then cnt i + 1 else cnt i)) := V_a.congr (fun i hi => by
    rw [hixe]
    by_cases q : i = own_idx ((x1.toInt + 500) / 1000).toNat
    · rw [if_pos q, if_pos q, q]
    · rw [if_neg q, if_neg q])
  have E_t := E_t.wr W5
  have F_counts_t := F_counts_t.other W5 (Or.inl ne_t_a)
  have F_recorded_t := F_recorded_t.other W5 (Or.inl ne_t_a)
  refine RunsTo.of (T' := T5) (g' := (mkF m 21 #[.val (.ref t), .val (.long x1), .second] [])) st5 ?_
  refine RunsTo.of (T' := T5) (g' := (mkF m 23 #[.val (.ref t), .val (.long x1), .second] [(.ref t), (.ref t)])) (fun tgt_ kt => ?_) ?_
  · refine XS.aloadN X5.here hx rfl (hb hby d5_21) rfl rfl ?_
    show Steps p.tables e below (T5.setTop (mkF m 22 #[.val (.ref t), .val (.long x1), .second] [(.ref t)])) _
    refine XS.dup X5.here hx rfl (hb hby d5_22) rfl rfl ?_
    show Steps p.tables e below (T5.setTop (mkF m 23 #[.val (.ref t), .val (.long x1), .second] [(.ref t), (.ref t)])) _
    exact kt
  obtain ⟨T6, X6, e6, st6⟩ := getF X5 hx hZ hown (host := "") (Or.inl (hw _ (List.mem_of_getElem? (i := 34) rfl))) Via.refl e5 F_recorded_t (g := (mkF m 23 #[.val (.ref t), .val (.long x1), .second] [(.ref t), (.ref t)])) rfl rfl (hb hby d5_23)
  refine RunsTo.of (T' := T6) (g' := (mkF m 26 #[.val (.ref t), .val (.long x1), .second] [(.long rec), (.ref t)])) st6 ?_
  refine RunsTo.of (T' := T6) (g' := (mkF m 28 #[.val (.ref t), .val (.long x1), .second] [(.long (rec + (1 : Int64))), (.ref t)])) (fun tgt_ kt => ?_) ?_
  · refine XS.lconst X6.here hx rfl (hb hby d5_26) ?_
    show Steps p.tables e below (T6.setTop (mkF m 27 #[.val (.ref t), .val (.long x1), .second] [(.long (1 : Int64)), (.long rec), (.ref t)])) _
    refine XS.ladd X6.here hx rfl (hb hby d5_27) rfl ?_
    show Steps p.tables e below (T6.setTop (mkF m 28 #[.val (.ref t), .val (.long x1), .second] [(.long (rec + (1 : Int64))), (.ref t)])) _
    exact kt
  obtain ⟨T7, h7, X7, e7, W7, st7⟩ := putF X6 hx hZ hown (host := "") (Or.inl (hw _ (List.mem_of_getElem? (i := 34) rfl))) Via.refl e6 F_recorded_t E_t (Or.inl (hw _ (List.mem_of_getElem? (i := 35) rfl))) (hw _ (List.mem_of_getElem? (i := 11) rfl)) (ty := .long) (by decide) rfl rfl (g := (mkF m 28 #[.val (.ref t), .val (.long x1), .second] [(.long (rec + (1 : Int64))), (.ref t)])) rfl rfl (hb hby d5_28)
  have N7 := Fr.snoc X7 N5 g_t
  have Z7 : n0 ≤ h7.size := Nat.le_trans Z5 (Nat.le_of_eq W7.size.symm)
  have E_t := E_t.wr W7
  have F_counts_t := F_counts_t.other W7 (Or.inr (slot_ne (Or.inr (hw _ (List.mem_of_getElem? (i := 22) rfl))) (Or.inl (hw _ (List.mem_of_getElem? (i := 35) rfl))) (by decide) (t := (.array .long)) (t' := .long) (by decide) (by decide)))
  have F_recorded_t := F_recorded_t.same W7
  have V_a := V_a.other W7 (Ne.symm ne_t_a)
  refine RunsTo.of (T' := T7) (g' := (mkF m 31 #[.val (.ref t), .val (.long x1), .second] [])) st7 ?_
  refine RunsTo.retV X7 hx Bd.returns Bd.notSynchronized (hb hby d5_31) ?_ (by decide) (by decide)
  rw [e7]
  exact ⟨rfl, N7, ((Keep.refl h0 [t, a]).wr W5 (Or.inl (List.mem_of_getElem? (i := 1) rfl))).wr W7 (Or.inl (List.mem_of_getElem? (i := 0) rfl)), F_counts_t, F_recorded_t, V_a⟩
theorem d12_0 : decode prog_26_method_4_code 0 = .ok (.lload_n 1, 1) := by decide +kernel
theorem d12_1 : decode prog_26_method_4_code 1 = .ok (.lconst 0, 1) := by decide +kernel
theorem d12_2 : decode prog_26_method_4_code 2 = .ok (.lcmp, 1) := by decide +kernel
theorem d12_3 : decode prog_26_method_4_code 3 = .ok (.ifCond .lt 12, 3) := by decide +kernel
theorem d12_6 : decode prog_26_method_4_code 6 = .ok (.lload_n 1, 1) := by decide +kernel
theorem d12_7 : decode prog_26_method_4_code 7 = .ok (.aload_n 0, 1) := by decide +kernel
theorem d12_8 : decode prog_26_method_4_code 8 = .ok (.getfield 24, 3) := by decide +kernel
theorem d12_11 : decode prog_26_method_4_code 11 = .ok (.lcmp, 1) := by decide +kernel
theorem d12_12 : decode prog_26_method_4_code 12 = .ok (.ifCond .lt 21, 3) := by decide +kernel
theorem d12_33 : decode prog_26_method_4_code 33 = .ok (.lconst 0, 1) := by decide +kernel
theorem d12_34 : decode prog_26_method_4_code 34 = .ok (.lstore_n 3, 1) := by decide +kernel
theorem d12_35 : decode prog_26_method_4_code 35 = .ok (.iconst 0, 1) := by decide +kernel
theorem d12_36 : decode prog_26_method_4_code 36 = .ok (.istore 5, 2) := by decide +kernel
theorem d12_38 : decode prog_26_method_4_code 38 = .ok (.lload_n 3, 1) := by decide +kernel
theorem d12_39 : decode prog_26_method_4_code 39 = .ok (.aload_n 0, 1) := by decide +kernel
theorem d12_40 : decode prog_26_method_4_code 40 = .ok (.getfield 12, 3) := by decide +kernel
theorem d12_43 : decode prog_26_method_4_code 43 = .ok (.iload 5, 2) := by decide +kernel
theorem d12_45 : decode prog_26_method_4_code 45 = .ok (.laload, 1) := by decide +kernel
theorem d12_46 : decode prog_26_method_4_code 46 = .ok (.ladd, 1) := by decide +kernel
theorem d12_47 : decode prog_26_method_4_code 47 = .ok (.lload_n 1, 1) := by decide +kernel
theorem d12_48 : decode prog_26_method_4_code 48 = .ok (.lcmp, 1) := by decide +kernel
theorem d12_49 : decode prog_26_method_4_code 49 = .ok (.ifCond .gt 19, 3) := by decide +kernel
theorem d12_68 : decode prog_26_method_4_code 68 = .ok (.iload 5, 2) := by decide +kernel
theorem pd_2 : parseMethodDescriptor "(I)J" = some ⟨[.int], some .long⟩ := by decide +kernel
theorem d12_70 : decode prog_26_method_4_code 70 = .ok (.invokestatic 37, 3) := by decide +kernel
theorem d12_73 : decode prog_26_method_4_code 73 = .ok (.lreturn, 1) := by decide +kernel
theorem d12_52 : decode prog_26_method_4_code 52 = .ok (.lload_n 3, 1) := by decide +kernel
theorem d12_53 : decode prog_26_method_4_code 53 = .ok (.aload_n 0, 1) := by decide +kernel
theorem d12_54 : decode prog_26_method_4_code 54 = .ok (.getfield 12, 3) := by decide +kernel
theorem d12_57 : decode prog_26_method_4_code 57 = .ok (.iload 5, 2) := by decide +kernel
theorem d12_59 : decode prog_26_method_4_code 59 = .ok (.laload, 1) := by decide +kernel
theorem d12_60 : decode prog_26_method_4_code 60 = .ok (.ladd, 1) := by decide +kernel
theorem d12_61 : decode prog_26_method_4_code 61 = .ok (.lstore_n 3, 1) := by decide +kernel
theorem d12_62 : decode prog_26_method_4_code 62 = .ok (.iinc 5 1, 3) := by decide +kernel
theorem d12_65 : decode prog_26_method_4_code 65 = .ok (.goto (-27), 3) := by decide +kernel
theorem ef_rm_at (m : MethodId) (x0 : Addr) (x1 : Int64) : entryFrame m #[(.ref x0), (.long x1)] 6 = mkF m 0 #[.val (.ref x0), .val (.long x1), .second, .unset, .unset, .unset] [] := by first | (simp [entryFrame, mkF, argsToLocals, Value.category]; done) | rfl
def Q_at (Z : State) (t : Addr) (x1 : Int64) (a : Addr) (rec : Int64) (cnt S : Nat → Int64) (tt : Nat) (h0 : Heap) (n0 : Nat) (v : Option Value) (h : Heap) (L : List Loc) : Prop := ∃ r : Int64, v = some (.long r) ∧ Fr n0 L ∧ h = h0 ∧ r.toInt = own_mic tt
set_option maxRecDepth 65536 in
set_option maxHeartbeats 40000000 in
theorem rm_at (l : Launch) (Z : State) (a0 : Array Value) (hw : ∀ d ∈ tables_1, d.before a0 Z = true) (ws : List Jvm.Cond) (t : Addr) (x1 : Int64) (a : Addr) (rec : Int64) (cnt S : Nat → Int64) (tt : Nat) (h0 : Heap) (n0 : Nat) (Z0 : n0 ≤ h0.size) (F_counts_t : Fld Z h0 t "com/example/iron_latch/ironlatch/cli/PairTimes" "counts" "[J" (.ref a)) (F_recorded_t : Fld Z h0 t "com/example/iron_latch/ironlatch/cli/PairTimes" "recorded" "J" (.long rec)) (V_a : Arf Z h0 a .long (56320 : Int32) (fun i => .long (cnt i))) (hx1 : 0 ≤ x1.toInt ∧ x1.toInt < rec.toInt) (htt : tt < 46080) (hS0 : S 0 = 0) (hS : ∀ k, k < tt → S (k + 1) = S k + cnt k ∧ ¬ x1 < S k + cnt k) (hT : x1 < S tt + cnt tt) :
    MetFree l (⟨"com/example/iron_latch/ironlatch/cli/PairTimes", "at", "(J)J"⟩ : MethodName) (head1 (Jvm.Cond.code (⟨"com/example/iron_latch/ironlatch/cli/PairTimes", "at", "(J)J"⟩ : MethodName) prog_26_method_4_code 6 (some .long) :: ws) ({ frames := 1, cells := 0, slots := 0, locals := 13 } : Room)) (fun as' U => as' = #[(.ref t), (.long x1)] ∧ Z.Warmed39 U.vm ∧ U.heap = h0) (fun _ _ _ _ _ => True) (fun _ U_ o_ U'_ => ∃ v_ L_, o_ = .returned v_ ∧ Q_at Z t x1 a rec cnt S tt h0 n0 v_ U'_.heap L_ ∧ FrameEnd U_ o_ U'_ L_ ({ frames := 1, cells := 0, slots := 0, locals := 13 } : Room).cells ({ frames := 1, cells := 0, slots := 0, locals := 13 } : Room).slots) := by
  refine MetFree.of_bodySF (plainFor_of_name pn_2) hisR ?_
  intro p e s m args below meth c s₁ Bd hml0 hP hK
  obtain ⟨rfl, hZ, hh⟩ := hP
  have hx := Bd.exec
  have hby := Bd.bytes
  have hml : c.maxLocals = 6 := hml0
  have hown : s.vm.findClass "com/example/iron_latch/ironlatch/cli/PairTimes" = some m.cls := findClass_of_methodNamed Bd.named
  have hnm := (name_of_methodNamed Bd.named Bd.method).1
  have X0 : Stand p l e ({ frames := 1, cells := 0, slots := 0, locals := 13 } : Room) s m #[(.ref t), (.long x1)] below meth c s₁ [] 0 0 := Stand.of_body Bd
  have e0 : s₁.heap = h0 := by rw [← hh, Bd.state]; rfl
  have N0 := Fr.nil n0
  refine RunsTo.start (ef_rm_at m t x1) ?_
  show RunsTo p e below s s₁ (mkF m 0 #[.val (.ref t), .val (.long x1), .second, .unset, .unset, .unset] []) (Q_at Z t x1 a rec cnt S tt h0 n0) ({ frames := 1, cells := 0, slots := 0, locals := 13 } : Room).cells ({ frames := 1, cells := 0, slots := 0, locals := 13 } : Room).slots
  refine RunsTo.of (T' := s₁) (g' := (mkF m 8 #[.val (.ref t), .val (.long x1), .second, .unset, .unset, .unset] [(.ref t), (.long x1)])) (fun tgt_ kt => ?_) ?_
  · refine XS.lloadN X0.here hx rfl (hb hby d12_0) rfl ?_
    show Steps p.tables e below (s₁.setTop (mkF m 1 #[.val (.ref t), .val (.long x1), .second, .unset, .unset, .unset] [(.long x1)])) _
    refine XS.lconst X0.here hx rfl (hb hby d12_1) ?_
    show Steps p.tables e below (s₁.setTop (mkF m 2 #[.val (.ref t), .val (.long x1), .second, .unset, .unset, .unset] [(.long (0 : Int64)), (.long x1)])) _
    refine XS.lcmp X0.here hx rfl (hb hby d12_2) rfl ?_
    show Steps p.tables e below (s₁.setTop (mkF m 3 #[.val (.ref t), .val (.long x1), .second, .unset, .unset, .unset] [(.int (lcmpW x1 (0 : Int64)))])) _
    refine XS.ifNo X0.here hx rfl (hb hby d12_3) rfl ((if0 _ _).trans (flt (fun q_ => (show ¬ x1 < 0 by rw [Int64.lt_iff_toInt_lt]; show ¬ _ < (0 : Int); omega) ((lw_lt x1 (0 : Int64)).mp q_))).1) ?_
    show Steps p.tables e below (s₁.setTop (mkF m 6 #[.val (.ref t), .val (.long x1), .second, .unset, .unset, .unset] [])) _
    refine XS.lloadN X0.here hx rfl (hb hby d12_6) rfl ?_
    show Steps p.tables e below (s₁.setTop (mkF m 7 #[.val (.ref t), .val (.long x1), .second, .unset, .unset, .unset] [(.long x1)])) _
    refine XS.aloadN X0.here hx rfl (hb hby d12_7) rfl rfl ?_
    show Steps p.tables e below (s₁.setTop (mkF m 8 #[.val (.ref t), .val (.long x1), .second, .unset, .unset, .unset] [(.ref t), (.long x1)])) _
    exact kt
  obtain ⟨T1, X1, e1, st1⟩ := getF X0 hx hZ hown (host := "") (Or.inl (hw _ (List.mem_of_getElem? (i := 34) rfl))) Via.refl e0 F_recorded_t (g := (mkF m 8 #[.val (.ref t), .val (.long x1), .second, .unset, .unset, .unset] [(.ref t), (.long x1)])) rfl rfl (hb hby d12_8)
  refine RunsTo.of (T' := T1) (g' := (mkF m 11 #[.val (.ref t), .val (.long x1), .second, .unset, .unset, .unset] [(.long rec), (.long x1)])) st1 ?_
  refine RunsTo.of (T' := T1) (g' := (mkF m 38 #[.val (.ref t), .val (.long x1), .second, .val (.long (0 : Int64)), .second, .val (.int (0 : Int32))] [])) (fun tgt_ kt => ?_) ?_
  · refine XS.lcmp X1.here hx rfl (hb hby d12_11) rfl ?_
    show Steps p.tables e below (T1.setTop (mkF m 12 #[.val (.ref t), .val (.long x1), .second, .unset, .unset, .unset] [(.int (lcmpW x1 rec))])) _
    refine XS.ifYes X1.here hx rfl (pc0 := 12) (pc' := 33) rfl (hb hby d12_12) rfl ((if0 _ _).trans (tlt ((lw_lt x1 rec).mpr (show x1 < rec by rw [Int64.lt_iff_toInt_lt]; omega))).1) (by decide) (by decide) ?_
    show Steps p.tables e below (T1.setTop (mkF m 33 #[.val (.ref t), .val (.long x1), .second, .unset, .unset, .unset] [])) _
    refine XS.lconst X1.here hx rfl (hb hby d12_33) ?_
    show Steps p.tables e below (T1.setTop (mkF m 34 #[.val (.ref t), .val (.long x1), .second, .unset, .unset, .unset] [(.long (0 : Int64))])) _
    refine XS.lstoreN X1.here hx rfl (hb hby d12_34) rfl (l' := #[.val (.ref t), .val (.long x1), .second, .val (.long (0 : Int64)), .second, .unset]) rfl ?_
    show Steps p.tables e below (T1.setTop (mkF m 35 #[.val (.ref t), .val (.long x1), .second, .val (.long (0 : Int64)), .second, .unset] [])) _
    refine XS.iconst X1.here hx rfl (hb hby d12_35) ?_
    show Steps p.tables e below (T1.setTop (mkF m 36 #[.val (.ref t), .val (.long x1), .second, .val (.long (0 : Int64)), .second, .unset] [(.int (0 : Int32))])) _
    refine XS.istore X1.here hx rfl (hb hby d12_36) rfl (l' := #[.val (.ref t), .val (.long x1), .second, .val (.long (0 : Int64)), .second, .val (.int (0 : Int32))]) rfl ?_
    show Steps p.tables e below (T1.setTop (mkF m 38 #[.val (.ref t), .val (.long x1), .second, .val (.long (0 : Int64)), .second, .val (.int (0 : Int32))] [])) _
    exact kt
  have loop : ∀ (r k : Nat) (i : Int32) (sn : Int64) (T : State) (X : Stand p l e ({ frames := 1, cells := 0, slots := 0, locals := 13 } : Room) s m #[.ref t, .long x1] below meth c T [] 0 0) (eT : T.heap = h0), i.toInt = k → sn = S k → k + r = tt → RunsTo p e below s T (mkF m 38 #[.val (.ref t), .val (.long x1), .second, .val (.long sn), .second, .val (.int i)] []) (Q_at Z t x1 a rec cnt S tt h0 n0) ({ frames := 1, cells := 0, slots := 0, locals := 13 } : Room).cells ({ frames := 1, cells := 0, slots := 0, locals := 13 } : Room).slots := by
    intro r
    induction r with
    | zero =>
      intro k i sn T X eT hik hsn hkr
      have hin : ¬ i < 0 ∧ i < 56320 := ⟨by rw [Int32.lt_iff_toInt_lt]; show ¬ _ < (0 : Int); omega, by rw [Int32.lt_iff_toInt_lt]; show _ < (56320 : Int); omega⟩
      have hik' : i.toNatClampNeg = k := by have := own_nat i (by omega); omega
      refine RunsTo.of (T' := T) (g' := (mkF m 40 #[.val (.ref t), .val (.long x1), .second, .val (.long sn), .second, .val (.int i)] [(.ref t), (.long sn)])) (fun tgt_ kt => ?_) ?_
      · refine XS.lloadN X.here hx rfl (hb hby d12_38) rfl ?_
        show Steps p.tables e below (T.setTop (mkF m 39 #[.val (.ref t), .val (.long x1), .second, .val (.long sn), .second, .val (.int i)] [(.long sn)])) _
        refine XS.aloadN X.here hx rfl (hb hby d12_39) rfl rfl ?_
        show Steps p.tables e below (T.setTop (mkF m 40 #[.val (.ref t), .val (.long x1), .second, .val (.long sn), .second, .val (.int i)] [(.ref t), (.long sn)])) _
        exact kt
      obtain ⟨T2, X2, e2, st2⟩ := getF X hx hZ hown (host := "") (Or.inl (hw _ (List.mem_of_getElem? (i := 21) rfl))) Via.refl eT F_counts_t (g := (mkF m 40 #[.val (.ref t), .val (.long x1), .second, .val (.long sn), .second, .val (.int i)] [(.ref t), (.long sn)])) rfl rfl (hb hby d12_40)
      refine RunsTo.of (T' := T2) (g' := (mkF m 43 #[.val (.ref t), .val (.long x1), .second, .val (.long sn), .second, .val (.int i)] [(.ref a), (.long sn)])) st2 ?_
      refine RunsTo.of (T' := T2) (g' := (mkF m 45 #[.val (.ref t), .val (.long x1), .second, .val (.long sn), .second, .val (.int i)] [(.int i), (.ref a), (.long sn)])) (fun tgt_ kt => ?_) ?_
      · refine XS.iload X2.here hx rfl (hb hby d12_43) rfl ?_
        show Steps p.tables e below (T2.setTop (mkF m 45 #[.val (.ref t), .val (.long x1), .second, .val (.long sn), .second, .val (.int i)] [(.int i), (.ref a), (.long sn)])) _
        exact kt
      obtain ⟨cl_a_3, Ar_a_3, S_a_3, M_a_3, H_a_3⟩ := id V_a
      have hin_a_3 : ¬ (i < 0 ∨ cl_a_3.slots.size ≤ (i).toNatClampNeg) := inb_of S_a_3 hin
      have hat_a_3 : cl_a_3.slots[(i).toNatClampNeg]? = some (.long (cnt k)) := (H_a_3 _ (Nat.lt_of_not_le fun y => hin_a_3 (Or.inr y))).trans (congrArg some (by show Value.long (cnt i.toNatClampNeg) = _; rw [hik']))
      refine RunsTo.of (T' := T2) (g' := (mkF m 46 #[.val (.ref t), .val (.long x1), .second, .val (.long sn), .second, .val (.int i)] [(.long (cnt k)), (.long sn)])) (fun tgt_ kt => ?_) ?_
      · refine X2.laload hx (j := i) (v := (.long (cnt k))) (by rw [e2]; exact Ar_a_3.1) (State.isArrayOf_alike hZ.alike Ar_a_3.2.1) Ar_a_3.2.2 hin_a_3 hat_a_3 (g := (mkF m 45 #[.val (.ref t), .val (.long x1), .second, .val (.long sn), .second, .val (.int i)] [(.int i), (.ref a), (.long sn)])) rfl rfl (hb hby d12_45) _ ?_
        show Steps p.tables e below (T2.setTop (mkF m 46 #[.val (.ref t), .val (.long x1), .second, .val (.long sn), .second, .val (.int i)] [(.long (cnt k)), (.long sn)])) _
        exact kt
      refine RunsTo.of (T' := T2) (g' := (mkF m 49 #[.val (.ref t), .val (.long x1), .second, .val (.long sn), .second, .val (.int i)] [(.int (lcmpW (sn + (cnt k)) x1))])) (fun tgt_ kt => ?_) ?_
      · refine XS.ladd X2.here hx rfl (hb hby d12_46) rfl ?_
        show Steps p.tables e below (T2.setTop (mkF m 47 #[.val (.ref t), .val (.long x1), .second, .val (.long sn), .second, .val (.int i)] [(.long (sn + (cnt k)))])) _
        refine XS.lloadN X2.here hx rfl (hb hby d12_47) rfl ?_
        show Steps p.tables e below (T2.setTop (mkF m 48 #[.val (.ref t), .val (.long x1), .second, .val (.long sn), .second, .val (.int i)] [(.long x1), (.long (sn + (cnt k)))])) _
        refine XS.lcmp X2.here hx rfl (hb hby d12_48) rfl ?_
        show Steps p.tables e below (T2.setTop (mkF m 49 #[.val (.ref t), .val (.long x1), .second, .val (.long sn), .second, .val (.int i)] [(.int (lcmpW (sn + (cnt k)) x1))])) _
        exact kt
      have hkt : k = tt := by omega
      subst hkt
      subst hsn
      refine RunsTo.of (T' := T2) (g' := (mkF m 70 #[.val (.ref t), .val (.long x1), .second, .val (.long (S k)), .second, .val (.int i)] [(.int i)])) (fun tgt_ kt => ?_) ?_
      · refine XS.ifYes X2.here hx rfl (pc0 := 49) (pc' := 68) rfl (hb hby d12_49) rfl ((if0 _ _).trans (tlt ((lw_gt ((S k) + (cnt k)) x1).mpr hT)).2.2.1) (by decide) (by decide) ?_
        show Steps p.tables e below (T2.setTop (mkF m 68 #[.val (.ref t), .val (.long x1), .second, .val (.long (S k)), .second, .val (.int i)] [])) _
        refine XS.iload X2.here hx rfl (hb hby d12_68) rfl ?_
        show Steps p.tables e below (T2.setTop (mkF m 70 #[.val (.ref t), .val (.long x1), .second, .val (.long (S k)), .second, .val (.int i)] [(.int i)])) _
        exact kt
      obtain ⟨_, _, ⟨T4, L4, k4, n4⟩, -, X4, ⟨Lc4, hQ4, l4, y4, z4⟩, st4⟩ := Jvm.LawKit.callS X2 hx (y := (⟨"com/example/iron_latch/ironlatch/cli/PairTimes", "micros", "(I)J"⟩ : MethodName)) hown (mvT hZ (hw _ (List.mem_of_getElem? (i := 65) rfl))) (mvT hZ (hw _ (List.mem_of_getElem? (i := 66) rfl))) (mvT hZ (hw _ (List.mem_of_getElem? (i := 12) rfl))) (mvT hZ (hw _ (List.mem_of_getElem? (i := 67) rfl))) (by decide) (backOf (W := 0) (rm_micros l Z a0 hw [] i h0 n0 Z0 ⟨by omega, by omega⟩) hZ (hw _ (List.mem_of_getElem? (i := 67) rfl)) (hw _ (List.mem_of_getElem? (i := 12) rfl)) (by decide) (by decide)) (g := (mkF m 70 #[.val (.ref t), .val (.long x1), .second, .val (.long (S k)), .second, .val (.int i)] [(.int i)])) rfl (by rw [hml]; rfl) (argsL := [(.int i)]) (rest := []) (lenOf pd_2 rfl) rfl (by show 2 * 0 + _ ≤ _; exact Nat.le_of_eq rfl) (hb hby d12_70) (fun _ _ => ⟨rfl, e2, (by decide : 0 + 0 ≤ _), (by decide : 0 + 0 ≤ _)⟩)
      dsimp only [Pt.U, Pt.locs, Pt.cells, Pt.slots] at X4 l4 y4 z4 st4 hQ4
      subst l4 y4 z4
      obtain ⟨rr, rfl, N4q, e4, hrr⟩ := hQ4
      have N4 := Fr.app N0 N4q
      refine RunsTo.of (T' := T4) (g' := (mkF m 73 #[.val (.ref t), .val (.long x1), .second, .val (.long (S k)), .second, .val (.int i)] [(.long rr)])) st4 ?_
      refine RunsTo.retJ X4 hx Bd.returns Bd.notSynchronized (hb hby d12_73) ?_ (by decide) (by decide)
      rw [e4]
      exact ⟨rr, rfl, N4, rfl, by rw [hrr, hik']⟩
    | succ r ih =>
      intro k i sn T X eT hik hsn hkr
      have hin : ¬ i < 0 ∧ i < 56320 := ⟨by rw [Int32.lt_iff_toInt_lt]; show ¬ _ < (0 : Int); omega, by rw [Int32.lt_iff_toInt_lt]; show _ < (56320 : Int); omega⟩
      have hik' : i.toNatClampNeg = k := by have := own_nat i (by omega); omega
      refine RunsTo.of (T' := T) (g' := (mkF m 40 #[.val (.ref t), .val (.long x1), .second, .val (.long sn), .second, .val (.int i)] [(.ref t), (.long sn)])) (fun tgt_ kt => ?_) ?_
      · refine XS.lloadN X.here hx rfl (hb hby d12_38) rfl ?_
        show Steps p.tables e below (T.setTop (mkF m 39 #[.val (.ref t), .val (.long x1), .second, .val (.long sn), .second, .val (.int i)] [(.long sn)])) _
        refine XS.aloadN X.here hx rfl (hb hby d12_39) rfl rfl ?_
        show Steps p.tables e below (T.setTop (mkF m 40 #[.val (.ref t), .val (.long x1), .second, .val (.long sn), .second, .val (.int i)] [(.ref t), (.long sn)])) _
        exact kt
      obtain ⟨T5, X5, e5, st5⟩ := getF X hx hZ hown (host := "") (Or.inl (hw _ (List.mem_of_getElem? (i := 21) rfl))) Via.refl eT F_counts_t (g := (mkF m 40 #[.val (.ref t), .val (.long x1), .second, .val (.long sn), .second, .val (.int i)] [(.ref t), (.long sn)])) rfl rfl (hb hby d12_40)
      refine RunsTo.of (T' := T5) (g' := (mkF m 43 #[.val (.ref t), .val (.long x1), .second, .val (.long sn), .second, .val (.int i)] [(.ref a), (.long sn)])) st5 ?_
      refine RunsTo.of (T' := T5) (g' := (mkF m 45 #[.val (.ref t), .val (.long x1), .second, .val (.long sn), .second, .val (.int i)] [(.int i), (.ref a), (.long sn)])) (fun tgt_ kt => ?_) ?_
      · refine XS.iload X5.here hx rfl (hb hby d12_43) rfl ?_
        show Steps p.tables e below (T5.setTop (mkF m 45 #[.val (.ref t), .val (.long x1), .second, .val (.long sn), .second, .val (.int i)] [(.int i), (.ref a), (.long sn)])) _
        exact kt
      obtain ⟨cl_a_6, Ar_a_6, S_a_6, M_a_6, H_a_6⟩ := id V_a
      have hin_a_6 : ¬ (i < 0 ∨ cl_a_6.slots.size ≤ (i).toNatClampNeg) := inb_of S_a_6 hin
      have hat_a_6 : cl_a_6.slots[(i).toNatClampNeg]? = some (.long (cnt k)) := (H_a_6 _ (Nat.lt_of_not_le fun y => hin_a_6 (Or.inr y))).trans (congrArg some (by show Value.long (cnt i.toNatClampNeg) = _; rw [hik']))
      refine RunsTo.of (T' := T5) (g' := (mkF m 46 #[.val (.ref t), .val (.long x1), .second, .val (.long sn), .second, .val (.int i)] [(.long (cnt k)), (.long sn)])) (fun tgt_ kt => ?_) ?_
      · refine X5.laload hx (j := i) (v := (.long (cnt k))) (by rw [e5]; exact Ar_a_6.1) (State.isArrayOf_alike hZ.alike Ar_a_6.2.1) Ar_a_6.2.2 hin_a_6 hat_a_6 (g := (mkF m 45 #[.val (.ref t), .val (.long x1), .second, .val (.long sn), .second, .val (.int i)] [(.int i), (.ref a), (.long sn)])) rfl rfl (hb hby d12_45) _ ?_
        show Steps p.tables e below (T5.setTop (mkF m 46 #[.val (.ref t), .val (.long x1), .second, .val (.long sn), .second, .val (.int i)] [(.long (cnt k)), (.long sn)])) _
        exact kt
      refine RunsTo.of (T' := T5) (g' := (mkF m 49 #[.val (.ref t), .val (.long x1), .second, .val (.long sn), .second, .val (.int i)] [(.int (lcmpW (sn + (cnt k)) x1))])) (fun tgt_ kt => ?_) ?_
      · refine XS.ladd X5.here hx rfl (hb hby d12_46) rfl ?_
        show Steps p.tables e below (T5.setTop (mkF m 47 #[.val (.ref t), .val (.long x1), .second, .val (.long sn), .second, .val (.int i)] [(.long (sn + (cnt k)))])) _
        refine XS.lloadN X5.here hx rfl (hb hby d12_47) rfl ?_
        show Steps p.tables e below (T5.setTop (mkF m 48 #[.val (.ref t), .val (.long x1), .second, .val (.long sn), .second, .val (.int i)] [(.long x1), (.long (sn + (cnt k)))])) _
        refine XS.lcmp X5.here hx rfl (hb hby d12_48) rfl ?_
        show Steps p.tables e below (T5.setTop (mkF m 49 #[.val (.ref t), .val (.long x1), .second, .val (.long sn), .second, .val (.int i)] [(.int (lcmpW (sn + (cnt k)) x1))])) _
        exact kt
      obtain ⟨hs1, hs2⟩ := hS k (by omega)
      subst hsn
      refine RunsTo.of (T' := T5) (g' := (mkF m 54 #[.val (.ref t), .val (.long x1), .second, .val (.long (S k)), .second, .val (.int i)] [(.ref t), (.long (S k))])) (fun tgt_ kt => ?_) ?_
      · refine XS.ifNo X5.here hx rfl (hb hby d12_49) rfl ((if0 _ _).trans (flt (fun q_ => hs2 ((lw_gt ((S k) + (cnt k)) x1).mp q_))).2.2.1) ?_
        show Steps p.tables e below (T5.setTop (mkF m 52 #[.val (.ref t), .val (.long x1), .second, .val (.long (S k)), .second, .val (.int i)] [])) _
        refine XS.lloadN X5.here hx rfl (hb hby d12_52) rfl ?_
        show Steps p.tables e below (T5.setTop (mkF m 53 #[.val (.ref t), .val (.long x1), .second, .val (.long (S k)), .second, .val (.int i)] [(.long (S k))])) _
        refine XS.aloadN X5.here hx rfl (hb hby d12_53) rfl rfl ?_
        show Steps p.tables e below (T5.setTop (mkF m 54 #[.val (.ref t), .val (.long x1), .second, .val (.long (S k)), .second, .val (.int i)] [(.ref t), (.long (S k))])) _
        exact kt
      obtain ⟨T7, X7, e7, st7⟩ := getF X5 hx hZ hown (host := "") (Or.inl (hw _ (List.mem_of_getElem? (i := 21) rfl))) Via.refl e5 F_counts_t (g := (mkF m 54 #[.val (.ref t), .val (.long x1), .second, .val (.long (S k)), .second, .val (.int i)] [(.ref t), (.long (S k))])) rfl rfl (hb hby d12_54)
      refine RunsTo.of (T' := T7) (g' := (mkF m 57 #[.val (.ref t), .val (.long x1), .second, .val (.long (S k)), .second, .val (.int i)] [(.ref a), (.long (S k))])) st7 ?_
      refine RunsTo.of (T' := T7) (g' := (mkF m 59 #[.val (.ref t), .val (.long x1), .second, .val (.long (S k)), .second, .val (.int i)] [(.int i), (.ref a), (.long (S k))])) (fun tgt_ kt => ?_) ?_
      · refine XS.iload X7.here hx rfl (hb hby d12_57) rfl ?_
        show Steps p.tables e below (T7.setTop (mkF m 59 #[.val (.ref t), .val (.long x1), .second, .val (.long (S k)), .second, .val (.int i)] [(.int i), (.ref a), (.long (S k))])) _
        exact kt
      obtain ⟨cl_a_8, Ar_a_8, S_a_8, M_a_8, H_a_8⟩ := id V_a
      have hin_a_8 : ¬ (i < 0 ∨ cl_a_8.slots.size ≤ (i).toNatClampNeg) := inb_of S_a_8 hin
      have hat_a_8 : cl_a_8.slots[(i).toNatClampNeg]? = some (.long (cnt k)) := (H_a_8 _ (Nat.lt_of_not_le fun y => hin_a_8 (Or.inr y))).trans (congrArg some (by show Value.long (cnt i.toNatClampNeg) = _; rw [hik']))
      refine RunsTo.of (T' := T7) (g' := (mkF m 60 #[.val (.ref t), .val (.long x1), .second, .val (.long (S k)), .second, .val (.int i)] [(.long (cnt k)), (.long (S k))])) (fun tgt_ kt => ?_) ?_
      · refine X7.laload hx (j := i) (v := (.long (cnt k))) (by rw [e7]; exact Ar_a_8.1) (State.isArrayOf_alike hZ.alike Ar_a_8.2.1) Ar_a_8.2.2 hin_a_8 hat_a_8 (g := (mkF m 59 #[.val (.ref t), .val (.long x1), .second, .val (.long (S k)), .second, .val (.int i)] [(.int i), (.ref a), (.long (S k))])) rfl rfl (hb hby d12_59) _ ?_
        show Steps p.tables e below (T7.setTop (mkF m 60 #[.val (.ref t), .val (.long x1), .second, .val (.long (S k)), .second, .val (.int i)] [(.long (cnt k)), (.long (S k))])) _
        exact kt
      refine RunsTo.of (T' := T7) (g' := (mkF m 38 #[.val (.ref t), .val (.long x1), .second, .val (.long ((S k) + (cnt k))), .second, .val (.int (i + (1 : Int32)))] [])) (fun tgt_ kt => ?_) ?_
      · refine XS.ladd X7.here hx rfl (hb hby d12_60) rfl ?_
        show Steps p.tables e below (T7.setTop (mkF m 61 #[.val (.ref t), .val (.long x1), .second, .val (.long (S k)), .second, .val (.int i)] [(.long ((S k) + (cnt k)))])) _
        refine XS.lstoreN X7.here hx rfl (hb hby d12_61) rfl (l' := #[.val (.ref t), .val (.long x1), .second, .val (.long ((S k) + (cnt k))), .second, .val (.int i)]) rfl ?_
        show Steps p.tables e below (T7.setTop (mkF m 62 #[.val (.ref t), .val (.long x1), .second, .val (.long ((S k) + (cnt k))), .second, .val (.int i)] [])) _
        refine XS.iinc X7.here hx rfl (hb hby d12_62) rfl (l' := #[.val (.ref t), .val (.long x1), .second, .val (.long ((S k) + (cnt k))), .second, .val (.int (i + (1 : Int32)))]) rfl ?_
        show Steps p.tables e below (T7.setTop (mkF m 65 #[.val (.ref t), .val (.long x1), .second, .val (.long ((S k) + (cnt k))), .second, .val (.int (i + (1 : Int32)))] [])) _
        refine XS.goto X7.here hx rfl (pc0 := 65) (pc' := 38) rfl (hb hby d12_65) (by decide) (by decide) ?_
        show Steps p.tables e below (T7.setTop (mkF m 38 #[.val (.ref t), .val (.long x1), .second, .val (.long ((S k) + (cnt k))), .second, .val (.int (i + (1 : Int32)))] [])) _
        exact kt
      have h1 := c_iadd i 1
      have h1r := rng32 (i + 1)
      rw [show (1 : Int32).toInt = 1 from rfl] at h1
      exact ih (k + 1) (i + 1) (S k + cnt k) T7 X7 e7 (by omega) hs1.symm (by omega)
  exact loop tt 0 0 0 T1 X1 e1 rfl hS0.symm (by omega)
theorem d2_0 : decode jdk_29_method_70_code 0 = .ok (.lload_n 0, 1) := by decide +kernel
theorem d2_1 : decode jdk_29_method_70_code 1 = .ok (.lload_n 2, 1) := by decide +kernel
theorem d2_2 : decode jdk_29_method_70_code 2 = .ok (.lcmp, 1) := by decide +kernel
theorem d2_3 : decode jdk_29_method_70_code 3 = .ok (.ifCond .gt 7, 3) := by decide +kernel
theorem d2_10 : decode jdk_29_method_70_code 10 = .ok (.lload_n 2, 1) := by decide +kernel
theorem d2_6 : decode jdk_29_method_70_code 6 = .ok (.lload_n 0, 1) := by decide +kernel
theorem d2_7 : decode jdk_29_method_70_code 7 = .ok (.goto 4, 3) := by decide +kernel
theorem d2_11 : decode jdk_29_method_70_code 11 = .ok (.lreturn, 1) := by decide +kernel
theorem ef_rm_min (m : MethodId) (x0 : Int64) (x1 : Int64) : entryFrame m #[(.long x0), (.long x1)] 4 = mkF m 0 #[.val (.long x0), .second, .val (.long x1), .second] [] := by first | (simp [entryFrame, mkF, argsToLocals, Value.category]; done) | rfl
def Q_min (Z : State) (x0 : Int64) (x1 : Int64) (h0 : Heap) (n0 : Nat) (v : Option Value) (h : Heap) (L : List Loc) : Prop := v = some (.long (own_minL x0 x1)) ∧ Fr n0 L ∧ h = h0
set_option maxRecDepth 65536 in
set_option maxHeartbeats 40000000 in
theorem rm_min (l : Launch) (Z : State) (a0 : Array Value) (hw : ∀ d ∈ tables_1, d.before a0 Z = true) (ws : List Jvm.Cond) (x0 : Int64) (x1 : Int64) (h0 : Heap) (n0 : Nat) (Z0 : n0 ≤ h0.size)  :
    MetFree l (⟨"java/lang/Math", "min", "(JJ)J"⟩ : MethodName) (head1 (Jvm.Cond.code (⟨"java/lang/Math", "min", "(JJ)J"⟩ : MethodName) jdk_29_method_70_code 4 (some .long) :: ws) ({ frames := 0, cells := 0, slots := 0, locals := 0 } : Room)) (fun as' U => as' = #[(.long x0), (.long x1)] ∧ Z.Warmed39 U.vm ∧ U.heap = h0) (fun _ _ _ _ _ => True) (fun _ U_ o_ U'_ => ∃ v_ L_, o_ = .returned v_ ∧ Q_min Z x0 x1 h0 n0 v_ U'_.heap L_ ∧ FrameEnd U_ o_ U'_ L_ ({ frames := 0, cells := 0, slots := 0, locals := 0 } : Room).cells ({ frames := 0, cells := 0, slots := 0, locals := 0 } : Room).slots) := by
  refine MetFree.of_bodySF (Jvm.Free.JP.mathPlain rfl (by decide +kernel)) hisR ?_
  intro p e s m args below meth c s₁ Bd hml0 hP hK
  obtain ⟨rfl, hZ, hh⟩ := hP
  have hx := Bd.exec
  have hby := Bd.bytes
  have hml : c.maxLocals = 4 := hml0
  have hown : s.vm.findClass "java/lang/Math" = some m.cls := findClass_of_methodNamed Bd.named
  have hnm := (name_of_methodNamed Bd.named Bd.method).1
  have X0 : Stand p l e ({ frames := 0, cells := 0, slots := 0, locals := 0 } : Room) s m #[(.long x0), (.long x1)] below meth c s₁ [] 0 0 := Stand.of_body Bd
  have e0 : s₁.heap = h0 := by rw [← hh, Bd.state]; rfl
  have N0 := Fr.nil n0
  refine RunsTo.start (ef_rm_min m x0 x1) ?_
  show RunsTo p e below s s₁ (mkF m 0 #[.val (.long x0), .second, .val (.long x1), .second] []) (Q_min Z x0 x1 h0 n0) ({ frames := 0, cells := 0, slots := 0, locals := 0 } : Room).cells ({ frames := 0, cells := 0, slots := 0, locals := 0 } : Room).slots
  refine RunsTo.of (T' := s₁) (g' := (mkF m 3 #[.val (.long x0), .second, .val (.long x1), .second] [(.int (lcmpW x0 x1))])) (fun tgt_ kt => ?_) ?_
  · refine XS.lloadN X0.here hx rfl (hb hby d2_0) rfl ?_
    show Steps p.tables e below (s₁.setTop (mkF m 1 #[.val (.long x0), .second, .val (.long x1), .second] [(.long x0)])) _
    refine XS.lloadN X0.here hx rfl (hb hby d2_1) rfl ?_
    show Steps p.tables e below (s₁.setTop (mkF m 2 #[.val (.long x0), .second, .val (.long x1), .second] [(.long x1), (.long x0)])) _
    refine XS.lcmp X0.here hx rfl (hb hby d2_2) rfl ?_
    show Steps p.tables e below (s₁.setTop (mkF m 3 #[.val (.long x0), .second, .val (.long x1), .second] [(.int (lcmpW x0 x1))])) _
    exact kt
  obtain ⟨y, hy⟩ : ∃ z : Int64, z = (if x1 < x0 then x1 else x0) := ⟨_, rfl⟩
  refine RunsTo.of (T' := s₁) (g' := (mkF m 11 #[.val (.long x0), .second, .val (.long x1), .second] [(.long y)])) (fun tgt_ kt => ?_) ?_
  · by_cases hc3 : x1 < x0
    · refine XS.ifYes X0.here hx rfl (pc0 := 3) (pc' := 10) rfl (hb hby d2_3) rfl ((if0 _ _).trans (tlt ((lw_gt x0 x1).mpr hc3)).2.2.1) (by decide) (by decide) ?_
      show Steps p.tables e below (s₁.setTop (mkF m 10 #[.val (.long x0), .second, .val (.long x1), .second] [])) _
      try rw [if_pos hc3] at hy
      rw [hy] at kt
      refine XS.lloadN X0.here hx rfl (hb hby d2_10) rfl ?_
      show Steps p.tables e below (s₁.setTop (mkF m 11 #[.val (.long x0), .second, .val (.long x1), .second] [(.long x1)])) _
      exact kt
    · refine XS.ifNo X0.here hx rfl (hb hby d2_3) rfl ((if0 _ _).trans (flt (fun q_ => hc3 ((lw_gt x0 x1).mp q_))).2.2.1) ?_
      show Steps p.tables e below (s₁.setTop (mkF m 6 #[.val (.long x0), .second, .val (.long x1), .second] [])) _
      try rw [if_neg hc3] at hy
      rw [hy] at kt
      refine XS.lloadN X0.here hx rfl (hb hby d2_6) rfl ?_
      show Steps p.tables e below (s₁.setTop (mkF m 7 #[.val (.long x0), .second, .val (.long x1), .second] [(.long x0)])) _
      refine XS.goto X0.here hx rfl (pc0 := 7) (pc' := 11) rfl (hb hby d2_7) (by decide) (by decide) ?_
      show Steps p.tables e below (s₁.setTop (mkF m 11 #[.val (.long x0), .second, .val (.long x1), .second] [(.long x0)])) _
      exact kt
  refine RunsTo.retJ X0 hx Bd.returns Bd.notSynchronized (hb hby d2_11) ?_ (by decide) (by decide)
  rw [e0, hy]
  exact ⟨rfl, N0, rfl⟩
theorem d1_0 : decode method_2_code 0 = .ok (.lload_n 0, 1) := by decide +kernel
theorem d1_1 : decode method_2_code 1 = .ok (.ldc2_w 9, 3) := by decide +kernel
theorem d1_4 : decode method_2_code 4 = .ok (.land, 1) := by decide +kernel
theorem d1_5 : decode method_2_code 5 = .ok (.iload_n 2, 1) := by decide +kernel
theorem d1_6 : decode method_2_code 6 = .ok (.bipush 63, 2) := by decide +kernel
theorem d1_8 : decode method_2_code 8 = .ok (.iand, 1) := by decide +kernel
theorem d1_9 : decode method_2_code 9 = .ok (.lushr, 1) := by decide +kernel
theorem d1_10 : decode method_2_code 10 = .ok (.lstore_n 3, 1) := by decide +kernel
theorem d1_11 : decode method_2_code 11 = .ok (.lload_n 3, 1) := by decide +kernel
theorem d1_12 : decode method_2_code 12 = .ok (.ldc2_w 11, 3) := by decide +kernel
theorem pd_3 : parseMethodDescriptor "(JJ)J" = some ⟨[.long, .long], some .long⟩ := by decide +kernel
theorem d1_15 : decode method_2_code 15 = .ok (.invokestatic 13, 3) := by decide +kernel
theorem d1_18 : decode method_2_code 18 = .ok (.lreturn, 1) := by decide +kernel
theorem pn_3 : plainName "com/example/iron_latch/ironlatch/cli/PairTimesAtPinLaw" = true := by first | (simp [plainName, overriddenIn]; done) | decide +kernel
theorem ef_rm_nanos (m : MethodId) (x0 : Int64) (x1 : Int32) : entryFrame m #[(.long x0), (.int x1)] 5 = mkF m 0 #[.val (.long x0), .second, .val (.int x1), .unset, .unset] [] := by first | (simp [entryFrame, mkF, argsToLocals, Value.category]; done) | rfl
def Q_nanos (Z : State) (x0 : Int64) (x2 : Int32) (h0 : Heap) (n0 : Nat) (v : Option Value) (h : Heap) (L : List Loc) : Prop := ∃ r : Int64, v = some (.long r) ∧ Fr n0 L ∧ h = h0 ∧ 0 ≤ r.toInt ∧ r.toInt ≤ 9223372036854775307
set_option maxRecDepth 65536 in
set_option maxHeartbeats 40000000 in
theorem rm_nanos (l : Launch) (Z : State) (a0 : Array Value) (hw : ∀ d ∈ tables_1, d.before a0 Z = true) (ws : List Jvm.Cond) (x0 : Int64) (x2 : Int32) (h0 : Heap) (n0 : Nat) (Z0 : n0 ≤ h0.size)  :
    MetFree l (⟨"com/example/iron_latch/ironlatch/cli/PairTimesAtPinLaw", "nanos", "(JI)J"⟩ : MethodName) (head1 (Jvm.Cond.code (⟨"com/example/iron_latch/ironlatch/cli/PairTimesAtPinLaw", "nanos", "(JI)J"⟩ : MethodName) method_2_code 5 (some .long) :: ws) ({ frames := 1, cells := 0, slots := 0, locals := 15 } : Room)) (fun as' U => as' = #[(.long x0), (.int x2)] ∧ Z.Warmed39 U.vm ∧ U.heap = h0) (fun _ _ _ _ _ => True) (fun _ U_ o_ U'_ => ∃ v_ L_, o_ = .returned v_ ∧ Q_nanos Z x0 x2 h0 n0 v_ U'_.heap L_ ∧ FrameEnd U_ o_ U'_ L_ ({ frames := 1, cells := 0, slots := 0, locals := 15 } : Room).cells ({ frames := 1, cells := 0, slots := 0, locals := 15 } : Room).slots) := by
  refine MetFree.of_bodySF (plainFor_of_name pn_3) hisR ?_
  intro p e s m args below meth c s₁ Bd hml0 hP hK
  obtain ⟨rfl, hZ, hh⟩ := hP
  have hx := Bd.exec
  have hby := Bd.bytes
  have hml : c.maxLocals = 5 := hml0
  have hown : s.vm.findClass "com/example/iron_latch/ironlatch/cli/PairTimesAtPinLaw" = some m.cls := findClass_of_methodNamed Bd.named
  have hnm := (name_of_methodNamed Bd.named Bd.method).1
  have X0 : Stand p l e ({ frames := 1, cells := 0, slots := 0, locals := 15 } : Room) s m #[(.long x0), (.int x2)] below meth c s₁ [] 0 0 := Stand.of_body Bd
  have e0 : s₁.heap = h0 := by rw [← hh, Bd.state]; rfl
  have N0 := Fr.nil n0
  refine RunsTo.start (ef_rm_nanos m x0 x2) ?_
  show RunsTo p e below s s₁ (mkF m 0 #[.val (.long x0), .second, .val (.int x2), .unset, .unset] []) (Q_nanos Z x0 x2 h0 n0) ({ frames := 1, cells := 0, slots := 0, locals := 15 } : Room).cells ({ frames := 1, cells := 0, slots := 0, locals := 15 } : Room).slots
  refine RunsTo.of (T' := s₁) (g' := (mkF m 11 #[.val (.long x0), .second, .val (.int x2), .val (.long (((x0 &&& (9223372036854775807 : Int64)).toUInt64 >>> ((x2 &&& (63 : Int32)) &&& 0x3f).toInt64.toUInt64).toInt64)), .second] [])) (fun tgt_ kt => ?_) ?_
  · refine XS.lloadN X0.here hx rfl (hb hby d1_0) rfl ?_
    show Steps p.tables e below (s₁.setTop (mkF m 1 #[.val (.long x0), .second, .val (.int x2), .unset, .unset] [(.long x0)])) _
    refine X0.ldc2Long hx hown (mvT hZ (hw _ (List.mem_of_getElem? (i := 4) rfl))) (g := (mkF m 1 #[.val (.long x0), .second, .val (.int x2), .unset, .unset] [(.long x0)])) rfl (hb hby d1_1) _ ?_
    show Steps p.tables e below (s₁.setTop (mkF m 4 #[.val (.long x0), .second, .val (.int x2), .unset, .unset] [(.long (9223372036854775807 : Int64)), (.long x0)])) _
    refine XS.land X0.here hx rfl (hb hby d1_4) rfl ?_
    show Steps p.tables e below (s₁.setTop (mkF m 5 #[.val (.long x0), .second, .val (.int x2), .unset, .unset] [(.long (x0 &&& (9223372036854775807 : Int64)))])) _
    refine XS.iloadN X0.here hx rfl (hb hby d1_5) rfl ?_
    show Steps p.tables e below (s₁.setTop (mkF m 6 #[.val (.long x0), .second, .val (.int x2), .unset, .unset] [(.int x2), (.long (x0 &&& (9223372036854775807 : Int64)))])) _
    refine XS.bipush X0.here hx rfl (hb hby d1_6) ?_
    show Steps p.tables e below (s₁.setTop (mkF m 8 #[.val (.long x0), .second, .val (.int x2), .unset, .unset] [(.int (63 : Int32)), (.int x2), (.long (x0 &&& (9223372036854775807 : Int64)))])) _
    refine XS.iand X0.here hx rfl (hb hby d1_8) rfl ?_
    show Steps p.tables e below (s₁.setTop (mkF m 9 #[.val (.long x0), .second, .val (.int x2), .unset, .unset] [(.int (x2 &&& (63 : Int32))), (.long (x0 &&& (9223372036854775807 : Int64)))])) _
    refine XS.lushr X0.here hx rfl (hb hby d1_9) rfl ?_
    show Steps p.tables e below (s₁.setTop (mkF m 10 #[.val (.long x0), .second, .val (.int x2), .unset, .unset] [(.long (((x0 &&& (9223372036854775807 : Int64)).toUInt64 >>> ((x2 &&& (63 : Int32)) &&& 0x3f).toInt64.toUInt64).toInt64))])) _
    refine XS.lstoreN X0.here hx rfl (hb hby d1_10) rfl (l' := #[.val (.long x0), .second, .val (.int x2), .val (.long (((x0 &&& (9223372036854775807 : Int64)).toUInt64 >>> ((x2 &&& (63 : Int32)) &&& 0x3f).toInt64.toUInt64).toInt64)), .second]) rfl ?_
    show Steps p.tables e below (s₁.setTop (mkF m 11 #[.val (.long x0), .second, .val (.int x2), .val (.long (((x0 &&& (9223372036854775807 : Int64)).toUInt64 >>> ((x2 &&& (63 : Int32)) &&& 0x3f).toInt64.toUInt64).toInt64)), .second] [])) _
    exact kt
  have hm := c_maskL x0 9223372036854775807 63 (by decide) (by decide)
  have hs := own_shr_le (x0 &&& 9223372036854775807) (x2 &&& 63) (by omega)
  obtain ⟨nn, hnn⟩ : ∃ z : Int64, z = (((x0 &&& (9223372036854775807 : Int64)).toUInt64 >>> ((x2 &&& (63 : Int32)) &&& 0x3f).toInt64.toUInt64).toInt64) := ⟨_, rfl⟩
  rw [← hnn]
  rw [← hnn] at hs
  refine RunsTo.of (T' := s₁) (g' := (mkF m 15 #[.val (.long x0), .second, .val (.int x2), .val (.long nn), .second] [(.long (9223372036854775307 : Int64)), (.long nn)])) (fun tgt_ kt => ?_) ?_
  · refine XS.lloadN X0.here hx rfl (hb hby d1_11) rfl ?_
    show Steps p.tables e below (s₁.setTop (mkF m 12 #[.val (.long x0), .second, .val (.int x2), .val (.long nn), .second] [(.long nn)])) _
    refine X0.ldc2Long hx hown (mvT hZ (hw _ (List.mem_of_getElem? (i := 5) rfl))) (g := (mkF m 12 #[.val (.long x0), .second, .val (.int x2), .val (.long nn), .second] [(.long nn)])) rfl (hb hby d1_12) _ ?_
    show Steps p.tables e below (s₁.setTop (mkF m 15 #[.val (.long x0), .second, .val (.int x2), .val (.long nn), .second] [(.long (9223372036854775307 : Int64)), (.long nn)])) _
    exact kt
  obtain ⟨_, _, ⟨T1, L1, k1, n1⟩, -, X1, ⟨Lc1, hQ1, l1, y1, z1⟩, st1⟩ := Jvm.LawKit.callS X0 hx (y := (⟨"java/lang/Math", "min", "(JJ)J"⟩ : MethodName)) hown (mvT hZ (hw _ (List.mem_of_getElem? (i := 6) rfl))) (mvT hZ (hw _ (List.mem_of_getElem? (i := 7) rfl))) (mvT hZ (hw _ (List.mem_of_getElem? (i := 8) rfl))) (mvT hZ (hw _ (List.mem_of_getElem? (i := 9) rfl))) (by decide) (backOf (W := 0) (rm_min l Z a0 hw [] nn (9223372036854775307 : Int64) h0 n0 Z0 ) hZ (hw _ (List.mem_of_getElem? (i := 9) rfl)) (hw _ (List.mem_of_getElem? (i := 8) rfl)) (by decide) (by decide)) (g := (mkF m 15 #[.val (.long x0), .second, .val (.int x2), .val (.long nn), .second] [(.long (9223372036854775307 : Int64)), (.long nn)])) rfl (by rw [hml]; rfl) (argsL := [(.long nn), (.long (9223372036854775307 : Int64))]) (rest := []) (lenOf pd_3 rfl) rfl (by show 2 * 0 + _ ≤ _; exact Nat.le_of_eq rfl) (hb hby d1_15) (fun _ _ => ⟨rfl, e0, (by decide : 0 + 0 ≤ _), (by decide : 0 + 0 ≤ _)⟩)
  dsimp only [Pt.U, Pt.locs, Pt.cells, Pt.slots] at X1 l1 y1 z1 st1 hQ1
  subst l1 y1 z1
  obtain ⟨rfl, N1q, e1⟩ := hQ1
  have N1 := Fr.app N0 N1q
  refine RunsTo.of (T' := T1) (g' := (mkF m 18 #[.val (.long x0), .second, .val (.int x2), .val (.long nn), .second] [(.long (own_minL nn (9223372036854775307 : Int64)))])) st1 ?_
  refine RunsTo.retJ X1 hx Bd.returns Bd.notSynchronized (hb hby d1_18) ?_ (by decide) (by decide)
  rw [e1]
  refine ⟨_, rfl, N1, rfl, ?_⟩
  unfold own_minL
  split
  · rw [show (9223372036854775307 : Int64).toInt = 9223372036854775307 from rfl]; omega
  · rename_i q; rw [Int64.lt_iff_toInt_lt, show (9223372036854775307 : Int64).toInt = 9223372036854775307 from rfl] at q; omega
theorem d10_0 : decode method_3_code 0 = .ok (.iconst 0, 1) := by decide +kernel
theorem d10_1 : decode method_3_code 1 = .ok (.istore_n 2, 1) := by decide +kernel
theorem d10_2 : decode method_3_code 2 = .ok (.lload_n 0, 1) := by decide +kernel
theorem d10_3 : decode method_3_code 3 = .ok (.lstore_n 3, 1) := by decide +kernel
theorem d10_4 : decode method_3_code 4 = .ok (.lload_n 3, 1) := by decide +kernel
theorem d10_5 : decode method_3_code 5 = .ok (.bipush 32, 2) := by decide +kernel
theorem d10_7 : decode method_3_code 7 = .ok (.lushr, 1) := by decide +kernel
theorem d10_8 : decode method_3_code 8 = .ok (.lconst 0, 1) := by decide +kernel
theorem d10_9 : decode method_3_code 9 = .ok (.lcmp, 1) := by decide +kernel
theorem d10_10 : decode method_3_code 10 = .ok (.ifCond .eq 11, 3) := by decide +kernel
theorem d10_13 : decode method_3_code 13 = .ok (.iinc 2 32, 3) := by decide +kernel
theorem d10_16 : decode method_3_code 16 = .ok (.lload_n 3, 1) := by decide +kernel
theorem d10_17 : decode method_3_code 17 = .ok (.bipush 32, 2) := by decide +kernel
theorem d10_19 : decode method_3_code 19 = .ok (.lushr, 1) := by decide +kernel
theorem d10_20 : decode method_3_code 20 = .ok (.lstore_n 3, 1) := by decide +kernel
theorem d10_21 : decode method_3_code 21 = .ok (.lload_n 3, 1) := by decide +kernel
theorem d10_22 : decode method_3_code 22 = .ok (.bipush 16, 2) := by decide +kernel
theorem d10_24 : decode method_3_code 24 = .ok (.lushr, 1) := by decide +kernel
theorem d10_25 : decode method_3_code 25 = .ok (.lconst 0, 1) := by decide +kernel
theorem d10_26 : decode method_3_code 26 = .ok (.lcmp, 1) := by decide +kernel
theorem d10_27 : decode method_3_code 27 = .ok (.ifCond .eq 11, 3) := by decide +kernel
theorem d10_30 : decode method_3_code 30 = .ok (.iinc 2 16, 3) := by decide +kernel
theorem d10_33 : decode method_3_code 33 = .ok (.lload_n 3, 1) := by decide +kernel
theorem d10_34 : decode method_3_code 34 = .ok (.bipush 16, 2) := by decide +kernel
theorem d10_36 : decode method_3_code 36 = .ok (.lushr, 1) := by decide +kernel
theorem d10_37 : decode method_3_code 37 = .ok (.lstore_n 3, 1) := by decide +kernel
theorem d10_38 : decode method_3_code 38 = .ok (.lload_n 3, 1) := by decide +kernel
theorem d10_39 : decode method_3_code 39 = .ok (.bipush 8, 2) := by decide +kernel
theorem d10_41 : decode method_3_code 41 = .ok (.lushr, 1) := by decide +kernel
theorem d10_42 : decode method_3_code 42 = .ok (.lconst 0, 1) := by decide +kernel
theorem d10_43 : decode method_3_code 43 = .ok (.lcmp, 1) := by decide +kernel
theorem d10_44 : decode method_3_code 44 = .ok (.ifCond .eq 11, 3) := by decide +kernel
theorem d10_47 : decode method_3_code 47 = .ok (.iinc 2 8, 3) := by decide +kernel
theorem d10_50 : decode method_3_code 50 = .ok (.lload_n 3, 1) := by decide +kernel
theorem d10_51 : decode method_3_code 51 = .ok (.bipush 8, 2) := by decide +kernel
theorem d10_53 : decode method_3_code 53 = .ok (.lushr, 1) := by decide +kernel
theorem d10_54 : decode method_3_code 54 = .ok (.lstore_n 3, 1) := by decide +kernel
theorem d10_55 : decode method_3_code 55 = .ok (.lload_n 3, 1) := by decide +kernel
theorem d10_56 : decode method_3_code 56 = .ok (.iconst 4, 1) := by decide +kernel
theorem d10_57 : decode method_3_code 57 = .ok (.lushr, 1) := by decide +kernel
theorem d10_58 : decode method_3_code 58 = .ok (.lconst 0, 1) := by decide +kernel
theorem d10_59 : decode method_3_code 59 = .ok (.lcmp, 1) := by decide +kernel
theorem d10_60 : decode method_3_code 60 = .ok (.ifCond .eq 10, 3) := by decide +kernel
theorem d10_63 : decode method_3_code 63 = .ok (.iinc 2 4, 3) := by decide +kernel
theorem d10_66 : decode method_3_code 66 = .ok (.lload_n 3, 1) := by decide +kernel
theorem d10_67 : decode method_3_code 67 = .ok (.iconst 4, 1) := by decide +kernel
theorem d10_68 : decode method_3_code 68 = .ok (.lushr, 1) := by decide +kernel
theorem d10_69 : decode method_3_code 69 = .ok (.lstore_n 3, 1) := by decide +kernel
theorem d10_70 : decode method_3_code 70 = .ok (.lload_n 3, 1) := by decide +kernel
theorem d10_71 : decode method_3_code 71 = .ok (.iconst 2, 1) := by decide +kernel
theorem d10_72 : decode method_3_code 72 = .ok (.lushr, 1) := by decide +kernel
theorem d10_73 : decode method_3_code 73 = .ok (.lconst 0, 1) := by decide +kernel
theorem d10_74 : decode method_3_code 74 = .ok (.lcmp, 1) := by decide +kernel
theorem d10_75 : decode method_3_code 75 = .ok (.ifCond .eq 10, 3) := by decide +kernel
theorem d10_78 : decode method_3_code 78 = .ok (.iinc 2 2, 3) := by decide +kernel
theorem d10_81 : decode method_3_code 81 = .ok (.lload_n 3, 1) := by decide +kernel
theorem d10_82 : decode method_3_code 82 = .ok (.iconst 2, 1) := by decide +kernel
theorem d10_83 : decode method_3_code 83 = .ok (.lushr, 1) := by decide +kernel
theorem d10_84 : decode method_3_code 84 = .ok (.lstore_n 3, 1) := by decide +kernel
theorem d10_85 : decode method_3_code 85 = .ok (.lload_n 3, 1) := by decide +kernel
theorem d10_86 : decode method_3_code 86 = .ok (.iconst 1, 1) := by decide +kernel
theorem d10_87 : decode method_3_code 87 = .ok (.lushr, 1) := by decide +kernel
theorem d10_88 : decode method_3_code 88 = .ok (.lconst 0, 1) := by decide +kernel
theorem d10_89 : decode method_3_code 89 = .ok (.lcmp, 1) := by decide +kernel
theorem d10_90 : decode method_3_code 90 = .ok (.ifCond .eq 10, 3) := by decide +kernel
theorem d10_93 : decode method_3_code 93 = .ok (.iinc 2 1, 3) := by decide +kernel
theorem d10_96 : decode method_3_code 96 = .ok (.lload_n 3, 1) := by decide +kernel
theorem d10_97 : decode method_3_code 97 = .ok (.iconst 1, 1) := by decide +kernel
theorem d10_98 : decode method_3_code 98 = .ok (.lushr, 1) := by decide +kernel
theorem d10_99 : decode method_3_code 99 = .ok (.lstore_n 3, 1) := by decide +kernel
theorem d10_100 : decode method_3_code 100 = .ok (.lload_n 3, 1) := by decide +kernel
theorem d10_101 : decode method_3_code 101 = .ok (.lconst 0, 1) := by decide +kernel
theorem d10_102 : decode method_3_code 102 = .ok (.lcmp, 1) := by decide +kernel
theorem d10_103 : decode method_3_code 103 = .ok (.ifCond .eq 6, 3) := by decide +kernel
theorem d10_106 : decode method_3_code 106 = .ok (.iinc 2 1, 3) := by decide +kernel
theorem d10_109 : decode method_3_code 109 = .ok (.iload_n 2, 1) := by decide +kernel
theorem d10_110 : decode method_3_code 110 = .ok (.ireturn, 1) := by decide +kernel
theorem ef_rm_bl (m : MethodId) (x0 : Int64) : entryFrame m #[(.long x0)] 5 = mkF m 0 #[.val (.long x0), .second, .unset, .unset, .unset] [] := by first | (simp [entryFrame, mkF, argsToLocals, Value.category]; done) | rfl
def Q_bl (Z : State) (x0 : Int64) (h0 : Heap) (n0 : Nat) (v : Option Value) (h : Heap) (L : List Loc) : Prop := ∃ r : Int32, v = some (.int r) ∧ Fr n0 L ∧ h = h0 ∧ r.toInt = x0.toInt.toNat.log2 + 1
set_option maxRecDepth 65536 in
set_option maxHeartbeats 40000000 in
theorem rm_bl (l : Launch) (Z : State) (a0 : Array Value) (hw : ∀ d ∈ tables_1, d.before a0 Z = true) (ws : List Jvm.Cond) (x0 : Int64) (h0 : Heap) (n0 : Nat) (Z0 : n0 ≤ h0.size) (hx0 : 0 < x0.toInt) :
    MetFree l (⟨"com/example/iron_latch/ironlatch/cli/PairTimesAtPinLaw", "bitLength", "(J)I"⟩ : MethodName) (head1 (Jvm.Cond.code (⟨"com/example/iron_latch/ironlatch/cli/PairTimesAtPinLaw", "bitLength", "(J)I"⟩ : MethodName) method_3_code 5 (some .int) :: ws) ({ frames := 0, cells := 0, slots := 0, locals := 0 } : Room)) (fun as' U => as' = #[(.long x0)] ∧ Z.Warmed39 U.vm ∧ U.heap = h0) (fun _ _ _ _ _ => True) (fun _ U_ o_ U'_ => ∃ v_ L_, o_ = .returned v_ ∧ Q_bl Z x0 h0 n0 v_ U'_.heap L_ ∧ FrameEnd U_ o_ U'_ L_ ({ frames := 0, cells := 0, slots := 0, locals := 0 } : Room).cells ({ frames := 0, cells := 0, slots := 0, locals := 0 } : Room).slots) := by
  refine MetFree.of_bodySF (plainFor_of_name pn_3) hisR ?_
  intro p e s m args below meth c s₁ Bd hml0 hP hK
  obtain ⟨rfl, hZ, hh⟩ := hP
  have hx := Bd.exec
  have hby := Bd.bytes
  have hml : c.maxLocals = 5 := hml0
  have hown : s.vm.findClass "com/example/iron_latch/ironlatch/cli/PairTimesAtPinLaw" = some m.cls := findClass_of_methodNamed Bd.named
  have hnm := (name_of_methodNamed Bd.named Bd.method).1
  have X0 : Stand p l e ({ frames := 0, cells := 0, slots := 0, locals := 0 } : Room) s m #[(.long x0)] below meth c s₁ [] 0 0 := Stand.of_body Bd
  have e0 : s₁.heap = h0 := by rw [← hh, Bd.state]; rfl
  have N0 := Fr.nil n0
  refine RunsTo.start (ef_rm_bl m x0) ?_
  show RunsTo p e below s s₁ (mkF m 0 #[.val (.long x0), .second, .unset, .unset, .unset] []) (Q_bl Z x0 h0 n0) ({ frames := 0, cells := 0, slots := 0, locals := 0 } : Room).cells ({ frames := 0, cells := 0, slots := 0, locals := 0 } : Room).slots
  have hr0 := rng64 x0
  have I0 : own_invL x0.toInt.toNat 0 x0 0 := ⟨0, Nat.le_refl 0, by rw [Nat.pow_zero, Nat.div_one]; omega, rfl, by rw [Nat.pow_zero, Nat.div_one]; omega⟩
  have B0 : x0.toInt < ((2 ^ (32 + 32) : Nat) : Int) := by simp only [show ((2 ^ (32 + 32) : Nat) : Int) = 18446744073709551616 from rfl]; omega
  refine RunsTo.of (T' := s₁) (g' := (mkF m 10 #[.val (.long x0), .second, .val (.int (0 : Int32)), .val (.long x0), .second] [(.int (lcmpW ((x0.toUInt64 >>> ((32 : Int32) &&& 0x3f).toInt64.toUInt64).toInt64) (0 : Int64)))])) (fun tgt_ kt => ?_) ?_
  · refine XS.iconst X0.here hx rfl (hb hby d10_0) ?_
    show Steps p.tables e below (s₁.setTop (mkF m 1 #[.val (.long x0), .second, .unset, .unset, .unset] [(.int (0 : Int32))])) _
    refine XS.istoreN X0.here hx rfl (hb hby d10_1) rfl (l' := #[.val (.long x0), .second, .val (.int (0 : Int32)), .unset, .unset]) rfl ?_
    show Steps p.tables e below (s₁.setTop (mkF m 2 #[.val (.long x0), .second, .val (.int (0 : Int32)), .unset, .unset] [])) _
    refine XS.lloadN X0.here hx rfl (hb hby d10_2) rfl ?_
    show Steps p.tables e below (s₁.setTop (mkF m 3 #[.val (.long x0), .second, .val (.int (0 : Int32)), .unset, .unset] [(.long x0)])) _
    refine XS.lstoreN X0.here hx rfl (hb hby d10_3) rfl (l' := #[.val (.long x0), .second, .val (.int (0 : Int32)), .val (.long x0), .second]) rfl ?_
    show Steps p.tables e below (s₁.setTop (mkF m 4 #[.val (.long x0), .second, .val (.int (0 : Int32)), .val (.long x0), .second] [])) _
    refine XS.lloadN X0.here hx rfl (hb hby d10_4) rfl ?_
    show Steps p.tables e below (s₁.setTop (mkF m 5 #[.val (.long x0), .second, .val (.int (0 : Int32)), .val (.long x0), .second] [(.long x0)])) _
    refine XS.bipush X0.here hx rfl (hb hby d10_5) ?_
    show Steps p.tables e below (s₁.setTop (mkF m 7 #[.val (.long x0), .second, .val (.int (0 : Int32)), .val (.long x0), .second] [(.int (32 : Int32)), (.long x0)])) _
    refine XS.lushr X0.here hx rfl (hb hby d10_7) rfl ?_
    show Steps p.tables e below (s₁.setTop (mkF m 8 #[.val (.long x0), .second, .val (.int (0 : Int32)), .val (.long x0), .second] [(.long ((x0.toUInt64 >>> ((32 : Int32) &&& 0x3f).toInt64.toUInt64).toInt64))])) _
    refine XS.lconst X0.here hx rfl (hb hby d10_8) ?_
    show Steps p.tables e below (s₁.setTop (mkF m 9 #[.val (.long x0), .second, .val (.int (0 : Int32)), .val (.long x0), .second] [(.long (0 : Int64)), (.long ((x0.toUInt64 >>> ((32 : Int32) &&& 0x3f).toInt64.toUInt64).toInt64))])) _
    refine XS.lcmp X0.here hx rfl (hb hby d10_9) rfl ?_
    show Steps p.tables e below (s₁.setTop (mkF m 10 #[.val (.long x0), .second, .val (.int (0 : Int32)), .val (.long x0), .second] [(.int (lcmpW ((x0.toUInt64 >>> ((32 : Int32) &&& 0x3f).toInt64.toUInt64).toInt64) (0 : Int64)))])) _
    exact kt
  obtain ⟨m1, hm1⟩ : ∃ z : Int32, z = (if ((x0.toUInt64 >>> ((32 : Int32) &&& 0x3f).toInt64.toUInt64).toInt64) = (0 : Int64) then (0 : Int32) else ((0 : Int32) + (32 : Int32))) := ⟨_, rfl⟩
  obtain ⟨x1, hx1⟩ : ∃ z : Int64, z = (if ((x0.toUInt64 >>> ((32 : Int32) &&& 0x3f).toInt64.toUInt64).toInt64) = (0 : Int64) then x0 else ((x0.toUInt64 >>> ((32 : Int32) &&& 0x3f).toInt64.toUInt64).toInt64)) := ⟨_, rfl⟩
  refine RunsTo.of (T' := s₁) (g' := (mkF m 21 #[.val (.long x0), .second, .val (.int m1), .val (.long x1), .second] [])) (fun tgt_ kt => ?_) ?_
  · by_cases hc10a : ((x0.toUInt64 >>> ((32 : Int32) &&& 0x3f).toInt64.toUInt64).toInt64) = (0 : Int64)
    · refine XS.ifYes X0.here hx rfl (pc0 := 10) (pc' := 21) rfl (hb hby d10_10) rfl ((if0 _ _).trans (teq ((lw_eq ((x0.toUInt64 >>> ((32 : Int32) &&& 0x3f).toInt64.toUInt64).toInt64) (0 : Int64)).mpr hc10a)).1) (by decide) (by decide) ?_
      show Steps p.tables e below (s₁.setTop (mkF m 21 #[.val (.long x0), .second, .val (.int (0 : Int32)), .val (.long x0), .second] [])) _
      try rw [if_pos hc10a] at hm1
      rw [hm1] at kt
      try rw [if_pos hc10a] at hx1
      rw [hx1] at kt
      exact kt
    · refine XS.ifNo X0.here hx rfl (hb hby d10_10) rfl ((if0 _ _).trans (feq (fun q_ => hc10a ((lw_eq ((x0.toUInt64 >>> ((32 : Int32) &&& 0x3f).toInt64.toUInt64).toInt64) (0 : Int64)).mp q_))).1) ?_
      show Steps p.tables e below (s₁.setTop (mkF m 13 #[.val (.long x0), .second, .val (.int (0 : Int32)), .val (.long x0), .second] [])) _
      try rw [if_neg hc10a] at hm1
      rw [hm1] at kt
      try rw [if_neg hc10a] at hx1
      rw [hx1] at kt
      refine XS.iinc X0.here hx rfl (hb hby d10_13) rfl (l' := #[.val (.long x0), .second, .val (.int ((0 : Int32) + (32 : Int32))), .val (.long x0), .second]) rfl ?_
      show Steps p.tables e below (s₁.setTop (mkF m 16 #[.val (.long x0), .second, .val (.int ((0 : Int32) + (32 : Int32))), .val (.long x0), .second] [])) _
      refine XS.lloadN X0.here hx rfl (hb hby d10_16) rfl ?_
      show Steps p.tables e below (s₁.setTop (mkF m 17 #[.val (.long x0), .second, .val (.int ((0 : Int32) + (32 : Int32))), .val (.long x0), .second] [(.long x0)])) _
      refine XS.bipush X0.here hx rfl (hb hby d10_17) ?_
      show Steps p.tables e below (s₁.setTop (mkF m 19 #[.val (.long x0), .second, .val (.int ((0 : Int32) + (32 : Int32))), .val (.long x0), .second] [(.int (32 : Int32)), (.long x0)])) _
      refine XS.lushr X0.here hx rfl (hb hby d10_19) rfl ?_
      show Steps p.tables e below (s₁.setTop (mkF m 20 #[.val (.long x0), .second, .val (.int ((0 : Int32) + (32 : Int32))), .val (.long x0), .second] [(.long ((x0.toUInt64 >>> ((32 : Int32) &&& 0x3f).toInt64.toUInt64).toInt64))])) _
      refine XS.lstoreN X0.here hx rfl (hb hby d10_20) rfl (l' := #[.val (.long x0), .second, .val (.int ((0 : Int32) + (32 : Int32))), .val (.long ((x0.toUInt64 >>> ((32 : Int32) &&& 0x3f).toInt64.toUInt64).toInt64)), .second]) rfl ?_
      show Steps p.tables e below (s₁.setTop (mkF m 21 #[.val (.long x0), .second, .val (.int ((0 : Int32) + (32 : Int32))), .val (.long ((x0.toUInt64 >>> ((32 : Int32) &&& 0x3f).toInt64.toUInt64).toInt64)), .second] [])) _
      exact kt
  obtain ⟨I1, B1⟩ : own_invL x0.toInt.toNat 32 x1 m1 ∧ x1.toInt < ((2 ^ 32 : Nat) : Int) := by rw [hx1, hm1]; exact own_stepL I0 32 32 32 (by decide) (by decide) (by decide) rfl (by decide) B0 (own_zeroL x0 32 32 (by decide) (by decide) (own_invL_nonneg I0))
  refine RunsTo.of (T' := s₁) (g' := (mkF m 27 #[.val (.long x0), .second, .val (.int m1), .val (.long x1), .second] [(.int (lcmpW ((x1.toUInt64 >>> ((16 : Int32) &&& 0x3f).toInt64.toUInt64).toInt64) (0 : Int64)))])) (fun tgt_ kt => ?_) ?_
  · refine XS.lloadN X0.here hx rfl (hb hby d10_21) rfl ?_
    show Steps p.tables e below (s₁.setTop (mkF m 22 #[.val (.long x0), .second, .val (.int m1), .val (.long x1), .second] [(.long x1)])) _
    refine XS.bipush X0.here hx rfl (hb hby d10_22) ?_
    show Steps p.tables e below (s₁.setTop (mkF m 24 #[.val (.long x0), .second, .val (.int m1), .val (.long x1), .second] [(.int (16 : Int32)), (.long x1)])) _
    refine XS.lushr X0.here hx rfl (hb hby d10_24) rfl ?_
    show Steps p.tables e below (s₁.setTop (mkF m 25 #[.val (.long x0), .second, .val (.int m1), .val (.long x1), .second] [(.long ((x1.toUInt64 >>> ((16 : Int32) &&& 0x3f).toInt64.toUInt64).toInt64))])) _
    refine XS.lconst X0.here hx rfl (hb hby d10_25) ?_
    show Steps p.tables e below (s₁.setTop (mkF m 26 #[.val (.long x0), .second, .val (.int m1), .val (.long x1), .second] [(.long (0 : Int64)), (.long ((x1.toUInt64 >>> ((16 : Int32) &&& 0x3f).toInt64.toUInt64).toInt64))])) _
    refine XS.lcmp X0.here hx rfl (hb hby d10_26) rfl ?_
    show Steps p.tables e below (s₁.setTop (mkF m 27 #[.val (.long x0), .second, .val (.int m1), .val (.long x1), .second] [(.int (lcmpW ((x1.toUInt64 >>> ((16 : Int32) &&& 0x3f).toInt64.toUInt64).toInt64) (0 : Int64)))])) _
    exact kt
  obtain ⟨m2, hm2⟩ : ∃ z : Int32, z = (if ((x1.toUInt64 >>> ((16 : Int32) &&& 0x3f).toInt64.toUInt64).toInt64) = (0 : Int64) then m1 else (m1 + (16 : Int32))) := ⟨_, rfl⟩
  obtain ⟨x2, hx2⟩ : ∃ z : Int64, z = (if ((x1.toUInt64 >>> ((16 : Int32) &&& 0x3f).toInt64.toUInt64).toInt64) = (0 : Int64) then x1 else ((x1.toUInt64 >>> ((16 : Int32) &&& 0x3f).toInt64.toUInt64).toInt64)) := ⟨_, rfl⟩
  refine RunsTo.of (T' := s₁) (g' := (mkF m 38 #[.val (.long x0), .second, .val (.int m2), .val (.long x2), .second] [])) (fun tgt_ kt => ?_) ?_
  · by_cases hc27b : ((x1.toUInt64 >>> ((16 : Int32) &&& 0x3f).toInt64.toUInt64).toInt64) = (0 : Int64)
    · refine XS.ifYes X0.here hx rfl (pc0 := 27) (pc' := 38) rfl (hb hby d10_27) rfl ((if0 _ _).trans (teq ((lw_eq ((x1.toUInt64 >>> ((16 : Int32) &&& 0x3f).toInt64.toUInt64).toInt64) (0 : Int64)).mpr hc27b)).1) (by decide) (by decide) ?_
      show Steps p.tables e below (s₁.setTop (mkF m 38 #[.val (.long x0), .second, .val (.int m1), .val (.long x1), .second] [])) _
      try rw [if_pos hc27b] at hm2
      rw [hm2] at kt
      try rw [if_pos hc27b] at hx2
      rw [hx2] at kt
      exact kt
    · refine XS.ifNo X0.here hx rfl (hb hby d10_27) rfl ((if0 _ _).trans (feq (fun q_ => hc27b ((lw_eq ((x1.toUInt64 >>> ((16 : Int32) &&& 0x3f).toInt64.toUInt64).toInt64) (0 : Int64)).mp q_))).1) ?_
      show Steps p.tables e below (s₁.setTop (mkF m 30 #[.val (.long x0), .second, .val (.int m1), .val (.long x1), .second] [])) _
      try rw [if_neg hc27b] at hm2
      rw [hm2] at kt
      try rw [if_neg hc27b] at hx2
      rw [hx2] at kt
      refine XS.iinc X0.here hx rfl (hb hby d10_30) rfl (l' := #[.val (.long x0), .second, .val (.int (m1 + (16 : Int32))), .val (.long x1), .second]) rfl ?_
      show Steps p.tables e below (s₁.setTop (mkF m 33 #[.val (.long x0), .second, .val (.int (m1 + (16 : Int32))), .val (.long x1), .second] [])) _
      refine XS.lloadN X0.here hx rfl (hb hby d10_33) rfl ?_
      show Steps p.tables e below (s₁.setTop (mkF m 34 #[.val (.long x0), .second, .val (.int (m1 + (16 : Int32))), .val (.long x1), .second] [(.long x1)])) _
      refine XS.bipush X0.here hx rfl (hb hby d10_34) ?_
      show Steps p.tables e below (s₁.setTop (mkF m 36 #[.val (.long x0), .second, .val (.int (m1 + (16 : Int32))), .val (.long x1), .second] [(.int (16 : Int32)), (.long x1)])) _
      refine XS.lushr X0.here hx rfl (hb hby d10_36) rfl ?_
      show Steps p.tables e below (s₁.setTop (mkF m 37 #[.val (.long x0), .second, .val (.int (m1 + (16 : Int32))), .val (.long x1), .second] [(.long ((x1.toUInt64 >>> ((16 : Int32) &&& 0x3f).toInt64.toUInt64).toInt64))])) _
      refine XS.lstoreN X0.here hx rfl (hb hby d10_37) rfl (l' := #[.val (.long x0), .second, .val (.int (m1 + (16 : Int32))), .val (.long ((x1.toUInt64 >>> ((16 : Int32) &&& 0x3f).toInt64.toUInt64).toInt64)), .second]) rfl ?_
      show Steps p.tables e below (s₁.setTop (mkF m 38 #[.val (.long x0), .second, .val (.int (m1 + (16 : Int32))), .val (.long ((x1.toUInt64 >>> ((16 : Int32) &&& 0x3f).toInt64.toUInt64).toInt64)), .second] [])) _
      exact kt
  obtain ⟨I2, B2⟩ : own_invL x0.toInt.toNat 48 x2 m2 ∧ x2.toInt < ((2 ^ 16 : Nat) : Int) := by rw [hx2, hm2]; exact own_stepL I1 16 16 16 (by decide) (by decide) (by decide) rfl (by decide) B1 (own_zeroL x1 16 16 (by decide) (by decide) (own_invL_nonneg I1))
  refine RunsTo.of (T' := s₁) (g' := (mkF m 44 #[.val (.long x0), .second, .val (.int m2), .val (.long x2), .second] [(.int (lcmpW ((x2.toUInt64 >>> ((8 : Int32) &&& 0x3f).toInt64.toUInt64).toInt64) (0 : Int64)))])) (fun tgt_ kt => ?_) ?_
  · refine XS.lloadN X0.here hx rfl (hb hby d10_38) rfl ?_
    show Steps p.tables e below (s₁.setTop (mkF m 39 #[.val (.long x0), .second, .val (.int m2), .val (.long x2), .second] [(.long x2)])) _
    refine XS.bipush X0.here hx rfl (hb hby d10_39) ?_
    show Steps p.tables e below (s₁.setTop (mkF m 41 #[.val (.long x0), .second, .val (.int m2), .val (.long x2), .second] [(.int (8 : Int32)), (.long x2)])) _
    refine XS.lushr X0.here hx rfl (hb hby d10_41) rfl ?_
    show Steps p.tables e below (s₁.setTop (mkF m 42 #[.val (.long x0), .second, .val (.int m2), .val (.long x2), .second] [(.long ((x2.toUInt64 >>> ((8 : Int32) &&& 0x3f).toInt64.toUInt64).toInt64))])) _
    refine XS.lconst X0.here hx rfl (hb hby d10_42) ?_
    show Steps p.tables e below (s₁.setTop (mkF m 43 #[.val (.long x0), .second, .val (.int m2), .val (.long x2), .second] [(.long (0 : Int64)), (.long ((x2.toUInt64 >>> ((8 : Int32) &&& 0x3f).toInt64.toUInt64).toInt64))])) _
    refine XS.lcmp X0.here hx rfl (hb hby d10_43) rfl ?_
    show Steps p.tables e below (s₁.setTop (mkF m 44 #[.val (.long x0), .second, .val (.int m2), .val (.long x2), .second] [(.int (lcmpW ((x2.toUInt64 >>> ((8 : Int32) &&& 0x3f).toInt64.toUInt64).toInt64) (0 : Int64)))])) _
    exact kt
  obtain ⟨m3, hm3⟩ : ∃ z : Int32, z = (if ((x2.toUInt64 >>> ((8 : Int32) &&& 0x3f).toInt64.toUInt64).toInt64) = (0 : Int64) then m2 else (m2 + (8 : Int32))) := ⟨_, rfl⟩
  obtain ⟨x3, hx3⟩ : ∃ z : Int64, z = (if ((x2.toUInt64 >>> ((8 : Int32) &&& 0x3f).toInt64.toUInt64).toInt64) = (0 : Int64) then x2 else ((x2.toUInt64 >>> ((8 : Int32) &&& 0x3f).toInt64.toUInt64).toInt64)) := ⟨_, rfl⟩
  refine RunsTo.of (T' := s₁) (g' := (mkF m 55 #[.val (.long x0), .second, .val (.int m3), .val (.long x3), .second] [])) (fun tgt_ kt => ?_) ?_
  · by_cases hc44c : ((x2.toUInt64 >>> ((8 : Int32) &&& 0x3f).toInt64.toUInt64).toInt64) = (0 : Int64)
    · refine XS.ifYes X0.here hx rfl (pc0 := 44) (pc' := 55) rfl (hb hby d10_44) rfl ((if0 _ _).trans (teq ((lw_eq ((x2.toUInt64 >>> ((8 : Int32) &&& 0x3f).toInt64.toUInt64).toInt64) (0 : Int64)).mpr hc44c)).1) (by decide) (by decide) ?_
      show Steps p.tables e below (s₁.setTop (mkF m 55 #[.val (.long x0), .second, .val (.int m2), .val (.long x2), .second] [])) _
      try rw [if_pos hc44c] at hm3
      rw [hm3] at kt
      try rw [if_pos hc44c] at hx3
      rw [hx3] at kt
      exact kt
    · refine XS.ifNo X0.here hx rfl (hb hby d10_44) rfl ((if0 _ _).trans (feq (fun q_ => hc44c ((lw_eq ((x2.toUInt64 >>> ((8 : Int32) &&& 0x3f).toInt64.toUInt64).toInt64) (0 : Int64)).mp q_))).1) ?_
      show Steps p.tables e below (s₁.setTop (mkF m 47 #[.val (.long x0), .second, .val (.int m2), .val (.long x2), .second] [])) _
      try rw [if_neg hc44c] at hm3
      rw [hm3] at kt
      try rw [if_neg hc44c] at hx3
      rw [hx3] at kt
      refine XS.iinc X0.here hx rfl (hb hby d10_47) rfl (l' := #[.val (.long x0), .second, .val (.int (m2 + (8 : Int32))), .val (.long x2), .second]) rfl ?_
      show Steps p.tables e below (s₁.setTop (mkF m 50 #[.val (.long x0), .second, .val (.int (m2 + (8 : Int32))), .val (.long x2), .second] [])) _
      refine XS.lloadN X0.here hx rfl (hb hby d10_50) rfl ?_
      show Steps p.tables e below (s₁.setTop (mkF m 51 #[.val (.long x0), .second, .val (.int (m2 + (8 : Int32))), .val (.long x2), .second] [(.long x2)])) _
      refine XS.bipush X0.here hx rfl (hb hby d10_51) ?_
      show Steps p.tables e below (s₁.setTop (mkF m 53 #[.val (.long x0), .second, .val (.int (m2 + (8 : Int32))), .val (.long x2), .second] [(.int (8 : Int32)), (.long x2)])) _
      refine XS.lushr X0.here hx rfl (hb hby d10_53) rfl ?_
      show Steps p.tables e below (s₁.setTop (mkF m 54 #[.val (.long x0), .second, .val (.int (m2 + (8 : Int32))), .val (.long x2), .second] [(.long ((x2.toUInt64 >>> ((8 : Int32) &&& 0x3f).toInt64.toUInt64).toInt64))])) _
      refine XS.lstoreN X0.here hx rfl (hb hby d10_54) rfl (l' := #[.val (.long x0), .second, .val (.int (m2 + (8 : Int32))), .val (.long ((x2.toUInt64 >>> ((8 : Int32) &&& 0x3f).toInt64.toUInt64).toInt64)), .second]) rfl ?_
      show Steps p.tables e below (s₁.setTop (mkF m 55 #[.val (.long x0), .second, .val (.int (m2 + (8 : Int32))), .val (.long ((x2.toUInt64 >>> ((8 : Int32) &&& 0x3f).toInt64.toUInt64).toInt64)), .second] [])) _
      exact kt
  obtain ⟨I3, B3⟩ : own_invL x0.toInt.toNat 56 x3 m3 ∧ x3.toInt < ((2 ^ 8 : Nat) : Int) := by rw [hx3, hm3]; exact own_stepL I2 8 8 8 (by decide) (by decide) (by decide) rfl (by decide) B2 (own_zeroL x2 8 8 (by decide) (by decide) (own_invL_nonneg I2))
  refine RunsTo.of (T' := s₁) (g' := (mkF m 60 #[.val (.long x0), .second, .val (.int m3), .val (.long x3), .second] [(.int (lcmpW ((x3.toUInt64 >>> ((4 : Int32) &&& 0x3f).toInt64.toUInt64).toInt64) (0 : Int64)))])) (fun tgt_ kt => ?_) ?_
  · refine XS.lloadN X0.here hx rfl (hb hby d10_55) rfl ?_
    show Steps p.tables e below (s₁.setTop (mkF m 56 #[.val (.long x0), .second, .val (.int m3), .val (.long x3), .second] [(.long x3)])) _
    refine XS.iconst X0.here hx rfl (hb hby d10_56) ?_
    show Steps p.tables e below (s₁.setTop (mkF m 57 #[.val (.long x0), .second, .val (.int m3), .val (.long x3), .second] [(.int (4 : Int32)), (.long x3)])) _
    refine XS.lushr X0.here hx rfl (hb hby d10_57) rfl ?_
    show Steps p.tables e below (s₁.setTop (mkF m 58 #[.val (.long x0), .second, .val (.int m3), .val (.long x3), .second] [(.long ((x3.toUInt64 >>> ((4 : Int32) &&& 0x3f).toInt64.toUInt64).toInt64))])) _
    refine XS.lconst X0.here hx rfl (hb hby d10_58) ?_
    show Steps p.tables e below (s₁.setTop (mkF m 59 #[.val (.long x0), .second, .val (.int m3), .val (.long x3), .second] [(.long (0 : Int64)), (.long ((x3.toUInt64 >>> ((4 : Int32) &&& 0x3f).toInt64.toUInt64).toInt64))])) _
    refine XS.lcmp X0.here hx rfl (hb hby d10_59) rfl ?_
    show Steps p.tables e below (s₁.setTop (mkF m 60 #[.val (.long x0), .second, .val (.int m3), .val (.long x3), .second] [(.int (lcmpW ((x3.toUInt64 >>> ((4 : Int32) &&& 0x3f).toInt64.toUInt64).toInt64) (0 : Int64)))])) _
    exact kt
  obtain ⟨m4, hm4⟩ : ∃ z : Int32, z = (if ((x3.toUInt64 >>> ((4 : Int32) &&& 0x3f).toInt64.toUInt64).toInt64) = (0 : Int64) then m3 else (m3 + (4 : Int32))) := ⟨_, rfl⟩
  obtain ⟨x4, hx4⟩ : ∃ z : Int64, z = (if ((x3.toUInt64 >>> ((4 : Int32) &&& 0x3f).toInt64.toUInt64).toInt64) = (0 : Int64) then x3 else ((x3.toUInt64 >>> ((4 : Int32) &&& 0x3f).toInt64.toUInt64).toInt64)) := ⟨_, rfl⟩
  refine RunsTo.of (T' := s₁) (g' := (mkF m 70 #[.val (.long x0), .second, .val (.int m4), .val (.long x4), .second] [])) (fun tgt_ kt => ?_) ?_
  · by_cases hc60d : ((x3.toUInt64 >>> ((4 : Int32) &&& 0x3f).toInt64.toUInt64).toInt64) = (0 : Int64)
    · refine XS.ifYes X0.here hx rfl (pc0 := 60) (pc' := 70) rfl (hb hby d10_60) rfl ((if0 _ _).trans (teq ((lw_eq ((x3.toUInt64 >>> ((4 : Int32) &&& 0x3f).toInt64.toUInt64).toInt64) (0 : Int64)).mpr hc60d)).1) (by decide) (by decide) ?_
      show Steps p.tables e below (s₁.setTop (mkF m 70 #[.val (.long x0), .second, .val (.int m3), .val (.long x3), .second] [])) _
      try rw [if_pos hc60d] at hm4
      rw [hm4] at kt
      try rw [if_pos hc60d] at hx4
      rw [hx4] at kt
      exact kt
    · refine XS.ifNo X0.here hx rfl (hb hby d10_60) rfl ((if0 _ _).trans (feq (fun q_ => hc60d ((lw_eq ((x3.toUInt64 >>> ((4 : Int32) &&& 0x3f).toInt64.toUInt64).toInt64) (0 : Int64)).mp q_))).1) ?_
      show Steps p.tables e below (s₁.setTop (mkF m 63 #[.val (.long x0), .second, .val (.int m3), .val (.long x3), .second] [])) _
      try rw [if_neg hc60d] at hm4
      rw [hm4] at kt
      try rw [if_neg hc60d] at hx4
      rw [hx4] at kt
      refine XS.iinc X0.here hx rfl (hb hby d10_63) rfl (l' := #[.val (.long x0), .second, .val (.int (m3 + (4 : Int32))), .val (.long x3), .second]) rfl ?_
      show Steps p.tables e below (s₁.setTop (mkF m 66 #[.val (.long x0), .second, .val (.int (m3 + (4 : Int32))), .val (.long x3), .second] [])) _
      refine XS.lloadN X0.here hx rfl (hb hby d10_66) rfl ?_
      show Steps p.tables e below (s₁.setTop (mkF m 67 #[.val (.long x0), .second, .val (.int (m3 + (4 : Int32))), .val (.long x3), .second] [(.long x3)])) _
      refine XS.iconst X0.here hx rfl (hb hby d10_67) ?_
      show Steps p.tables e below (s₁.setTop (mkF m 68 #[.val (.long x0), .second, .val (.int (m3 + (4 : Int32))), .val (.long x3), .second] [(.int (4 : Int32)), (.long x3)])) _
      refine XS.lushr X0.here hx rfl (hb hby d10_68) rfl ?_
      show Steps p.tables e below (s₁.setTop (mkF m 69 #[.val (.long x0), .second, .val (.int (m3 + (4 : Int32))), .val (.long x3), .second] [(.long ((x3.toUInt64 >>> ((4 : Int32) &&& 0x3f).toInt64.toUInt64).toInt64))])) _
      refine XS.lstoreN X0.here hx rfl (hb hby d10_69) rfl (l' := #[.val (.long x0), .second, .val (.int (m3 + (4 : Int32))), .val (.long ((x3.toUInt64 >>> ((4 : Int32) &&& 0x3f).toInt64.toUInt64).toInt64)), .second]) rfl ?_
      show Steps p.tables e below (s₁.setTop (mkF m 70 #[.val (.long x0), .second, .val (.int (m3 + (4 : Int32))), .val (.long ((x3.toUInt64 >>> ((4 : Int32) &&& 0x3f).toInt64.toUInt64).toInt64)), .second] [])) _
      exact kt
  obtain ⟨I4, B4⟩ : own_invL x0.toInt.toNat 60 x4 m4 ∧ x4.toInt < ((2 ^ 4 : Nat) : Int) := by rw [hx4, hm4]; exact own_stepL I3 4 4 4 (by decide) (by decide) (by decide) rfl (by decide) B3 (own_zeroL x3 4 4 (by decide) (by decide) (own_invL_nonneg I3))
  refine RunsTo.of (T' := s₁) (g' := (mkF m 75 #[.val (.long x0), .second, .val (.int m4), .val (.long x4), .second] [(.int (lcmpW ((x4.toUInt64 >>> ((2 : Int32) &&& 0x3f).toInt64.toUInt64).toInt64) (0 : Int64)))])) (fun tgt_ kt => ?_) ?_
  · refine XS.lloadN X0.here hx rfl (hb hby d10_70) rfl ?_
    show Steps p.tables e below (s₁.setTop (mkF m 71 #[.val (.long x0), .second, .val (.int m4), .val (.long x4), .second] [(.long x4)])) _
    refine XS.iconst X0.here hx rfl (hb hby d10_71) ?_
    show Steps p.tables e below (s₁.setTop (mkF m 72 #[.val (.long x0), .second, .val (.int m4), .val (.long x4), .second] [(.int (2 : Int32)), (.long x4)])) _
    refine XS.lushr X0.here hx rfl (hb hby d10_72) rfl ?_
    show Steps p.tables e below (s₁.setTop (mkF m 73 #[.val (.long x0), .second, .val (.int m4), .val (.long x4), .second] [(.long ((x4.toUInt64 >>> ((2 : Int32) &&& 0x3f).toInt64.toUInt64).toInt64))])) _
    refine XS.lconst X0.here hx rfl (hb hby d10_73) ?_
    show Steps p.tables e below (s₁.setTop (mkF m 74 #[.val (.long x0), .second, .val (.int m4), .val (.long x4), .second] [(.long (0 : Int64)), (.long ((x4.toUInt64 >>> ((2 : Int32) &&& 0x3f).toInt64.toUInt64).toInt64))])) _
    refine XS.lcmp X0.here hx rfl (hb hby d10_74) rfl ?_
    show Steps p.tables e below (s₁.setTop (mkF m 75 #[.val (.long x0), .second, .val (.int m4), .val (.long x4), .second] [(.int (lcmpW ((x4.toUInt64 >>> ((2 : Int32) &&& 0x3f).toInt64.toUInt64).toInt64) (0 : Int64)))])) _
    exact kt
  obtain ⟨m5, hm5⟩ : ∃ z : Int32, z = (if ((x4.toUInt64 >>> ((2 : Int32) &&& 0x3f).toInt64.toUInt64).toInt64) = (0 : Int64) then m4 else (m4 + (2 : Int32))) := ⟨_, rfl⟩
  obtain ⟨x5, hx5⟩ : ∃ z : Int64, z = (if ((x4.toUInt64 >>> ((2 : Int32) &&& 0x3f).toInt64.toUInt64).toInt64) = (0 : Int64) then x4 else ((x4.toUInt64 >>> ((2 : Int32) &&& 0x3f).toInt64.toUInt64).toInt64)) := ⟨_, rfl⟩
  refine RunsTo.of (T' := s₁) (g' := (mkF m 85 #[.val (.long x0), .second, .val (.int m5), .val (.long x5), .second] [])) (fun tgt_ kt => ?_) ?_
  · by_cases hc75e : ((x4.toUInt64 >>> ((2 : Int32) &&& 0x3f).toInt64.toUInt64).toInt64) = (0 : Int64)
    · refine XS.ifYes X0.here hx rfl (pc0 := 75) (pc' := 85) rfl (hb hby d10_75) rfl ((if0 _ _).trans (teq ((lw_eq ((x4.toUInt64 >>> ((2 : Int32) &&& 0x3f).toInt64.toUInt64).toInt64) (0 : Int64)).mpr hc75e)).1) (by decide) (by decide) ?_
      show Steps p.tables e below (s₁.setTop (mkF m 85 #[.val (.long x0), .second, .val (.int m4), .val (.long x4), .second] [])) _
      try rw [if_pos hc75e] at hm5
      rw [hm5] at kt
      try rw [if_pos hc75e] at hx5
      rw [hx5] at kt
      exact kt
    · refine XS.ifNo X0.here hx rfl (hb hby d10_75) rfl ((if0 _ _).trans (feq (fun q_ => hc75e ((lw_eq ((x4.toUInt64 >>> ((2 : Int32) &&& 0x3f).toInt64.toUInt64).toInt64) (0 : Int64)).mp q_))).1) ?_
      show Steps p.tables e below (s₁.setTop (mkF m 78 #[.val (.long x0), .second, .val (.int m4), .val (.long x4), .second] [])) _
      try rw [if_neg hc75e] at hm5
      rw [hm5] at kt
      try rw [if_neg hc75e] at hx5
      rw [hx5] at kt
      refine XS.iinc X0.here hx rfl (hb hby d10_78) rfl (l' := #[.val (.long x0), .second, .val (.int (m4 + (2 : Int32))), .val (.long x4), .second]) rfl ?_
      show Steps p.tables e below (s₁.setTop (mkF m 81 #[.val (.long x0), .second, .val (.int (m4 + (2 : Int32))), .val (.long x4), .second] [])) _
      refine XS.lloadN X0.here hx rfl (hb hby d10_81) rfl ?_
      show Steps p.tables e below (s₁.setTop (mkF m 82 #[.val (.long x0), .second, .val (.int (m4 + (2 : Int32))), .val (.long x4), .second] [(.long x4)])) _
      refine XS.iconst X0.here hx rfl (hb hby d10_82) ?_
      show Steps p.tables e below (s₁.setTop (mkF m 83 #[.val (.long x0), .second, .val (.int (m4 + (2 : Int32))), .val (.long x4), .second] [(.int (2 : Int32)), (.long x4)])) _
      refine XS.lushr X0.here hx rfl (hb hby d10_83) rfl ?_
      show Steps p.tables e below (s₁.setTop (mkF m 84 #[.val (.long x0), .second, .val (.int (m4 + (2 : Int32))), .val (.long x4), .second] [(.long ((x4.toUInt64 >>> ((2 : Int32) &&& 0x3f).toInt64.toUInt64).toInt64))])) _
      refine XS.lstoreN X0.here hx rfl (hb hby d10_84) rfl (l' := #[.val (.long x0), .second, .val (.int (m4 + (2 : Int32))), .val (.long ((x4.toUInt64 >>> ((2 : Int32) &&& 0x3f).toInt64.toUInt64).toInt64)), .second]) rfl ?_
      show Steps p.tables e below (s₁.setTop (mkF m 85 #[.val (.long x0), .second, .val (.int (m4 + (2 : Int32))), .val (.long ((x4.toUInt64 >>> ((2 : Int32) &&& 0x3f).toInt64.toUInt64).toInt64)), .second] [])) _
      exact kt
  obtain ⟨I5, B5⟩ : own_invL x0.toInt.toNat 62 x5 m5 ∧ x5.toInt < ((2 ^ 2 : Nat) : Int) := by rw [hx5, hm5]; exact own_stepL I4 2 2 2 (by decide) (by decide) (by decide) rfl (by decide) B4 (own_zeroL x4 2 2 (by decide) (by decide) (own_invL_nonneg I4))
  refine RunsTo.of (T' := s₁) (g' := (mkF m 90 #[.val (.long x0), .second, .val (.int m5), .val (.long x5), .second] [(.int (lcmpW ((x5.toUInt64 >>> ((1 : Int32) &&& 0x3f).toInt64.toUInt64).toInt64) (0 : Int64)))])) (fun tgt_ kt => ?_) ?_
  · refine XS.lloadN X0.here hx rfl (hb hby d10_85) rfl ?_
    show Steps p.tables e below (s₁.setTop (mkF m 86 #[.val (.long x0), .second, .val (.int m5), .val (.long x5), .second] [(.long x5)])) _
    refine XS.iconst X0.here hx rfl (hb hby d10_86) ?_
    show Steps p.tables e below (s₁.setTop (mkF m 87 #[.val (.long x0), .second, .val (.int m5), .val (.long x5), .second] [(.int (1 : Int32)), (.long x5)])) _
    refine XS.lushr X0.here hx rfl (hb hby d10_87) rfl ?_
    show Steps p.tables e below (s₁.setTop (mkF m 88 #[.val (.long x0), .second, .val (.int m5), .val (.long x5), .second] [(.long ((x5.toUInt64 >>> ((1 : Int32) &&& 0x3f).toInt64.toUInt64).toInt64))])) _
    refine XS.lconst X0.here hx rfl (hb hby d10_88) ?_
    show Steps p.tables e below (s₁.setTop (mkF m 89 #[.val (.long x0), .second, .val (.int m5), .val (.long x5), .second] [(.long (0 : Int64)), (.long ((x5.toUInt64 >>> ((1 : Int32) &&& 0x3f).toInt64.toUInt64).toInt64))])) _
    refine XS.lcmp X0.here hx rfl (hb hby d10_89) rfl ?_
    show Steps p.tables e below (s₁.setTop (mkF m 90 #[.val (.long x0), .second, .val (.int m5), .val (.long x5), .second] [(.int (lcmpW ((x5.toUInt64 >>> ((1 : Int32) &&& 0x3f).toInt64.toUInt64).toInt64) (0 : Int64)))])) _
    exact kt
  obtain ⟨m6, hm6⟩ : ∃ z : Int32, z = (if ((x5.toUInt64 >>> ((1 : Int32) &&& 0x3f).toInt64.toUInt64).toInt64) = (0 : Int64) then m5 else (m5 + (1 : Int32))) := ⟨_, rfl⟩
  obtain ⟨x6, hx6⟩ : ∃ z : Int64, z = (if ((x5.toUInt64 >>> ((1 : Int32) &&& 0x3f).toInt64.toUInt64).toInt64) = (0 : Int64) then x5 else ((x5.toUInt64 >>> ((1 : Int32) &&& 0x3f).toInt64.toUInt64).toInt64)) := ⟨_, rfl⟩
  refine RunsTo.of (T' := s₁) (g' := (mkF m 100 #[.val (.long x0), .second, .val (.int m6), .val (.long x6), .second] [])) (fun tgt_ kt => ?_) ?_
  · by_cases hc90f : ((x5.toUInt64 >>> ((1 : Int32) &&& 0x3f).toInt64.toUInt64).toInt64) = (0 : Int64)
    · refine XS.ifYes X0.here hx rfl (pc0 := 90) (pc' := 100) rfl (hb hby d10_90) rfl ((if0 _ _).trans (teq ((lw_eq ((x5.toUInt64 >>> ((1 : Int32) &&& 0x3f).toInt64.toUInt64).toInt64) (0 : Int64)).mpr hc90f)).1) (by decide) (by decide) ?_
      show Steps p.tables e below (s₁.setTop (mkF m 100 #[.val (.long x0), .second, .val (.int m5), .val (.long x5), .second] [])) _
      try rw [if_pos hc90f] at hm6
      rw [hm6] at kt
      try rw [if_pos hc90f] at hx6
      rw [hx6] at kt
      exact kt
    · refine XS.ifNo X0.here hx rfl (hb hby d10_90) rfl ((if0 _ _).trans (feq (fun q_ => hc90f ((lw_eq ((x5.toUInt64 >>> ((1 : Int32) &&& 0x3f).toInt64.toUInt64).toInt64) (0 : Int64)).mp q_))).1) ?_
      show Steps p.tables e below (s₁.setTop (mkF m 93 #[.val (.long x0), .second, .val (.int m5), .val (.long x5), .second] [])) _
      try rw [if_neg hc90f] at hm6
      rw [hm6] at kt
      try rw [if_neg hc90f] at hx6
      rw [hx6] at kt
      refine XS.iinc X0.here hx rfl (hb hby d10_93) rfl (l' := #[.val (.long x0), .second, .val (.int (m5 + (1 : Int32))), .val (.long x5), .second]) rfl ?_
      show Steps p.tables e below (s₁.setTop (mkF m 96 #[.val (.long x0), .second, .val (.int (m5 + (1 : Int32))), .val (.long x5), .second] [])) _
      refine XS.lloadN X0.here hx rfl (hb hby d10_96) rfl ?_
      show Steps p.tables e below (s₁.setTop (mkF m 97 #[.val (.long x0), .second, .val (.int (m5 + (1 : Int32))), .val (.long x5), .second] [(.long x5)])) _
      refine XS.iconst X0.here hx rfl (hb hby d10_97) ?_
      show Steps p.tables e below (s₁.setTop (mkF m 98 #[.val (.long x0), .second, .val (.int (m5 + (1 : Int32))), .val (.long x5), .second] [(.int (1 : Int32)), (.long x5)])) _
      refine XS.lushr X0.here hx rfl (hb hby d10_98) rfl ?_
      show Steps p.tables e below (s₁.setTop (mkF m 99 #[.val (.long x0), .second, .val (.int (m5 + (1 : Int32))), .val (.long x5), .second] [(.long ((x5.toUInt64 >>> ((1 : Int32) &&& 0x3f).toInt64.toUInt64).toInt64))])) _
      refine XS.lstoreN X0.here hx rfl (hb hby d10_99) rfl (l' := #[.val (.long x0), .second, .val (.int (m5 + (1 : Int32))), .val (.long ((x5.toUInt64 >>> ((1 : Int32) &&& 0x3f).toInt64.toUInt64).toInt64)), .second]) rfl ?_
      show Steps p.tables e below (s₁.setTop (mkF m 100 #[.val (.long x0), .second, .val (.int (m5 + (1 : Int32))), .val (.long ((x5.toUInt64 >>> ((1 : Int32) &&& 0x3f).toInt64.toUInt64).toInt64)), .second] [])) _
      exact kt
  obtain ⟨I6, B6⟩ : own_invL x0.toInt.toNat 63 x6 m6 ∧ x6.toInt < ((2 ^ 1 : Nat) : Int) := by rw [hx6, hm6]; exact own_stepL I5 1 1 1 (by decide) (by decide) (by decide) rfl (by decide) B5 (own_zeroL x5 1 1 (by decide) (by decide) (own_invL_nonneg I5))
  refine RunsTo.of (T' := s₁) (g' := (mkF m 103 #[.val (.long x0), .second, .val (.int m6), .val (.long x6), .second] [(.int (lcmpW x6 (0 : Int64)))])) (fun tgt_ kt => ?_) ?_
  · refine XS.lloadN X0.here hx rfl (hb hby d10_100) rfl ?_
    show Steps p.tables e below (s₁.setTop (mkF m 101 #[.val (.long x0), .second, .val (.int m6), .val (.long x6), .second] [(.long x6)])) _
    refine XS.lconst X0.here hx rfl (hb hby d10_101) ?_
    show Steps p.tables e below (s₁.setTop (mkF m 102 #[.val (.long x0), .second, .val (.int m6), .val (.long x6), .second] [(.long (0 : Int64)), (.long x6)])) _
    refine XS.lcmp X0.here hx rfl (hb hby d10_102) rfl ?_
    show Steps p.tables e below (s₁.setTop (mkF m 103 #[.val (.long x0), .second, .val (.int m6), .val (.long x6), .second] [(.int (lcmpW x6 (0 : Int64)))])) _
    exact kt
  obtain ⟨hL1, hL2⟩ := own_lastL I6 (by decide) B6
  refine RunsTo.of (T' := s₁) (g' := (mkF m 110 #[.val (.long x0), .second, .val (.int (m6 + (1 : Int32))), .val (.long x6), .second] [(.int (m6 + (1 : Int32)))])) (fun tgt_ kt => ?_) ?_
  · refine XS.ifNo X0.here hx rfl (hb hby d10_103) rfl ((if0 _ _).trans (feq (fun q_ => (show ¬ x6 = 0 by rw [← Int64.toInt_inj, hL2]; decide) ((lw_eq x6 (0 : Int64)).mp q_))).1) ?_
    show Steps p.tables e below (s₁.setTop (mkF m 106 #[.val (.long x0), .second, .val (.int m6), .val (.long x6), .second] [])) _
    refine XS.iinc X0.here hx rfl (hb hby d10_106) rfl (l' := #[.val (.long x0), .second, .val (.int (m6 + (1 : Int32))), .val (.long x6), .second]) rfl ?_
    show Steps p.tables e below (s₁.setTop (mkF m 109 #[.val (.long x0), .second, .val (.int (m6 + (1 : Int32))), .val (.long x6), .second] [])) _
    refine XS.iloadN X0.here hx rfl (hb hby d10_109) rfl ?_
    show Steps p.tables e below (s₁.setTop (mkF m 110 #[.val (.long x0), .second, .val (.int (m6 + (1 : Int32))), .val (.long x6), .second] [(.int (m6 + (1 : Int32)))])) _
    exact kt
  refine RunsTo.retI X0 hx Bd.returns Bd.notSynchronized (hb hby d10_110) ?_ (by decide) (by decide)
  rw [e0]
  exact ⟨_, rfl, N0, rfl, hL1⟩
theorem d9_0 : decode method_4_code 0 = .ok (.lload_n 0, 1) := by decide +kernel
theorem d9_1 : decode method_4_code 1 = .ok (.ldc2_w 19, 3) := by decide +kernel
theorem d9_4 : decode method_4_code 4 = .ok (.ladd, 1) := by decide +kernel
theorem d9_5 : decode method_4_code 5 = .ok (.ldc2_w 21, 3) := by decide +kernel
theorem d9_8 : decode method_4_code 8 = .ok (.ldiv, 1) := by decide +kernel
theorem d9_9 : decode method_4_code 9 = .ok (.lstore_n 2, 1) := by decide +kernel
theorem d9_10 : decode method_4_code 10 = .ok (.lload_n 2, 1) := by decide +kernel
theorem d9_11 : decode method_4_code 11 = .ok (.ldc2_w 23, 3) := by decide +kernel
theorem d9_14 : decode method_4_code 14 = .ok (.lcmp, 1) := by decide +kernel
theorem d9_15 : decode method_4_code 15 = .ok (.ifCond .ge 5, 3) := by decide +kernel
theorem d9_18 : decode method_4_code 18 = .ok (.lload_n 2, 1) := by decide +kernel
theorem d9_19 : decode method_4_code 19 = .ok (.lreturn, 1) := by decide +kernel
theorem d9_20 : decode method_4_code 20 = .ok (.lload_n 2, 1) := by decide +kernel
theorem d9_21 : decode method_4_code 21 = .ok (.invokestatic 25, 3) := by decide +kernel
theorem d9_24 : decode method_4_code 24 = .ok (.bipush 11, 2) := by decide +kernel
theorem d9_26 : decode method_4_code 26 = .ok (.isub, 1) := by decide +kernel
theorem d9_27 : decode method_4_code 27 = .ok (.istore 4, 2) := by decide +kernel
theorem d9_29 : decode method_4_code 29 = .ok (.lload_n 2, 1) := by decide +kernel
theorem d9_30 : decode method_4_code 30 = .ok (.iload 4, 2) := by decide +kernel
theorem d9_32 : decode method_4_code 32 = .ok (.lushr, 1) := by decide +kernel
theorem d9_33 : decode method_4_code 33 = .ok (.iload 4, 2) := by decide +kernel
theorem d9_35 : decode method_4_code 35 = .ok (.lshl, 1) := by decide +kernel
theorem d9_36 : decode method_4_code 36 = .ok (.lreturn, 1) := by decide +kernel
theorem ef_rm_buc (m : MethodId) (x0 : Int64) : entryFrame m #[(.long x0)] 5 = mkF m 0 #[.val (.long x0), .second, .unset, .unset, .unset] [] := by first | (simp [entryFrame, mkF, argsToLocals, Value.category]; done) | rfl
def Q_buc (Z : State) (x1 : Int64) (h0 : Heap) (n0 : Nat) (v : Option Value) (h : Heap) (L : List Loc) : Prop := ∃ r : Int64, v = some (.long r) ∧ Fr n0 L ∧ h = h0 ∧ r.toInt = own_buc ((x1.toInt + 500) / 1000).toNat
set_option maxRecDepth 65536 in
set_option maxHeartbeats 40000000 in
theorem rm_buc (l : Launch) (Z : State) (a0 : Array Value) (hw : ∀ d ∈ tables_1, d.before a0 Z = true) (ws : List Jvm.Cond) (x1 : Int64) (h0 : Heap) (n0 : Nat) (Z0 : n0 ≤ h0.size) (hx1 : 0 ≤ x1.toInt ∧ x1.toInt ≤ 9223372036854775307) :
    MetFree l (⟨"com/example/iron_latch/ironlatch/cli/PairTimesAtPinLaw", "bucket", "(J)J"⟩ : MethodName) (head1 (Jvm.Cond.code (⟨"com/example/iron_latch/ironlatch/cli/PairTimesAtPinLaw", "bucket", "(J)J"⟩ : MethodName) method_4_code 5 (some .long) :: ws) ({ frames := 1, cells := 0, slots := 0, locals := 16 } : Room)) (fun as' U => as' = #[(.long x1)] ∧ Z.Warmed39 U.vm ∧ U.heap = h0) (fun _ _ _ _ _ => True) (fun _ U_ o_ U'_ => ∃ v_ L_, o_ = .returned v_ ∧ Q_buc Z x1 h0 n0 v_ U'_.heap L_ ∧ FrameEnd U_ o_ U'_ L_ ({ frames := 1, cells := 0, slots := 0, locals := 16 } : Room).cells ({ frames := 1, cells := 0, slots := 0, locals := 16 } : Room).slots) := by
  refine MetFree.of_bodySF (plainFor_of_name pn_3) hisR ?_
  intro p e s m args below meth c s₁ Bd hml0 hP hK
  obtain ⟨rfl, hZ, hh⟩ := hP
  have hx := Bd.exec
  have hby := Bd.bytes
  have hml : c.maxLocals = 5 := hml0
  have hown : s.vm.findClass "com/example/iron_latch/ironlatch/cli/PairTimesAtPinLaw" = some m.cls := findClass_of_methodNamed Bd.named
  have hnm := (name_of_methodNamed Bd.named Bd.method).1
  have X0 : Stand p l e ({ frames := 1, cells := 0, slots := 0, locals := 16 } : Room) s m #[(.long x1)] below meth c s₁ [] 0 0 := Stand.of_body Bd
  have e0 : s₁.heap = h0 := by rw [← hh, Bd.state]; rfl
  have N0 := Fr.nil n0
  refine RunsTo.start (ef_rm_buc m x1) ?_
  show RunsTo p e below s s₁ (mkF m 0 #[.val (.long x1), .second, .unset, .unset, .unset] []) (Q_buc Z x1 h0 n0) ({ frames := 1, cells := 0, slots := 0, locals := 16 } : Room).cells ({ frames := 1, cells := 0, slots := 0, locals := 16 } : Room).slots
  refine RunsTo.of (T' := s₁) (g' := (mkF m 10 #[.val (.long x1), .second, .val (.long ((x1 + (500 : Int64)) / (1000 : Int64))), .second, .unset] [])) (fun tgt_ kt => ?_) ?_
  · refine XS.lloadN X0.here hx rfl (hb hby d9_0) rfl ?_
    show Steps p.tables e below (s₁.setTop (mkF m 1 #[.val (.long x1), .second, .unset, .unset, .unset] [(.long x1)])) _
    refine X0.ldc2Long hx hown (mvT hZ (hw _ (List.mem_of_getElem? (i := 48) rfl))) (g := (mkF m 1 #[.val (.long x1), .second, .unset, .unset, .unset] [(.long x1)])) rfl (hb hby d9_1) _ ?_
    show Steps p.tables e below (s₁.setTop (mkF m 4 #[.val (.long x1), .second, .unset, .unset, .unset] [(.long (500 : Int64)), (.long x1)])) _
    refine XS.ladd X0.here hx rfl (hb hby d9_4) rfl ?_
    show Steps p.tables e below (s₁.setTop (mkF m 5 #[.val (.long x1), .second, .unset, .unset, .unset] [(.long (x1 + (500 : Int64)))])) _
    refine X0.ldc2Long hx hown (mvT hZ (hw _ (List.mem_of_getElem? (i := 49) rfl))) (g := (mkF m 5 #[.val (.long x1), .second, .unset, .unset, .unset] [(.long (x1 + (500 : Int64)))])) rfl (hb hby d9_5) _ ?_
    show Steps p.tables e below (s₁.setTop (mkF m 8 #[.val (.long x1), .second, .unset, .unset, .unset] [(.long (1000 : Int64)), (.long (x1 + (500 : Int64)))])) _
    refine XS.ldiv X0.here hx rfl (hb hby d9_8) rfl (by decide) ?_
    show Steps p.tables e below (s₁.setTop (mkF m 9 #[.val (.long x1), .second, .unset, .unset, .unset] [(.long ((x1 + (500 : Int64)) / (1000 : Int64)))])) _
    refine XS.lstoreN X0.here hx rfl (hb hby d9_9) rfl (l' := #[.val (.long x1), .second, .val (.long ((x1 + (500 : Int64)) / (1000 : Int64))), .second, .unset]) rfl ?_
    show Steps p.tables e below (s₁.setTop (mkF m 10 #[.val (.long x1), .second, .val (.long ((x1 + (500 : Int64)) / (1000 : Int64))), .second, .unset] [])) _
    exact kt
  obtain ⟨q, hq⟩ : ∃ z : Int64, z = ((x1 + (500 : Int64)) / (1000 : Int64)) := ⟨_, rfl⟩
  rw [← hq]
  have hs := c_ladd x1 500
  have hsr := rng64 (x1 + 500)
  rw [show (500 : Int64).toInt = 500 from rfl] at hs
  have hs' : (x1 + 500).toInt = x1.toInt + 500 := by omega
  have hqq := (c_ldiv (x1 + 500) 1000 1000 rfl (by decide)).1 (by omega)
  rw [hs', ← hq] at hqq
  clear hq
  have hVV : ((x1.toInt + 500) / 1000).toNat = q.toInt.toNat := by rw [hqq]
  refine RunsTo.of (T' := s₁) (g' := (mkF m 15 #[.val (.long x1), .second, .val (.long q), .second, .unset] [(.int (lcmpW q (2048 : Int64)))])) (fun tgt_ kt => ?_) ?_
  · refine XS.lloadN X0.here hx rfl (hb hby d9_10) rfl ?_
    show Steps p.tables e below (s₁.setTop (mkF m 11 #[.val (.long x1), .second, .val (.long q), .second, .unset] [(.long q)])) _
    refine X0.ldc2Long hx hown (mvT hZ (hw _ (List.mem_of_getElem? (i := 50) rfl))) (g := (mkF m 11 #[.val (.long x1), .second, .val (.long q), .second, .unset] [(.long q)])) rfl (hb hby d9_11) _ ?_
    show Steps p.tables e below (s₁.setTop (mkF m 14 #[.val (.long x1), .second, .val (.long q), .second, .unset] [(.long (2048 : Int64)), (.long q)])) _
    refine XS.lcmp X0.here hx rfl (hb hby d9_14) rfl ?_
    show Steps p.tables e below (s₁.setTop (mkF m 15 #[.val (.long x1), .second, .val (.long q), .second, .unset] [(.int (lcmpW q (2048 : Int64)))])) _
    exact kt
  by_cases hlt : q < (2048 : Int64)
  · refine RunsTo.of (T' := s₁) (g' := (mkF m 19 #[.val (.long x1), .second, .val (.long q), .second, .unset] [(.long q)])) (fun tgt_ kt => ?_) ?_
    · refine XS.ifNo X0.here hx rfl (hb hby d9_15) rfl ((if0 _ _).trans (tlt ((lw_lt q (2048 : Int64)).mpr hlt)).2.1) ?_
      show Steps p.tables e below (s₁.setTop (mkF m 18 #[.val (.long x1), .second, .val (.long q), .second, .unset] [])) _
      refine XS.lloadN X0.here hx rfl (hb hby d9_18) rfl ?_
      show Steps p.tables e below (s₁.setTop (mkF m 19 #[.val (.long x1), .second, .val (.long q), .second, .unset] [(.long q)])) _
      exact kt
    refine RunsTo.retJ X0 hx Bd.returns Bd.notSynchronized (hb hby d9_19) ?_ (by decide) (by decide)
    rw [e0]
    refine ⟨_, rfl, N0, rfl, ?_⟩
    rw [Int64.lt_iff_toInt_lt, show (2048 : Int64).toInt = 2048 from rfl] at hlt
    rw [hVV]; unfold own_buc; rw [if_pos (by omega)]; omega
  · refine RunsTo.of (T' := s₁) (g' := (mkF m 21 #[.val (.long x1), .second, .val (.long q), .second, .unset] [(.long q)])) (fun tgt_ kt => ?_) ?_
    · refine XS.ifYes X0.here hx rfl (pc0 := 15) (pc' := 20) rfl (hb hby d9_15) rfl ((if0 _ _).trans (flt (fun q_ => hlt ((lw_lt q (2048 : Int64)).mp q_))).2.1) (by decide) (by decide) ?_
      show Steps p.tables e below (s₁.setTop (mkF m 20 #[.val (.long x1), .second, .val (.long q), .second, .unset] [])) _
      refine XS.lloadN X0.here hx rfl (hb hby d9_20) rfl ?_
      show Steps p.tables e below (s₁.setTop (mkF m 21 #[.val (.long x1), .second, .val (.long q), .second, .unset] [(.long q)])) _
      exact kt
    have hge : 2048 ≤ q.toInt := by rw [Int64.lt_iff_toInt_lt, show (2048 : Int64).toInt = 2048 from rfl] at hlt; omega
    obtain ⟨_, _, ⟨T1, L1, k1, n1⟩, -, X1, ⟨Lc1, hQ1, l1, y1, z1⟩, st1⟩ := Jvm.LawKit.callS X0 hx (y := (⟨"com/example/iron_latch/ironlatch/cli/PairTimesAtPinLaw", "bitLength", "(J)I"⟩ : MethodName)) hown (mvT hZ (hw _ (List.mem_of_getElem? (i := 51) rfl))) (mvT hZ (hw _ (List.mem_of_getElem? (i := 52) rfl))) (mvT hZ (hw _ (List.mem_of_getElem? (i := 2) rfl))) (mvT hZ (hw _ (List.mem_of_getElem? (i := 53) rfl))) (by decide) (backOf (W := 0) (rm_bl l Z a0 hw [] q h0 n0 Z0 (by omega)) hZ (hw _ (List.mem_of_getElem? (i := 53) rfl)) (hw _ (List.mem_of_getElem? (i := 2) rfl)) (by decide) (by decide)) (g := (mkF m 21 #[.val (.long x1), .second, .val (.long q), .second, .unset] [(.long q)])) rfl (by rw [hml]; rfl) (argsL := [(.long q)]) (rest := []) (lenOf pd_1 rfl) rfl (by show 2 * 0 + _ ≤ _; exact Nat.le_of_eq rfl) (hb hby d9_21) (fun _ _ => ⟨rfl, e0, (by decide : 0 + 0 ≤ _), (by decide : 0 + 0 ≤ _)⟩)
    dsimp only [Pt.U, Pt.locs, Pt.cells, Pt.slots] at X1 l1 y1 z1 st1 hQ1
    subst l1 y1 z1
    obtain ⟨bb, rfl, N1q, e1, hbb⟩ := hQ1
    have N1 := Fr.app N0 N1q
    refine RunsTo.of (T' := T1) (g' := (mkF m 24 #[.val (.long x1), .second, .val (.long q), .second, .unset] [(.int bb)])) st1 ?_
    refine RunsTo.of (T' := T1) (g' := (mkF m 36 #[.val (.long x1), .second, .val (.long q), .second, .val (.int (bb - (11 : Int32)))] [(.long (((q.toUInt64 >>> ((bb - (11 : Int32)) &&& 0x3f).toInt64.toUInt64).toInt64) <<< ((bb - (11 : Int32)) &&& 0x3f).toInt64))])) (fun tgt_ kt => ?_) ?_
    · refine XS.bipush X1.here hx rfl (hb hby d9_24) ?_
      show Steps p.tables e below (T1.setTop (mkF m 26 #[.val (.long x1), .second, .val (.long q), .second, .unset] [(.int (11 : Int32)), (.int bb)])) _
      refine XS.isub X1.here hx rfl (hb hby d9_26) rfl ?_
      show Steps p.tables e below (T1.setTop (mkF m 27 #[.val (.long x1), .second, .val (.long q), .second, .unset] [(.int (bb - (11 : Int32)))])) _
      refine XS.istore X1.here hx rfl (hb hby d9_27) rfl (l' := #[.val (.long x1), .second, .val (.long q), .second, .val (.int (bb - (11 : Int32)))]) rfl ?_
      show Steps p.tables e below (T1.setTop (mkF m 29 #[.val (.long x1), .second, .val (.long q), .second, .val (.int (bb - (11 : Int32)))] [])) _
      refine XS.lloadN X1.here hx rfl (hb hby d9_29) rfl ?_
      show Steps p.tables e below (T1.setTop (mkF m 30 #[.val (.long x1), .second, .val (.long q), .second, .val (.int (bb - (11 : Int32)))] [(.long q)])) _
      refine XS.iload X1.here hx rfl (hb hby d9_30) rfl ?_
      show Steps p.tables e below (T1.setTop (mkF m 32 #[.val (.long x1), .second, .val (.long q), .second, .val (.int (bb - (11 : Int32)))] [(.int (bb - (11 : Int32))), (.long q)])) _
      refine XS.lushr X1.here hx rfl (hb hby d9_32) rfl ?_
      show Steps p.tables e below (T1.setTop (mkF m 33 #[.val (.long x1), .second, .val (.long q), .second, .val (.int (bb - (11 : Int32)))] [(.long ((q.toUInt64 >>> ((bb - (11 : Int32)) &&& 0x3f).toInt64.toUInt64).toInt64))])) _
      refine XS.iload X1.here hx rfl (hb hby d9_33) rfl ?_
      show Steps p.tables e below (T1.setTop (mkF m 35 #[.val (.long x1), .second, .val (.long q), .second, .val (.int (bb - (11 : Int32)))] [(.int (bb - (11 : Int32))), (.long ((q.toUInt64 >>> ((bb - (11 : Int32)) &&& 0x3f).toInt64.toUInt64).toInt64))])) _
      refine XS.lshl X1.here hx rfl (hb hby d9_35) rfl ?_
      show Steps p.tables e below (T1.setTop (mkF m 36 #[.val (.long x1), .second, .val (.long q), .second, .val (.int (bb - (11 : Int32)))] [(.long (((q.toUInt64 >>> ((bb - (11 : Int32)) &&& 0x3f).toInt64.toUInt64).toInt64) <<< ((bb - (11 : Int32)) &&& 0x3f).toInt64))])) _
      exact kt
    refine RunsTo.retJ X1 hx Bd.returns Bd.notSynchronized (hb hby d9_36) ?_ (by decide) (by decide)
    rw [e1]
    exact ⟨_, rfl, N1, rfl, by rw [hVV]; exact own_buc_val q bb hge (by omega) hbb⟩
theorem pd_4 : parseMethodDescriptor "(JI)J" = some ⟨[.long, .int], some .long⟩ := by decide +kernel
theorem pd_5 : parseMethodDescriptor "()V" = some ⟨[], none⟩ := by decide +kernel
theorem pd_6 : parseMethodDescriptor "(J)V" = some ⟨[.long], none⟩ := by decide +kernel
theorem pd_7 : parseMethodDescriptor "(J)J" = some ⟨[.long], some .long⟩ := by decide +kernel
theorem pd_8 : parseMethodDescriptor "()J" = some ⟨[], some .long⟩ := by decide +kernel
theorem ef_rm0 (m : MethodId) (x0 : Int64) (x1 : Int64) (x2 : Int64) (x3 : Int32) : entryFrame m #[(.long x0), (.long x1), (.long x2), (.int x3)] maxLocals = mkF m 0 #[.val (.long x0), .second, .val (.long x1), .second, .val (.long x2), .second, .val (.int x3), .unset, .unset, .unset, .unset, .unset, .unset, .unset, .unset, .unset, .unset, .unset, .unset, .unset, .unset, .unset] [] := by first | (simp [entryFrame, mkF, argsToLocals, Value.category, maxLocals]; done) | rfl
def Q0 (Z : State) (x0 : Int64) (x2 : Int64) (x4 : Int64) (x6 : Int32) (h0 : Heap) (n0 : Nat) (v : Option Value) (h : Heap) (L : List Loc) : Prop := v = some (.int 1) ∧ Fr n0 L
set_option maxRecDepth 65536 in
set_option maxHeartbeats 40000000 in
theorem rm0 (l : Launch) (Z : State) (a0 : Array Value) (hw : ∀ d ∈ tables_1, d.before a0 Z = true) (ws : List Jvm.Cond) (x0 : Int64) (x2 : Int64) (x4 : Int64) (x6 : Int32) (h0 : Heap) (n0 : Nat) (Z0 : n0 ≤ h0.size)  :
    MetFree l x (head1 (Jvm.Cond.code x code maxLocals ret :: ws) room_1) (fun as' U => as' = #[(.long x0), (.long x2), (.long x4), (.int x6)] ∧ Z.Warmed39 U.vm ∧ U.heap = h0) (fun _ _ _ _ _ => True) (fun _ U_ o_ U'_ => ∃ v_ L_, o_ = .returned v_ ∧ Q0 Z x0 x2 x4 x6 h0 n0 v_ U'_.heap L_ ∧ FrameEnd U_ o_ U'_ L_ room_1.cells room_1.slots) := by
  refine MetFree.of_bodySF (plainFor_of_name pn_3) hisR ?_
  intro p e s m args below meth c s₁ Bd hml0 hP hK
  obtain ⟨rfl, hZ, hh⟩ := hP
  have hx := Bd.exec
  have hby := Bd.bytes
  have hml : c.maxLocals = 22 := hml0
  have hown : s.vm.findClass "com/example/iron_latch/ironlatch/cli/PairTimesAtPinLaw" = some m.cls := findClass_of_methodNamed Bd.named
  have hnm := (name_of_methodNamed Bd.named Bd.method).1
  have X0 : Stand p l e room_1 s m #[(.long x0), (.long x2), (.long x4), (.int x6)] below meth c s₁ [] 0 0 := Stand.of_body Bd
  have e0 : s₁.heap = h0 := by rw [← hh, Bd.state]; rfl
  have N0 := Fr.nil n0
  refine RunsTo.start (ef_rm0 m x0 x2 x4 x6) ?_
  show RunsTo p e below s s₁ (mkF m 0 #[.val (.long x0), .second, .val (.long x2), .second, .val (.long x4), .second, .val (.int x6), .unset, .unset, .unset, .unset, .unset, .unset, .unset, .unset, .unset, .unset, .unset, .unset, .unset, .unset, .unset] []) (Q0 Z x0 x2 x4 x6 h0 n0) room_1.cells room_1.slots
  refine RunsTo.of (T' := s₁) (g' := (mkF m 3 #[.val (.long x0), .second, .val (.long x2), .second, .val (.long x4), .second, .val (.int x6), .unset, .unset, .unset, .unset, .unset, .unset, .unset, .unset, .unset, .unset, .unset, .unset, .unset, .unset, .unset] [(.int x6), (.long x0)])) (fun tgt_ kt => ?_) ?_
  · refine XS.lloadN X0.here hx rfl (hb hby at_0) rfl ?_
    show Steps p.tables e below (s₁.setTop (mkF m 1 #[.val (.long x0), .second, .val (.long x2), .second, .val (.long x4), .second, .val (.int x6), .unset, .unset, .unset, .unset, .unset, .unset, .unset, .unset, .unset, .unset, .unset, .unset, .unset, .unset, .unset] [(.long x0)])) _
    refine XS.iload X0.here hx rfl (hb hby at_1) rfl ?_
    show Steps p.tables e below (s₁.setTop (mkF m 3 #[.val (.long x0), .second, .val (.long x2), .second, .val (.long x4), .second, .val (.int x6), .unset, .unset, .unset, .unset, .unset, .unset, .unset, .unset, .unset, .unset, .unset, .unset, .unset, .unset, .unset] [(.int x6), (.long x0)])) _
    exact kt
  obtain ⟨_, _, ⟨T1, L1, k1, n1⟩, -, X1, ⟨Lc1, hQ1, l1, y1, z1⟩, st1⟩ := Jvm.LawKit.callS X0 hx (y := (⟨"com/example/iron_latch/ironlatch/cli/PairTimesAtPinLaw", "nanos", "(JI)J"⟩ : MethodName)) hown (mvT hZ (hw _ (List.mem_of_getElem? (i := 0) rfl))) (mvT hZ (hw _ (List.mem_of_getElem? (i := 1) rfl))) (mvT hZ (hw _ (List.mem_of_getElem? (i := 2) rfl))) (mvT hZ (hw _ (List.mem_of_getElem? (i := 3) rfl))) (by decide) (backOf (W := 0) (rm_nanos l Z a0 hw [] x0 x6 h0 n0 Z0 ) hZ (hw _ (List.mem_of_getElem? (i := 3) rfl)) (hw _ (List.mem_of_getElem? (i := 2) rfl)) (by decide) (by decide)) (g := (mkF m 3 #[.val (.long x0), .second, .val (.long x2), .second, .val (.long x4), .second, .val (.int x6), .unset, .unset, .unset, .unset, .unset, .unset, .unset, .unset, .unset, .unset, .unset, .unset, .unset, .unset, .unset] [(.int x6), (.long x0)])) rfl (by rw [hml]; rfl) (argsL := [(.long x0), (.int x6)]) (rest := []) (lenOf pd_4 rfl) rfl (by show 2 * 0 + _ ≤ _; exact Nat.le_of_eq rfl) (hb hby at_3) (fun _ _ => ⟨rfl, e0, (by decide : 0 + 0 ≤ _), (by decide : 0 + 0 ≤ _)⟩)
  dsimp only [Pt.U, Pt.locs, Pt.cells, Pt.slots] at X1 l1 y1 z1 st1 hQ1
  subst l1 y1 z1
  obtain ⟨na, rfl, N1q, e1, hna1, hna2⟩ := hQ1
  have N1 := Fr.app N0 N1q
  refine RunsTo.of (T' := T1) (g' := (mkF m 6 #[.val (.long x0), .second, .val (.long x2), .second, .val (.long x4), .second, .val (.int x6), .unset, .unset, .unset, .unset, .unset, .unset, .unset, .unset, .unset, .unset, .unset, .unset, .unset, .unset, .unset] [(.long na)])) st1 ?_
  refine RunsTo.of (T' := T1) (g' := (mkF m 14 #[.val (.long x0), .second, .val (.long x2), .second, .val (.long x4), .second, .val (.int x6), .val (.long na), .second, .unset, .unset, .unset, .unset, .unset, .unset, .unset, .unset, .unset, .unset, .unset, .unset, .unset] [(.int ((x6.toUInt32 >>> ((6 : Int32) &&& 31).toUInt32).toInt32)), (.long x2)])) (fun tgt_ kt => ?_) ?_
  · refine XS.lstore X1.here hx rfl (hb hby at_6) rfl (l' := #[.val (.long x0), .second, .val (.long x2), .second, .val (.long x4), .second, .val (.int x6), .val (.long na), .second, .unset, .unset, .unset, .unset, .unset, .unset, .unset, .unset, .unset, .unset, .unset, .unset, .unset]) rfl ?_
    show Steps p.tables e below (T1.setTop (mkF m 8 #[.val (.long x0), .second, .val (.long x2), .second, .val (.long x4), .second, .val (.int x6), .val (.long na), .second, .unset, .unset, .unset, .unset, .unset, .unset, .unset, .unset, .unset, .unset, .unset, .unset, .unset] [])) _
    refine XS.lloadN X1.here hx rfl (hb hby at_8) rfl ?_
    show Steps p.tables e below (T1.setTop (mkF m 9 #[.val (.long x0), .second, .val (.long x2), .second, .val (.long x4), .second, .val (.int x6), .val (.long na), .second, .unset, .unset, .unset, .unset, .unset, .unset, .unset, .unset, .unset, .unset, .unset, .unset, .unset] [(.long x2)])) _
    refine XS.iload X1.here hx rfl (hb hby at_9) rfl ?_
    show Steps p.tables e below (T1.setTop (mkF m 11 #[.val (.long x0), .second, .val (.long x2), .second, .val (.long x4), .second, .val (.int x6), .val (.long na), .second, .unset, .unset, .unset, .unset, .unset, .unset, .unset, .unset, .unset, .unset, .unset, .unset, .unset] [(.int x6), (.long x2)])) _
    refine XS.bipush X1.here hx rfl (hb hby at_11) ?_
    show Steps p.tables e below (T1.setTop (mkF m 13 #[.val (.long x0), .second, .val (.long x2), .second, .val (.long x4), .second, .val (.int x6), .val (.long na), .second, .unset, .unset, .unset, .unset, .unset, .unset, .unset, .unset, .unset, .unset, .unset, .unset, .unset] [(.int (6 : Int32)), (.int x6), (.long x2)])) _
    refine XS.iushr X1.here hx rfl (hb hby at_13) rfl ?_
    show Steps p.tables e below (T1.setTop (mkF m 14 #[.val (.long x0), .second, .val (.long x2), .second, .val (.long x4), .second, .val (.int x6), .val (.long na), .second, .unset, .unset, .unset, .unset, .unset, .unset, .unset, .unset, .unset, .unset, .unset, .unset, .unset] [(.int ((x6.toUInt32 >>> ((6 : Int32) &&& 31).toUInt32).toInt32)), (.long x2)])) _
    exact kt
  obtain ⟨_, _, ⟨T2, L2, k2, n2⟩, -, X2, ⟨Lc2, hQ2, l2, y2, z2⟩, st2⟩ := Jvm.LawKit.callS X1 hx (y := (⟨"com/example/iron_latch/ironlatch/cli/PairTimesAtPinLaw", "nanos", "(JI)J"⟩ : MethodName)) hown (mvT hZ (hw _ (List.mem_of_getElem? (i := 0) rfl))) (mvT hZ (hw _ (List.mem_of_getElem? (i := 1) rfl))) (mvT hZ (hw _ (List.mem_of_getElem? (i := 2) rfl))) (mvT hZ (hw _ (List.mem_of_getElem? (i := 3) rfl))) (by decide) (backOf (W := 0) (rm_nanos l Z a0 hw [] x2 ((x6.toUInt32 >>> ((6 : Int32) &&& 31).toUInt32).toInt32) h0 n0 Z0 ) hZ (hw _ (List.mem_of_getElem? (i := 3) rfl)) (hw _ (List.mem_of_getElem? (i := 2) rfl)) (by decide) (by decide)) (g := (mkF m 14 #[.val (.long x0), .second, .val (.long x2), .second, .val (.long x4), .second, .val (.int x6), .val (.long na), .second, .unset, .unset, .unset, .unset, .unset, .unset, .unset, .unset, .unset, .unset, .unset, .unset, .unset] [(.int ((x6.toUInt32 >>> ((6 : Int32) &&& 31).toUInt32).toInt32)), (.long x2)])) rfl (by rw [hml]; rfl) (argsL := [(.long x2), (.int ((x6.toUInt32 >>> ((6 : Int32) &&& 31).toUInt32).toInt32))]) (rest := []) (lenOf pd_4 rfl) rfl (by show 2 * 0 + _ ≤ _; exact Nat.le_of_eq rfl) (hb hby at_14) (fun _ _ => ⟨rfl, e1, (by decide : 0 + 0 ≤ _), (by decide : 0 + 0 ≤ _)⟩)
  dsimp only [Pt.U, Pt.locs, Pt.cells, Pt.slots] at X2 l2 y2 z2 st2 hQ2
  subst l2 y2 z2
  obtain ⟨nb, rfl, N2q, e2, hnb1, hnb2⟩ := hQ2
  have N2 := Fr.app N1 N2q
  refine RunsTo.of (T' := T2) (g' := (mkF m 17 #[.val (.long x0), .second, .val (.long x2), .second, .val (.long x4), .second, .val (.int x6), .val (.long na), .second, .unset, .unset, .unset, .unset, .unset, .unset, .unset, .unset, .unset, .unset, .unset, .unset, .unset] [(.long nb)])) st2 ?_
  refine RunsTo.of (T' := T2) (g' := (mkF m 26 #[.val (.long x0), .second, .val (.long x2), .second, .val (.long x4), .second, .val (.int x6), .val (.long na), .second, .val (.long nb), .second, .unset, .unset, .unset, .unset, .unset, .unset, .unset, .unset, .unset, .unset, .unset] [(.int ((x6.toUInt32 >>> ((12 : Int32) &&& 31).toUInt32).toInt32)), (.long x4)])) (fun tgt_ kt => ?_) ?_
  · refine XS.lstore X2.here hx rfl (hb hby at_17) rfl (l' := #[.val (.long x0), .second, .val (.long x2), .second, .val (.long x4), .second, .val (.int x6), .val (.long na), .second, .val (.long nb), .second, .unset, .unset, .unset, .unset, .unset, .unset, .unset, .unset, .unset, .unset, .unset]) rfl ?_
    show Steps p.tables e below (T2.setTop (mkF m 19 #[.val (.long x0), .second, .val (.long x2), .second, .val (.long x4), .second, .val (.int x6), .val (.long na), .second, .val (.long nb), .second, .unset, .unset, .unset, .unset, .unset, .unset, .unset, .unset, .unset, .unset, .unset] [])) _
    refine XS.lload X2.here hx rfl (hb hby at_19) rfl ?_
    show Steps p.tables e below (T2.setTop (mkF m 21 #[.val (.long x0), .second, .val (.long x2), .second, .val (.long x4), .second, .val (.int x6), .val (.long na), .second, .val (.long nb), .second, .unset, .unset, .unset, .unset, .unset, .unset, .unset, .unset, .unset, .unset, .unset] [(.long x4)])) _
    refine XS.iload X2.here hx rfl (hb hby at_21) rfl ?_
    show Steps p.tables e below (T2.setTop (mkF m 23 #[.val (.long x0), .second, .val (.long x2), .second, .val (.long x4), .second, .val (.int x6), .val (.long na), .second, .val (.long nb), .second, .unset, .unset, .unset, .unset, .unset, .unset, .unset, .unset, .unset, .unset, .unset] [(.int x6), (.long x4)])) _
    refine XS.bipush X2.here hx rfl (hb hby at_23) ?_
    show Steps p.tables e below (T2.setTop (mkF m 25 #[.val (.long x0), .second, .val (.long x2), .second, .val (.long x4), .second, .val (.int x6), .val (.long na), .second, .val (.long nb), .second, .unset, .unset, .unset, .unset, .unset, .unset, .unset, .unset, .unset, .unset, .unset] [(.int (12 : Int32)), (.int x6), (.long x4)])) _
    refine XS.iushr X2.here hx rfl (hb hby at_25) rfl ?_
    show Steps p.tables e below (T2.setTop (mkF m 26 #[.val (.long x0), .second, .val (.long x2), .second, .val (.long x4), .second, .val (.int x6), .val (.long na), .second, .val (.long nb), .second, .unset, .unset, .unset, .unset, .unset, .unset, .unset, .unset, .unset, .unset, .unset] [(.int ((x6.toUInt32 >>> ((12 : Int32) &&& 31).toUInt32).toInt32)), (.long x4)])) _
    exact kt
  obtain ⟨_, _, ⟨T3, L3, k3, n3⟩, -, X3, ⟨Lc3, hQ3, l3, y3, z3⟩, st3⟩ := Jvm.LawKit.callS X2 hx (y := (⟨"com/example/iron_latch/ironlatch/cli/PairTimesAtPinLaw", "nanos", "(JI)J"⟩ : MethodName)) hown (mvT hZ (hw _ (List.mem_of_getElem? (i := 0) rfl))) (mvT hZ (hw _ (List.mem_of_getElem? (i := 1) rfl))) (mvT hZ (hw _ (List.mem_of_getElem? (i := 2) rfl))) (mvT hZ (hw _ (List.mem_of_getElem? (i := 3) rfl))) (by decide) (backOf (W := 0) (rm_nanos l Z a0 hw [] x4 ((x6.toUInt32 >>> ((12 : Int32) &&& 31).toUInt32).toInt32) h0 n0 Z0 ) hZ (hw _ (List.mem_of_getElem? (i := 3) rfl)) (hw _ (List.mem_of_getElem? (i := 2) rfl)) (by decide) (by decide)) (g := (mkF m 26 #[.val (.long x0), .second, .val (.long x2), .second, .val (.long x4), .second, .val (.int x6), .val (.long na), .second, .val (.long nb), .second, .unset, .unset, .unset, .unset, .unset, .unset, .unset, .unset, .unset, .unset, .unset] [(.int ((x6.toUInt32 >>> ((12 : Int32) &&& 31).toUInt32).toInt32)), (.long x4)])) rfl (by rw [hml]; rfl) (argsL := [(.long x4), (.int ((x6.toUInt32 >>> ((12 : Int32) &&& 31).toUInt32).toInt32))]) (rest := []) (lenOf pd_4 rfl) rfl (by show 2 * 0 + _ ≤ _; exact Nat.le_of_eq rfl) (hb hby at_26) (fun _ _ => ⟨rfl, e2, (by decide : 0 + 0 ≤ _), (by decide : 0 + 0 ≤ _)⟩)
  dsimp only [Pt.U, Pt.locs, Pt.cells, Pt.slots] at X3 l3 y3 z3 st3 hQ3
  subst l3 y3 z3
  obtain ⟨nc, rfl, N3q, e3, hnc1, hnc2⟩ := hQ3
  have N3 := Fr.app N2 N3q
  refine RunsTo.of (T' := T3) (g' := (mkF m 29 #[.val (.long x0), .second, .val (.long x2), .second, .val (.long x4), .second, .val (.int x6), .val (.long na), .second, .val (.long nb), .second, .unset, .unset, .unset, .unset, .unset, .unset, .unset, .unset, .unset, .unset, .unset] [(.long nc)])) st3 ?_
  refine RunsTo.of (T' := T3) (g' := (mkF m 31 #[.val (.long x0), .second, .val (.long x2), .second, .val (.long x4), .second, .val (.int x6), .val (.long na), .second, .val (.long nb), .second, .val (.long nc), .second, .unset, .unset, .unset, .unset, .unset, .unset, .unset, .unset, .unset] [])) (fun tgt_ kt => ?_) ?_
  · refine XS.lstore X3.here hx rfl (hb hby at_29) rfl (l' := #[.val (.long x0), .second, .val (.long x2), .second, .val (.long x4), .second, .val (.int x6), .val (.long na), .second, .val (.long nb), .second, .val (.long nc), .second, .unset, .unset, .unset, .unset, .unset, .unset, .unset, .unset, .unset]) rfl ?_
    show Steps p.tables e below (T3.setTop (mkF m 31 #[.val (.long x0), .second, .val (.long x2), .second, .val (.long x4), .second, .val (.int x6), .val (.long na), .second, .val (.long nb), .second, .val (.long nc), .second, .unset, .unset, .unset, .unset, .unset, .unset, .unset, .unset, .unset] [])) _
    exact kt
  obtain ⟨ia, hia⟩ : ∃ z : Nat, z = own_idx ((na.toInt + 500) / 1000).toNat := ⟨_, rfl⟩
  have hial : ia < 46080 := by rw [hia]; exact own_idx_lt _ (by simp only [show (2 : Nat) ^ 54 = 18014398509481984 from rfl]; omega)
  obtain ⟨ib, hib⟩ : ∃ z : Nat, z = own_idx ((nb.toInt + 500) / 1000).toNat := ⟨_, rfl⟩
  have hibl : ib < 46080 := by rw [hib]; exact own_idx_lt _ (by simp only [show (2 : Nat) ^ 54 = 18014398509481984 from rfl]; omega)
  obtain ⟨ic, hic⟩ : ∃ z : Nat, z = own_idx ((nc.toInt + 500) / 1000).toNat := ⟨_, rfl⟩
  have hicl : ic < 46080 := by rw [hic]; exact own_idx_lt _ (by simp only [show (2 : Nat) ^ 54 = 18014398509481984 from rfl]; omega)
  obtain ⟨T4, h4, X4, e4, E4, A4, D4, -, st4⟩ := newO X3 hx hZ hown (hw _ (List.mem_of_getElem? (i := 10) rfl)) (hw _ (List.mem_of_getElem? (i := 11) rfl)) (hw _ (List.mem_of_getElem? (i := 12) rfl)) e3 (g := (mkF m 31 #[.val (.long x0), .second, .val (.long x2), .second, .val (.long x4), .second, .val (.int x6), .val (.long na), .second, .val (.long nb), .second, .val (.long nc), .second, .unset, .unset, .unset, .unset, .unset, .unset, .unset, .unset, .unset] [])) rfl (hb hby at_31) (by decide) (by decide)
  obtain ⟨t, g4⟩ : ∃ z, z = h0.size := ⟨_, rfl⟩
  rw [← g4] at A4 D4 st4
  have Z4 : n0 ≤ h4.size := Nat.le_trans Z0 E4.1
  have g_t : n0 ≤ t := Nat.le_trans Z0 (Nat.le_of_eq g4.symm)
  have F_counts_t : Fld Z h4 t "com/example/iron_latch/ironlatch/cli/PairTimes" "counts" "[J" .null := D4 (Or.inr (hw _ (List.mem_of_getElem? (i := 22) rfl))) (ty := (.array .long)) (by decide)
  have F_recorded_t : Fld Z h4 t "com/example/iron_latch/ironlatch/cli/PairTimes" "recorded" "J" (.long (0 : Int64)) := D4 (Or.inl (hw _ (List.mem_of_getElem? (i := 35) rfl))) (ty := .long) (by decide)
  have E_t : Exa Z h4 t "com/example/iron_latch/ironlatch/cli/PairTimes" := A4
  refine RunsTo.of (T' := T4) (g' := (mkF m 34 #[.val (.long x0), .second, .val (.long x2), .second, .val (.long x4), .second, .val (.int x6), .val (.long na), .second, .val (.long nb), .second, .val (.long nc), .second, .unset, .unset, .unset, .unset, .unset, .unset, .unset, .unset, .unset] [(.ref t)])) st4 ?_
  have lt_t := E_t.lt
  refine RunsTo.of (T' := T4) (g' := (mkF m 35 #[.val (.long x0), .second, .val (.long x2), .second, .val (.long x4), .second, .val (.int x6), .val (.long na), .second, .val (.long nb), .second, .val (.long nc), .second, .unset, .unset, .unset, .unset, .unset, .unset, .unset, .unset, .unset] [(.ref t), (.ref t)])) (fun tgt_ kt => ?_) ?_
  · refine XS.dup X4.here hx rfl (hb hby at_34) rfl rfl ?_
    show Steps p.tables e below (T4.setTop (mkF m 35 #[.val (.long x0), .second, .val (.long x2), .second, .val (.long x4), .second, .val (.int x6), .val (.long na), .second, .val (.long nb), .second, .val (.long nc), .second, .unset, .unset, .unset, .unset, .unset, .unset, .unset, .unset, .unset] [(.ref t), (.ref t)])) _
    exact kt
  obtain ⟨_, _, ⟨T5, L5, k5, n5⟩, -, X5, ⟨Lc5, hQ5, l5, y5, z5⟩, st5⟩ := X4.specialBack hx (y := (⟨"com/example/iron_latch/ironlatch/cli/PairTimes", "<init>", "()V"⟩ : MethodName)) rfl hown (mvT hZ (hw _ (List.mem_of_getElem? (i := 13) rfl))) (mvT hZ (hw _ (List.mem_of_getElem? (i := 14) rfl))) (mvT hZ (hw _ (List.mem_of_getElem? (i := 15) rfl))) (by decide) (backOf (W := 1) (rm_init l Z a0 hw [] t h4 n0 Z4 E_t g_t F_counts_t F_recorded_t) hZ (hw _ (List.mem_of_getElem? (i := 15) rfl)) (hw _ (List.mem_of_getElem? (i := 12) rfl)) (by decide) (by decide)) (g := (mkF m 35 #[.val (.long x0), .second, .val (.long x2), .second, .val (.long x4), .second, .val (.int x6), .val (.long na), .second, .val (.long nb), .second, .val (.long nc), .second, .unset, .unset, .unset, .unset, .unset, .unset, .unset, .unset, .unset] [(.ref t), (.ref t)])) rfl (by rw [hml]; rfl) (Steps.refl _) (a := t) (argsL := []) (rest := [(.ref t)]) (lenOf pd_5 rfl) rfl (by show 2 * 0 + _ ≤ _; exact Nat.le_of_eq rfl) (hb hby at_35) (fun _ _ => ⟨rfl, e4, (by decide : 1 + 1 ≤ _), (by decide : 2 + 56320 ≤ _)⟩)
  dsimp only [Pt.U, Pt.locs, Pt.cells, Pt.slots] at X5 l5 y5 z5 st5 hQ5
  subst l5 y5 z5
  obtain ⟨a, rfl, N5q, g_a, sz_a, K5, F_counts_t, F_recorded_t, V_a⟩ := hQ5
  have N5 := Fr.app N3 N5q
  have Z5 : n0 ≤ T5.heap.size := Nat.le_trans Z4 K5.1
  have E_t := E_t.keep K5
  have ne_t_a : t ≠ a := Nat.ne_of_lt (Nat.lt_of_lt_of_le lt_t sz_a)
  refine RunsTo.of (T' := T5) (g' := (mkF m 38 #[.val (.long x0), .second, .val (.long x2), .second, .val (.long x4), .second, .val (.int x6), .val (.long na), .second, .val (.long nb), .second, .val (.long nc), .second, .unset, .unset, .unset, .unset, .unset, .unset, .unset, .unset, .unset] [(.ref t)])) (fun _ kt => st5.trans kt) ?_
  refine RunsTo.of (T' := T5) (g' := (mkF m 44 #[.val (.long x0), .second, .val (.long x2), .second, .val (.long x4), .second, .val (.int x6), .val (.long na), .second, .val (.long nb), .second, .val (.long nc), .second, .val (.ref t), .unset, .unset, .unset, .unset, .unset, .unset, .unset, .unset] [(.long na), (.ref t)])) (fun tgt_ kt => ?_) ?_
  · refine XS.astore X5.here hx rfl (hb hby at_38) rfl rfl (l' := #[.val (.long x0), .second, .val (.long x2), .second, .val (.long x4), .second, .val (.int x6), .val (.long na), .second, .val (.long nb), .second, .val (.long nc), .second, .val (.ref t), .unset, .unset, .unset, .unset, .unset, .unset, .unset, .unset]) rfl ?_
    show Steps p.tables e below (T5.setTop (mkF m 40 #[.val (.long x0), .second, .val (.long x2), .second, .val (.long x4), .second, .val (.int x6), .val (.long na), .second, .val (.long nb), .second, .val (.long nc), .second, .val (.ref t), .unset, .unset, .unset, .unset, .unset, .unset, .unset, .unset] [])) _
    refine XS.aload X5.here hx rfl (hb hby at_40) rfl rfl ?_
    show Steps p.tables e below (T5.setTop (mkF m 42 #[.val (.long x0), .second, .val (.long x2), .second, .val (.long x4), .second, .val (.int x6), .val (.long na), .second, .val (.long nb), .second, .val (.long nc), .second, .val (.ref t), .unset, .unset, .unset, .unset, .unset, .unset, .unset, .unset] [(.ref t)])) _
    refine XS.lload X5.here hx rfl (hb hby at_42) rfl ?_
    show Steps p.tables e below (T5.setTop (mkF m 44 #[.val (.long x0), .second, .val (.long x2), .second, .val (.long x4), .second, .val (.int x6), .val (.long na), .second, .val (.long nb), .second, .val (.long nc), .second, .val (.ref t), .unset, .unset, .unset, .unset, .unset, .unset, .unset, .unset] [(.long na), (.ref t)])) _
    exact kt
  obtain ⟨cq6, kq6, q6a, q6b, q6c⟩ := isOf hZ rfl E_t
  obtain ⟨_, _, ⟨T6, L6, k6, n6⟩, -, X6, ⟨Lc6, hQ6, l6, y6, z6⟩, st6⟩ := X5.virtualBack hx (y := (⟨"com/example/iron_latch/ironlatch/cli/PairTimes", "record", "(J)V"⟩ : MethodName)) (z := (⟨"com/example/iron_latch/ironlatch/cli/PairTimes", "record", "(J)V"⟩ : MethodName)) hown (mvT hZ (hw _ (List.mem_of_getElem? (i := 23) rfl))) (mvT hZ (hw _ (List.mem_of_getElem? (i := 24) rfl))) (notFace_of_selects (args := #[]) (mvT hZ (hw _ (List.mem_of_getElem? (i := 26) rfl)))) (mvT hZ (hw _ (List.mem_of_getElem? (i := 26) rfl))) (mvT hZ (hw _ (List.mem_of_getElem? (i := 25) rfl))) (by decide) (backOf (W := 0) (rm_record l Z a0 hw [] t na a 0 (fun _ => (0 : Int64)) T5.heap n0 Z5 E_t g_t g_a F_counts_t F_recorded_t V_a ne_t_a ⟨hna1, hna2⟩) hZ (hw _ (List.mem_of_getElem? (i := 27) rfl)) (hw _ (List.mem_of_getElem? (i := 12) rfl)) (by decide) (by decide)) q6a q6c (g := (mkF m 44 #[.val (.long x0), .second, .val (.long x2), .second, .val (.long x4), .second, .val (.int x6), .val (.long na), .second, .val (.long nb), .second, .val (.long nc), .second, .val (.ref t), .unset, .unset, .unset, .unset, .unset, .unset, .unset, .unset] [(.long na), (.ref t)])) rfl (by rw [hml]; rfl) (Steps.refl _) (argsL := [(.long na)]) (rest := []) (lenOf pd_6 rfl) rfl (by show 2 * 0 + _ ≤ _; exact Nat.le_of_eq rfl) (hb hby at_44) (fun _ _ => ⟨rfl, rfl, (by decide : 2 + 0 ≤ _), (by decide : 56322 + 0 ≤ _)⟩)
  dsimp only [Pt.U, Pt.locs, Pt.cells, Pt.slots] at X6 l6 y6 z6 st6 hQ6
  subst l6 y6 z6
  obtain ⟨rfl, N6q, K6, F_counts_t, F_recorded_t, V_a⟩ := hQ6
  have N6 := Fr.app N5 N6q
  have Z6 : n0 ≤ T6.heap.size := Nat.le_trans Z5 K6.1
  have E_t := E_t.keep K6
  refine RunsTo.of (T' := T6) (g' := (mkF m 47 #[.val (.long x0), .second, .val (.long x2), .second, .val (.long x4), .second, .val (.int x6), .val (.long na), .second, .val (.long nb), .second, .val (.long nc), .second, .val (.ref t), .unset, .unset, .unset, .unset, .unset, .unset, .unset, .unset] [])) (fun _ kt => st6.trans kt) ?_
  have V_a : Arf Z T6.heap a .long (56320 : Int32) (fun i => .long ((fun k => own_ind (ia = k)) i)) := V_a.congr (fun i hi => by
    rw [← hia]; show Value.long (if i = ia then ((0 : Int64)) + 1 else ((0 : Int64))) = .long (own_ind (ia = i))
    by_cases q : i = ia
    · rw [if_pos q, show own_ind (ia = i) = 1 from if_pos q.symm]; rfl
    · rw [if_neg q, show own_ind (ia = i) = 0 from if_neg (fun z => q z.symm)])
  have F_recorded_t : Fld Z T6.heap t "com/example/iron_latch/ironlatch/cli/PairTimes" "recorded" "J" (.long (1 : Int64)) := F_recorded_t
  refine RunsTo.of (T' := T6) (g' := (mkF m 51 #[.val (.long x0), .second, .val (.long x2), .second, .val (.long x4), .second, .val (.int x6), .val (.long na), .second, .val (.long nb), .second, .val (.long nc), .second, .val (.ref t), .unset, .unset, .unset, .unset, .unset, .unset, .unset, .unset] [(.long nb), (.ref t)])) (fun tgt_ kt => ?_) ?_
  · refine XS.aload X6.here hx rfl (hb hby at_47) rfl rfl ?_
    show Steps p.tables e below (T6.setTop (mkF m 49 #[.val (.long x0), .second, .val (.long x2), .second, .val (.long x4), .second, .val (.int x6), .val (.long na), .second, .val (.long nb), .second, .val (.long nc), .second, .val (.ref t), .unset, .unset, .unset, .unset, .unset, .unset, .unset, .unset] [(.ref t)])) _
    refine XS.lload X6.here hx rfl (hb hby at_49) rfl ?_
    show Steps p.tables e below (T6.setTop (mkF m 51 #[.val (.long x0), .second, .val (.long x2), .second, .val (.long x4), .second, .val (.int x6), .val (.long na), .second, .val (.long nb), .second, .val (.long nc), .second, .val (.ref t), .unset, .unset, .unset, .unset, .unset, .unset, .unset, .unset] [(.long nb), (.ref t)])) _
    exact kt
  obtain ⟨cq7, kq7, q7a, q7b, q7c⟩ := isOf hZ rfl E_t
  obtain ⟨_, _, ⟨T7, L7, k7, n7⟩, -, X7, ⟨Lc7, hQ7, l7, y7, z7⟩, st7⟩ := X6.virtualBack hx (y := (⟨"com/example/iron_latch/ironlatch/cli/PairTimes", "record", "(J)V"⟩ : MethodName)) (z := (⟨"com/example/iron_latch/ironlatch/cli/PairTimes", "record", "(J)V"⟩ : MethodName)) hown (mvT hZ (hw _ (List.mem_of_getElem? (i := 23) rfl))) (mvT hZ (hw _ (List.mem_of_getElem? (i := 24) rfl))) (notFace_of_selects (args := #[]) (mvT hZ (hw _ (List.mem_of_getElem? (i := 26) rfl)))) (mvT hZ (hw _ (List.mem_of_getElem? (i := 26) rfl))) (mvT hZ (hw _ (List.mem_of_getElem? (i := 25) rfl))) (by decide) (backOf (W := 0) (rm_record l Z a0 hw [] t nb a 1 (fun k => own_ind (ia = k)) T6.heap n0 Z6 E_t g_t g_a F_counts_t F_recorded_t V_a ne_t_a ⟨hnb1, hnb2⟩) hZ (hw _ (List.mem_of_getElem? (i := 27) rfl)) (hw _ (List.mem_of_getElem? (i := 12) rfl)) (by decide) (by decide)) q7a q7c (g := (mkF m 51 #[.val (.long x0), .second, .val (.long x2), .second, .val (.long x4), .second, .val (.int x6), .val (.long na), .second, .val (.long nb), .second, .val (.long nc), .second, .val (.ref t), .unset, .unset, .unset, .unset, .unset, .unset, .unset, .unset] [(.long nb), (.ref t)])) rfl (by rw [hml]; rfl) (Steps.refl _) (argsL := [(.long nb)]) (rest := []) (lenOf pd_6 rfl) rfl (by show 2 * 0 + _ ≤ _; exact Nat.le_of_eq rfl) (hb hby at_51) (fun _ _ => ⟨rfl, rfl, (by decide : 2 + 0 ≤ _), (by decide : 56322 + 0 ≤ _)⟩)
  dsimp only [Pt.U, Pt.locs, Pt.cells, Pt.slots] at X7 l7 y7 z7 st7 hQ7
  subst l7 y7 z7
  obtain ⟨rfl, N7q, K7, F_counts_t, F_recorded_t, V_a⟩ := hQ7
  have N7 := Fr.app N6 N7q
  have Z7 : n0 ≤ T7.heap.size := Nat.le_trans Z6 K7.1
  have E_t := E_t.keep K7
  refine RunsTo.of (T' := T7) (g' := (mkF m 54 #[.val (.long x0), .second, .val (.long x2), .second, .val (.long x4), .second, .val (.int x6), .val (.long na), .second, .val (.long nb), .second, .val (.long nc), .second, .val (.ref t), .unset, .unset, .unset, .unset, .unset, .unset, .unset, .unset] [])) (fun _ kt => st7.trans kt) ?_
  have V_a : Arf Z T7.heap a .long (56320 : Int32) (fun i => .long ((fun k => own_ind (ia = k) + own_ind (ib = k)) i)) := V_a.congr (fun i hi => by
    rw [← hib]; show Value.long (if i = ib then (own_ind (ia = i)) + 1 else (own_ind (ia = i))) = .long (own_ind (ia = i) + own_ind (ib = i))
    by_cases q : i = ib
    · rw [if_pos q, show own_ind (ib = i) = 1 from if_pos q.symm]
    · rw [if_neg q, show own_ind (ib = i) = 0 from if_neg (fun z => q z.symm)]; rw [Int64.add_zero])
  have F_recorded_t : Fld Z T7.heap t "com/example/iron_latch/ironlatch/cli/PairTimes" "recorded" "J" (.long (2 : Int64)) := F_recorded_t
  refine RunsTo.of (T' := T7) (g' := (mkF m 58 #[.val (.long x0), .second, .val (.long x2), .second, .val (.long x4), .second, .val (.int x6), .val (.long na), .second, .val (.long nb), .second, .val (.long nc), .second, .val (.ref t), .unset, .unset, .unset, .unset, .unset, .unset, .unset, .unset] [(.long nc), (.ref t)])) (fun tgt_ kt => ?_) ?_
  · refine XS.aload X7.here hx rfl (hb hby at_54) rfl rfl ?_
    show Steps p.tables e below (T7.setTop (mkF m 56 #[.val (.long x0), .second, .val (.long x2), .second, .val (.long x4), .second, .val (.int x6), .val (.long na), .second, .val (.long nb), .second, .val (.long nc), .second, .val (.ref t), .unset, .unset, .unset, .unset, .unset, .unset, .unset, .unset] [(.ref t)])) _
    refine XS.lload X7.here hx rfl (hb hby at_56) rfl ?_
    show Steps p.tables e below (T7.setTop (mkF m 58 #[.val (.long x0), .second, .val (.long x2), .second, .val (.long x4), .second, .val (.int x6), .val (.long na), .second, .val (.long nb), .second, .val (.long nc), .second, .val (.ref t), .unset, .unset, .unset, .unset, .unset, .unset, .unset, .unset] [(.long nc), (.ref t)])) _
    exact kt
  obtain ⟨cq8, kq8, q8a, q8b, q8c⟩ := isOf hZ rfl E_t
  obtain ⟨_, _, ⟨T8, L8, k8, n8⟩, -, X8, ⟨Lc8, hQ8, l8, y8, z8⟩, st8⟩ := X7.virtualBack hx (y := (⟨"com/example/iron_latch/ironlatch/cli/PairTimes", "record", "(J)V"⟩ : MethodName)) (z := (⟨"com/example/iron_latch/ironlatch/cli/PairTimes", "record", "(J)V"⟩ : MethodName)) hown (mvT hZ (hw _ (List.mem_of_getElem? (i := 23) rfl))) (mvT hZ (hw _ (List.mem_of_getElem? (i := 24) rfl))) (notFace_of_selects (args := #[]) (mvT hZ (hw _ (List.mem_of_getElem? (i := 26) rfl)))) (mvT hZ (hw _ (List.mem_of_getElem? (i := 26) rfl))) (mvT hZ (hw _ (List.mem_of_getElem? (i := 25) rfl))) (by decide) (backOf (W := 0) (rm_record l Z a0 hw [] t nc a 2 (fun k => own_ind (ia = k) + own_ind (ib = k)) T7.heap n0 Z7 E_t g_t g_a F_counts_t F_recorded_t V_a ne_t_a ⟨hnc1, hnc2⟩) hZ (hw _ (List.mem_of_getElem? (i := 27) rfl)) (hw _ (List.mem_of_getElem? (i := 12) rfl)) (by decide) (by decide)) q8a q8c (g := (mkF m 58 #[.val (.long x0), .second, .val (.long x2), .second, .val (.long x4), .second, .val (.int x6), .val (.long na), .second, .val (.long nb), .second, .val (.long nc), .second, .val (.ref t), .unset, .unset, .unset, .unset, .unset, .unset, .unset, .unset] [(.long nc), (.ref t)])) rfl (by rw [hml]; rfl) (Steps.refl _) (argsL := [(.long nc)]) (rest := []) (lenOf pd_6 rfl) rfl (by show 2 * 0 + _ ≤ _; exact Nat.le_of_eq rfl) (hb hby at_58) (fun _ _ => ⟨rfl, rfl, (by decide : 2 + 0 ≤ _), (by decide : 56322 + 0 ≤ _)⟩)
  dsimp only [Pt.U, Pt.locs, Pt.cells, Pt.slots] at X8 l8 y8 z8 st8 hQ8
  subst l8 y8 z8
  obtain ⟨rfl, N8q, K8, F_counts_t, F_recorded_t, V_a⟩ := hQ8
  have N8 := Fr.app N7 N8q
  have Z8 : n0 ≤ T8.heap.size := Nat.le_trans Z7 K8.1
  have E_t := E_t.keep K8
  refine RunsTo.of (T' := T8) (g' := (mkF m 61 #[.val (.long x0), .second, .val (.long x2), .second, .val (.long x4), .second, .val (.int x6), .val (.long na), .second, .val (.long nb), .second, .val (.long nc), .second, .val (.ref t), .unset, .unset, .unset, .unset, .unset, .unset, .unset, .unset] [])) (fun _ kt => st8.trans kt) ?_
  have V_a : Arf Z T8.heap a .long (56320 : Int32) (fun i => .long ((fun k => own_ind (ia = k) + own_ind (ib = k) + own_ind (ic = k)) i)) := V_a.congr (fun i hi => by
    rw [← hic]; show Value.long (if i = ic then (own_ind (ia = i) + own_ind (ib = i)) + 1 else (own_ind (ia = i) + own_ind (ib = i))) = .long (own_ind (ia = i) + own_ind (ib = i) + own_ind (ic = i))
    by_cases q : i = ic
    · rw [if_pos q, show own_ind (ic = i) = 1 from if_pos q.symm]
    · rw [if_neg q, show own_ind (ic = i) = 0 from if_neg (fun z => q z.symm)]; rw [Int64.add_zero])
  have F_recorded_t : Fld Z T8.heap t "com/example/iron_latch/ironlatch/cli/PairTimes" "recorded" "J" (.long (3 : Int64)) := F_recorded_t
  refine RunsTo.of (T' := T8) (g' := (mkF m 63 #[.val (.long x0), .second, .val (.long x2), .second, .val (.long x4), .second, .val (.int x6), .val (.long na), .second, .val (.long nb), .second, .val (.long nc), .second, .val (.ref t), .unset, .unset, .unset, .unset, .unset, .unset, .unset, .unset] [(.long na)])) (fun tgt_ kt => ?_) ?_
  · refine XS.lload X8.here hx rfl (hb hby at_61) rfl ?_
    show Steps p.tables e below (T8.setTop (mkF m 63 #[.val (.long x0), .second, .val (.long x2), .second, .val (.long x4), .second, .val (.int x6), .val (.long na), .second, .val (.long nb), .second, .val (.long nc), .second, .val (.ref t), .unset, .unset, .unset, .unset, .unset, .unset, .unset, .unset] [(.long na)])) _
    exact kt
  obtain ⟨_, _, ⟨T9, L9, k9, n9⟩, -, X9, ⟨Lc9, hQ9, l9, y9, z9⟩, st9⟩ := Jvm.LawKit.callS X8 hx (y := (⟨"com/example/iron_latch/ironlatch/cli/PairTimesAtPinLaw", "bucket", "(J)J"⟩ : MethodName)) hown (mvT hZ (hw _ (List.mem_of_getElem? (i := 45) rfl))) (mvT hZ (hw _ (List.mem_of_getElem? (i := 46) rfl))) (mvT hZ (hw _ (List.mem_of_getElem? (i := 2) rfl))) (mvT hZ (hw _ (List.mem_of_getElem? (i := 47) rfl))) (by decide) (backOf (W := 0) (rm_buc l Z a0 hw [] na T8.heap n0 Z8 ⟨hna1, hna2⟩) hZ (hw _ (List.mem_of_getElem? (i := 47) rfl)) (hw _ (List.mem_of_getElem? (i := 2) rfl)) (by decide) (by decide)) (g := (mkF m 63 #[.val (.long x0), .second, .val (.long x2), .second, .val (.long x4), .second, .val (.int x6), .val (.long na), .second, .val (.long nb), .second, .val (.long nc), .second, .val (.ref t), .unset, .unset, .unset, .unset, .unset, .unset, .unset, .unset] [(.long na)])) rfl (by rw [hml]; rfl) (argsL := [(.long na)]) (rest := []) (lenOf pd_7 rfl) rfl (by show 2 * 0 + _ ≤ _; exact Nat.le_of_eq rfl) (hb hby at_63) (fun _ _ => ⟨rfl, rfl, (by decide : 2 + 0 ≤ _), (by decide : 56322 + 0 ≤ _)⟩)
  dsimp only [Pt.U, Pt.locs, Pt.cells, Pt.slots] at X9 l9 y9 z9 st9 hQ9
  subst l9 y9 z9
  obtain ⟨va, rfl, N9q, e9, hva⟩ := hQ9
  have N9 := Fr.app N8 N9q
  refine RunsTo.of (T' := T9) (g' := (mkF m 66 #[.val (.long x0), .second, .val (.long x2), .second, .val (.long x4), .second, .val (.int x6), .val (.long na), .second, .val (.long nb), .second, .val (.long nc), .second, .val (.ref t), .unset, .unset, .unset, .unset, .unset, .unset, .unset, .unset] [(.long va)])) st9 ?_
  refine RunsTo.of (T' := T9) (g' := (mkF m 70 #[.val (.long x0), .second, .val (.long x2), .second, .val (.long x4), .second, .val (.int x6), .val (.long na), .second, .val (.long nb), .second, .val (.long nc), .second, .val (.ref t), .val (.long va), .second, .unset, .unset, .unset, .unset, .unset, .unset] [(.long nb)])) (fun tgt_ kt => ?_) ?_
  · refine XS.lstore X9.here hx rfl (hb hby at_66) rfl (l' := #[.val (.long x0), .second, .val (.long x2), .second, .val (.long x4), .second, .val (.int x6), .val (.long na), .second, .val (.long nb), .second, .val (.long nc), .second, .val (.ref t), .val (.long va), .second, .unset, .unset, .unset, .unset, .unset, .unset]) rfl ?_
    show Steps p.tables e below (T9.setTop (mkF m 68 #[.val (.long x0), .second, .val (.long x2), .second, .val (.long x4), .second, .val (.int x6), .val (.long na), .second, .val (.long nb), .second, .val (.long nc), .second, .val (.ref t), .val (.long va), .second, .unset, .unset, .unset, .unset, .unset, .unset] [])) _
    refine XS.lload X9.here hx rfl (hb hby at_68) rfl ?_
    show Steps p.tables e below (T9.setTop (mkF m 70 #[.val (.long x0), .second, .val (.long x2), .second, .val (.long x4), .second, .val (.int x6), .val (.long na), .second, .val (.long nb), .second, .val (.long nc), .second, .val (.ref t), .val (.long va), .second, .unset, .unset, .unset, .unset, .unset, .unset] [(.long nb)])) _
    exact kt
  obtain ⟨_, _, ⟨T10, L10, k10, n10⟩, -, X10, ⟨Lc10, hQ10, l10, y10, z10⟩, st10⟩ := Jvm.LawKit.callS X9 hx (y := (⟨"com/example/iron_latch/ironlatch/cli/PairTimesAtPinLaw", "bucket", "(J)J"⟩ : MethodName)) hown (mvT hZ (hw _ (List.mem_of_getElem? (i := 45) rfl))) (mvT hZ (hw _ (List.mem_of_getElem? (i := 46) rfl))) (mvT hZ (hw _ (List.mem_of_getElem? (i := 2) rfl))) (mvT hZ (hw _ (List.mem_of_getElem? (i := 47) rfl))) (by decide) (backOf (W := 0) (rm_buc l Z a0 hw [] nb T8.heap n0 Z8 ⟨hnb1, hnb2⟩) hZ (hw _ (List.mem_of_getElem? (i := 47) rfl)) (hw _ (List.mem_of_getElem? (i := 2) rfl)) (by decide) (by decide)) (g := (mkF m 70 #[.val (.long x0), .second, .val (.long x2), .second, .val (.long x4), .second, .val (.int x6), .val (.long na), .second, .val (.long nb), .second, .val (.long nc), .second, .val (.ref t), .val (.long va), .second, .unset, .unset, .unset, .unset, .unset, .unset] [(.long nb)])) rfl (by rw [hml]; rfl) (argsL := [(.long nb)]) (rest := []) (lenOf pd_7 rfl) rfl (by show 2 * 0 + _ ≤ _; exact Nat.le_of_eq rfl) (hb hby at_70) (fun _ _ => ⟨rfl, e9, (by decide : 2 + 0 ≤ _), (by decide : 56322 + 0 ≤ _)⟩)
  dsimp only [Pt.U, Pt.locs, Pt.cells, Pt.slots] at X10 l10 y10 z10 st10 hQ10
  subst l10 y10 z10
  obtain ⟨vb, rfl, N10q, e10, hvb⟩ := hQ10
  have N10 := Fr.app N9 N10q
  refine RunsTo.of (T' := T10) (g' := (mkF m 73 #[.val (.long x0), .second, .val (.long x2), .second, .val (.long x4), .second, .val (.int x6), .val (.long na), .second, .val (.long nb), .second, .val (.long nc), .second, .val (.ref t), .val (.long va), .second, .unset, .unset, .unset, .unset, .unset, .unset] [(.long vb)])) st10 ?_
  refine RunsTo.of (T' := T10) (g' := (mkF m 77 #[.val (.long x0), .second, .val (.long x2), .second, .val (.long x4), .second, .val (.int x6), .val (.long na), .second, .val (.long nb), .second, .val (.long nc), .second, .val (.ref t), .val (.long va), .second, .val (.long vb), .second, .unset, .unset, .unset, .unset] [(.long nc)])) (fun tgt_ kt => ?_) ?_
  · refine XS.lstore X10.here hx rfl (hb hby at_73) rfl (l' := #[.val (.long x0), .second, .val (.long x2), .second, .val (.long x4), .second, .val (.int x6), .val (.long na), .second, .val (.long nb), .second, .val (.long nc), .second, .val (.ref t), .val (.long va), .second, .val (.long vb), .second, .unset, .unset, .unset, .unset]) rfl ?_
    show Steps p.tables e below (T10.setTop (mkF m 75 #[.val (.long x0), .second, .val (.long x2), .second, .val (.long x4), .second, .val (.int x6), .val (.long na), .second, .val (.long nb), .second, .val (.long nc), .second, .val (.ref t), .val (.long va), .second, .val (.long vb), .second, .unset, .unset, .unset, .unset] [])) _
    refine XS.lload X10.here hx rfl (hb hby at_75) rfl ?_
    show Steps p.tables e below (T10.setTop (mkF m 77 #[.val (.long x0), .second, .val (.long x2), .second, .val (.long x4), .second, .val (.int x6), .val (.long na), .second, .val (.long nb), .second, .val (.long nc), .second, .val (.ref t), .val (.long va), .second, .val (.long vb), .second, .unset, .unset, .unset, .unset] [(.long nc)])) _
    exact kt
  obtain ⟨_, _, ⟨T11, L11, k11, n11⟩, -, X11, ⟨Lc11, hQ11, l11, y11, z11⟩, st11⟩ := Jvm.LawKit.callS X10 hx (y := (⟨"com/example/iron_latch/ironlatch/cli/PairTimesAtPinLaw", "bucket", "(J)J"⟩ : MethodName)) hown (mvT hZ (hw _ (List.mem_of_getElem? (i := 45) rfl))) (mvT hZ (hw _ (List.mem_of_getElem? (i := 46) rfl))) (mvT hZ (hw _ (List.mem_of_getElem? (i := 2) rfl))) (mvT hZ (hw _ (List.mem_of_getElem? (i := 47) rfl))) (by decide) (backOf (W := 0) (rm_buc l Z a0 hw [] nc T8.heap n0 Z8 ⟨hnc1, hnc2⟩) hZ (hw _ (List.mem_of_getElem? (i := 47) rfl)) (hw _ (List.mem_of_getElem? (i := 2) rfl)) (by decide) (by decide)) (g := (mkF m 77 #[.val (.long x0), .second, .val (.long x2), .second, .val (.long x4), .second, .val (.int x6), .val (.long na), .second, .val (.long nb), .second, .val (.long nc), .second, .val (.ref t), .val (.long va), .second, .val (.long vb), .second, .unset, .unset, .unset, .unset] [(.long nc)])) rfl (by rw [hml]; rfl) (argsL := [(.long nc)]) (rest := []) (lenOf pd_7 rfl) rfl (by show 2 * 0 + _ ≤ _; exact Nat.le_of_eq rfl) (hb hby at_77) (fun _ _ => ⟨rfl, e10, (by decide : 2 + 0 ≤ _), (by decide : 56322 + 0 ≤ _)⟩)
  dsimp only [Pt.U, Pt.locs, Pt.cells, Pt.slots] at X11 l11 y11 z11 st11 hQ11
  subst l11 y11 z11
  obtain ⟨vc, rfl, N11q, e11, hvc⟩ := hQ11
  have N11 := Fr.app N10 N11q
  refine RunsTo.of (T' := T11) (g' := (mkF m 80 #[.val (.long x0), .second, .val (.long x2), .second, .val (.long x4), .second, .val (.int x6), .val (.long na), .second, .val (.long nb), .second, .val (.long nc), .second, .val (.ref t), .val (.long va), .second, .val (.long vb), .second, .unset, .unset, .unset, .unset] [(.long vc)])) st11 ?_
  refine RunsTo.of (T' := T11) (g' := (mkF m 87 #[.val (.long x0), .second, .val (.long x2), .second, .val (.long x4), .second, .val (.int x6), .val (.long na), .second, .val (.long nb), .second, .val (.long nc), .second, .val (.ref t), .val (.long va), .second, .val (.long vb), .second, .val (.long vc), .second, .unset, .unset] [(.int (lcmpW va vb))])) (fun tgt_ kt => ?_) ?_
  · refine XS.lstore X11.here hx rfl (hb hby at_80) rfl (l' := #[.val (.long x0), .second, .val (.long x2), .second, .val (.long x4), .second, .val (.int x6), .val (.long na), .second, .val (.long nb), .second, .val (.long nc), .second, .val (.ref t), .val (.long va), .second, .val (.long vb), .second, .val (.long vc), .second, .unset, .unset]) rfl ?_
    show Steps p.tables e below (T11.setTop (mkF m 82 #[.val (.long x0), .second, .val (.long x2), .second, .val (.long x4), .second, .val (.int x6), .val (.long na), .second, .val (.long nb), .second, .val (.long nc), .second, .val (.ref t), .val (.long va), .second, .val (.long vb), .second, .val (.long vc), .second, .unset, .unset] [])) _
    refine XS.lload X11.here hx rfl (hb hby at_82) rfl ?_
    show Steps p.tables e below (T11.setTop (mkF m 84 #[.val (.long x0), .second, .val (.long x2), .second, .val (.long x4), .second, .val (.int x6), .val (.long na), .second, .val (.long nb), .second, .val (.long nc), .second, .val (.ref t), .val (.long va), .second, .val (.long vb), .second, .val (.long vc), .second, .unset, .unset] [(.long va)])) _
    refine XS.lload X11.here hx rfl (hb hby at_84) rfl ?_
    show Steps p.tables e below (T11.setTop (mkF m 86 #[.val (.long x0), .second, .val (.long x2), .second, .val (.long x4), .second, .val (.int x6), .val (.long na), .second, .val (.long nb), .second, .val (.long nc), .second, .val (.ref t), .val (.long va), .second, .val (.long vb), .second, .val (.long vc), .second, .unset, .unset] [(.long vb), (.long va)])) _
    refine XS.lcmp X11.here hx rfl (hb hby at_86) rfl ?_
    show Steps p.tables e below (T11.setTop (mkF m 87 #[.val (.long x0), .second, .val (.long x2), .second, .val (.long x4), .second, .val (.int x6), .val (.long na), .second, .val (.long nb), .second, .val (.long nc), .second, .val (.ref t), .val (.long va), .second, .val (.long vb), .second, .val (.long vc), .second, .unset, .unset] [(.int (lcmpW va vb))])) _
    exact kt
  rw [← own_mic_idx, ← hia] at hva
  rw [← own_mic_idx, ← hib] at hvb
  rw [← own_mic_idx, ← hic] at hvc
  have hsum := fun k : Nat => own_ind3 ia ib ic k
  obtain ⟨t0, t1, t2, ht01, ht12, hperm⟩ : ∃ t0 t1 t2 : Nat, t0 ≤ t1 ∧ t1 ≤ t2 ∧ ((t0 = ia ∧ t1 = ib ∧ t2 = ic) ∨ (t0 = ia ∧ t1 = ic ∧ t2 = ib) ∨ (t0 = ib ∧ t1 = ia ∧ t2 = ic) ∨ (t0 = ib ∧ t1 = ic ∧ t2 = ia) ∨ (t0 = ic ∧ t1 = ia ∧ t2 = ib) ∨ (t0 = ic ∧ t1 = ib ∧ t2 = ia)) := by
    rcases Nat.le_total ia ib with p1 | p1 <;> rcases Nat.le_total ib ic with p2 | p2 <;> rcases Nat.le_total ia ic with p3 | p3
    · exact ⟨ia, ib, ic, p1, p2, Or.inl ⟨rfl, rfl, rfl⟩⟩
    · exact ⟨ia, ib, ic, p1, p2, Or.inl ⟨rfl, rfl, rfl⟩⟩
    · exact ⟨ia, ic, ib, p3, p2, by simp⟩
    · exact ⟨ic, ia, ib, p3, p1, by simp⟩
    · exact ⟨ib, ia, ic, p1, p3, by simp⟩
    · exact ⟨ib, ic, ia, p2, p3, by simp⟩
    · exact ⟨ic, ib, ia, p2, p1, by simp⟩
    · exact ⟨ic, ib, ia, p2, p1, by simp⟩
  have htl : t2 < 46080 := by omega
  obtain ⟨pp, hpp⟩ : ∃ z : Int64, z = (if vb < va then (if vc < va then (if vc < vb then vc else vb) else (if va < vb then va else vb)) else (if vc < vb then (if vc < va then vc else va) else (if vb < va then vb else va))) := ⟨_, rfl⟩
  obtain ⟨qq, hqq⟩ : ∃ z : Int64, z = (if vb < va then (if vc < va then (if vc < vb then vb else vc) else (if va < vb then vb else va)) else (if vc < vb then (if vc < va then va else vc) else (if vb < va then va else vb))) := ⟨_, rfl⟩
  obtain ⟨ss, hss⟩ : ∃ z : Int64, z = (if vb < va then (if vc < va then va else vc) else (if vc < vb then vb else vc)) := ⟨_, rfl⟩
  obtain ⟨du, hdu⟩ : ∃ z : Slot, z = (if vb < va then (if vc < va then (if vc < vb then (.val (.long vb)) else (.val (.long va))) else (if va < vb then (.val (.long vb)) else (.val (.long va)))) else (if vc < vb then (if vc < va then (.val (.long va)) else (.val (.long vb))) else (if vb < va then (.val (.long va)) else .unset))) := ⟨_, rfl⟩
  obtain ⟨dw, hdw⟩ : ∃ z : Slot, z = (if vb < va then .second else (if vc < vb then .second else (if vb < va then .second else .unset))) := ⟨_, rfl⟩
  refine RunsTo.of (T' := T11) (g' := (mkF m 142 #[.val (.long x0), .second, .val (.long x2), .second, .val (.long x4), .second, .val (.int x6), .val (.long na), .second, .val (.long nb), .second, .val (.long nc), .second, .val (.ref t), .val (.long pp), .second, .val (.long qq), .second, .val (.long ss), .second, du, dw] [])) (fun tgt_ kt => ?_) ?_
  · by_cases hc87 : vb < va
    · refine XS.ifNo X11.here hx rfl (hb hby at_87) rfl ((if0 _ _).trans (tlt ((lw_gt va vb).mpr hc87)).2.2.2) ?_
      show Steps p.tables e below (T11.setTop (mkF m 90 #[.val (.long x0), .second, .val (.long x2), .second, .val (.long x4), .second, .val (.int x6), .val (.long na), .second, .val (.long nb), .second, .val (.long nc), .second, .val (.ref t), .val (.long va), .second, .val (.long vb), .second, .val (.long vc), .second, .unset, .unset] [])) _
      refine XS.lload X11.here hx rfl (hb hby at_90) rfl ?_
      show Steps p.tables e below (T11.setTop (mkF m 92 #[.val (.long x0), .second, .val (.long x2), .second, .val (.long x4), .second, .val (.int x6), .val (.long na), .second, .val (.long nb), .second, .val (.long nc), .second, .val (.ref t), .val (.long va), .second, .val (.long vb), .second, .val (.long vc), .second, .unset, .unset] [(.long va)])) _
      refine XS.lstore X11.here hx rfl (hb hby at_92) rfl (l' := #[.val (.long x0), .second, .val (.long x2), .second, .val (.long x4), .second, .val (.int x6), .val (.long na), .second, .val (.long nb), .second, .val (.long nc), .second, .val (.ref t), .val (.long va), .second, .val (.long vb), .second, .val (.long vc), .second, .val (.long va), .second]) rfl ?_
      show Steps p.tables e below (T11.setTop (mkF m 94 #[.val (.long x0), .second, .val (.long x2), .second, .val (.long x4), .second, .val (.int x6), .val (.long na), .second, .val (.long nb), .second, .val (.long nc), .second, .val (.ref t), .val (.long va), .second, .val (.long vb), .second, .val (.long vc), .second, .val (.long va), .second] [])) _
      refine XS.lload X11.here hx rfl (hb hby at_94) rfl ?_
      show Steps p.tables e below (T11.setTop (mkF m 96 #[.val (.long x0), .second, .val (.long x2), .second, .val (.long x4), .second, .val (.int x6), .val (.long na), .second, .val (.long nb), .second, .val (.long nc), .second, .val (.ref t), .val (.long va), .second, .val (.long vb), .second, .val (.long vc), .second, .val (.long va), .second] [(.long vb)])) _
      refine XS.lstore X11.here hx rfl (hb hby at_96) rfl (l' := #[.val (.long x0), .second, .val (.long x2), .second, .val (.long x4), .second, .val (.int x6), .val (.long na), .second, .val (.long nb), .second, .val (.long nc), .second, .val (.ref t), .val (.long vb), .second, .val (.long vb), .second, .val (.long vc), .second, .val (.long va), .second]) rfl ?_
      show Steps p.tables e below (T11.setTop (mkF m 98 #[.val (.long x0), .second, .val (.long x2), .second, .val (.long x4), .second, .val (.int x6), .val (.long na), .second, .val (.long nb), .second, .val (.long nc), .second, .val (.ref t), .val (.long vb), .second, .val (.long vb), .second, .val (.long vc), .second, .val (.long va), .second] [])) _
      refine XS.lload X11.here hx rfl (hb hby at_98) rfl ?_
      show Steps p.tables e below (T11.setTop (mkF m 100 #[.val (.long x0), .second, .val (.long x2), .second, .val (.long x4), .second, .val (.int x6), .val (.long na), .second, .val (.long nb), .second, .val (.long nc), .second, .val (.ref t), .val (.long vb), .second, .val (.long vb), .second, .val (.long vc), .second, .val (.long va), .second] [(.long va)])) _
      refine XS.lstore X11.here hx rfl (hb hby at_100) rfl (l' := #[.val (.long x0), .second, .val (.long x2), .second, .val (.long x4), .second, .val (.int x6), .val (.long na), .second, .val (.long nb), .second, .val (.long nc), .second, .val (.ref t), .val (.long vb), .second, .val (.long va), .second, .val (.long vc), .second, .val (.long va), .second]) rfl ?_
      show Steps p.tables e below (T11.setTop (mkF m 102 #[.val (.long x0), .second, .val (.long x2), .second, .val (.long x4), .second, .val (.int x6), .val (.long na), .second, .val (.long nb), .second, .val (.long nc), .second, .val (.ref t), .val (.long vb), .second, .val (.long va), .second, .val (.long vc), .second, .val (.long va), .second] [])) _
      refine XS.lload X11.here hx rfl (hb hby at_102) rfl ?_
      show Steps p.tables e below (T11.setTop (mkF m 104 #[.val (.long x0), .second, .val (.long x2), .second, .val (.long x4), .second, .val (.int x6), .val (.long na), .second, .val (.long nb), .second, .val (.long nc), .second, .val (.ref t), .val (.long vb), .second, .val (.long va), .second, .val (.long vc), .second, .val (.long va), .second] [(.long va)])) _
      refine XS.lload X11.here hx rfl (hb hby at_104) rfl ?_
      show Steps p.tables e below (T11.setTop (mkF m 106 #[.val (.long x0), .second, .val (.long x2), .second, .val (.long x4), .second, .val (.int x6), .val (.long na), .second, .val (.long nb), .second, .val (.long nc), .second, .val (.ref t), .val (.long vb), .second, .val (.long va), .second, .val (.long vc), .second, .val (.long va), .second] [(.long vc), (.long va)])) _
      refine XS.lcmp X11.here hx rfl (hb hby at_106) rfl ?_
      show Steps p.tables e below (T11.setTop (mkF m 107 #[.val (.long x0), .second, .val (.long x2), .second, .val (.long x4), .second, .val (.int x6), .val (.long na), .second, .val (.long nb), .second, .val (.long nc), .second, .val (.ref t), .val (.long vb), .second, .val (.long va), .second, .val (.long vc), .second, .val (.long va), .second] [(.int (lcmpW va vc))])) _
      by_cases hc107y : vc < va
      · refine XS.ifNo X11.here hx rfl (hb hby at_107) rfl ((if0 _ _).trans (tlt ((lw_gt va vc).mpr hc107y)).2.2.2) ?_
        show Steps p.tables e below (T11.setTop (mkF m 110 #[.val (.long x0), .second, .val (.long x2), .second, .val (.long x4), .second, .val (.int x6), .val (.long na), .second, .val (.long nb), .second, .val (.long nc), .second, .val (.ref t), .val (.long vb), .second, .val (.long va), .second, .val (.long vc), .second, .val (.long va), .second] [])) _
        refine XS.lload X11.here hx rfl (hb hby at_110) rfl ?_
        show Steps p.tables e below (T11.setTop (mkF m 112 #[.val (.long x0), .second, .val (.long x2), .second, .val (.long x4), .second, .val (.int x6), .val (.long na), .second, .val (.long nb), .second, .val (.long nc), .second, .val (.ref t), .val (.long vb), .second, .val (.long va), .second, .val (.long vc), .second, .val (.long va), .second] [(.long va)])) _
        refine XS.lstore X11.here hx rfl (hb hby at_112) rfl (l' := #[.val (.long x0), .second, .val (.long x2), .second, .val (.long x4), .second, .val (.int x6), .val (.long na), .second, .val (.long nb), .second, .val (.long nc), .second, .val (.ref t), .val (.long vb), .second, .val (.long va), .second, .val (.long vc), .second, .val (.long va), .second]) rfl ?_
        show Steps p.tables e below (T11.setTop (mkF m 114 #[.val (.long x0), .second, .val (.long x2), .second, .val (.long x4), .second, .val (.int x6), .val (.long na), .second, .val (.long nb), .second, .val (.long nc), .second, .val (.ref t), .val (.long vb), .second, .val (.long va), .second, .val (.long vc), .second, .val (.long va), .second] [])) _
        refine XS.lload X11.here hx rfl (hb hby at_114) rfl ?_
        show Steps p.tables e below (T11.setTop (mkF m 116 #[.val (.long x0), .second, .val (.long x2), .second, .val (.long x4), .second, .val (.int x6), .val (.long na), .second, .val (.long nb), .second, .val (.long nc), .second, .val (.ref t), .val (.long vb), .second, .val (.long va), .second, .val (.long vc), .second, .val (.long va), .second] [(.long vc)])) _
        refine XS.lstore X11.here hx rfl (hb hby at_116) rfl (l' := #[.val (.long x0), .second, .val (.long x2), .second, .val (.long x4), .second, .val (.int x6), .val (.long na), .second, .val (.long nb), .second, .val (.long nc), .second, .val (.ref t), .val (.long vb), .second, .val (.long vc), .second, .val (.long vc), .second, .val (.long va), .second]) rfl ?_
        show Steps p.tables e below (T11.setTop (mkF m 118 #[.val (.long x0), .second, .val (.long x2), .second, .val (.long x4), .second, .val (.int x6), .val (.long na), .second, .val (.long nb), .second, .val (.long nc), .second, .val (.ref t), .val (.long vb), .second, .val (.long vc), .second, .val (.long vc), .second, .val (.long va), .second] [])) _
        refine XS.lload X11.here hx rfl (hb hby at_118) rfl ?_
        show Steps p.tables e below (T11.setTop (mkF m 120 #[.val (.long x0), .second, .val (.long x2), .second, .val (.long x4), .second, .val (.int x6), .val (.long na), .second, .val (.long nb), .second, .val (.long nc), .second, .val (.ref t), .val (.long vb), .second, .val (.long vc), .second, .val (.long vc), .second, .val (.long va), .second] [(.long va)])) _
        refine XS.lstore X11.here hx rfl (hb hby at_120) rfl (l' := #[.val (.long x0), .second, .val (.long x2), .second, .val (.long x4), .second, .val (.int x6), .val (.long na), .second, .val (.long nb), .second, .val (.long nc), .second, .val (.ref t), .val (.long vb), .second, .val (.long vc), .second, .val (.long va), .second, .val (.long va), .second]) rfl ?_
        show Steps p.tables e below (T11.setTop (mkF m 122 #[.val (.long x0), .second, .val (.long x2), .second, .val (.long x4), .second, .val (.int x6), .val (.long na), .second, .val (.long nb), .second, .val (.long nc), .second, .val (.ref t), .val (.long vb), .second, .val (.long vc), .second, .val (.long va), .second, .val (.long va), .second] [])) _
        refine XS.lload X11.here hx rfl (hb hby at_122) rfl ?_
        show Steps p.tables e below (T11.setTop (mkF m 124 #[.val (.long x0), .second, .val (.long x2), .second, .val (.long x4), .second, .val (.int x6), .val (.long na), .second, .val (.long nb), .second, .val (.long nc), .second, .val (.ref t), .val (.long vb), .second, .val (.long vc), .second, .val (.long va), .second, .val (.long va), .second] [(.long vb)])) _
        refine XS.lload X11.here hx rfl (hb hby at_124) rfl ?_
        show Steps p.tables e below (T11.setTop (mkF m 126 #[.val (.long x0), .second, .val (.long x2), .second, .val (.long x4), .second, .val (.int x6), .val (.long na), .second, .val (.long nb), .second, .val (.long nc), .second, .val (.ref t), .val (.long vb), .second, .val (.long vc), .second, .val (.long va), .second, .val (.long va), .second] [(.long vc), (.long vb)])) _
        refine XS.lcmp X11.here hx rfl (hb hby at_126) rfl ?_
        show Steps p.tables e below (T11.setTop (mkF m 127 #[.val (.long x0), .second, .val (.long x2), .second, .val (.long x4), .second, .val (.int x6), .val (.long na), .second, .val (.long nb), .second, .val (.long nc), .second, .val (.ref t), .val (.long vb), .second, .val (.long vc), .second, .val (.long va), .second, .val (.long va), .second] [(.int (lcmpW vb vc))])) _
        by_cases hc127yy : vc < vb
        · refine XS.ifNo X11.here hx rfl (hb hby at_127) rfl ((if0 _ _).trans (tlt ((lw_gt vb vc).mpr hc127yy)).2.2.2) ?_
          show Steps p.tables e below (T11.setTop (mkF m 130 #[.val (.long x0), .second, .val (.long x2), .second, .val (.long x4), .second, .val (.int x6), .val (.long na), .second, .val (.long nb), .second, .val (.long nc), .second, .val (.ref t), .val (.long vb), .second, .val (.long vc), .second, .val (.long va), .second, .val (.long va), .second] [])) _
          try rw [if_pos hc87] at hpp
          try rw [if_pos hc107y] at hpp
          try rw [if_pos hc127yy] at hpp
          rw [hpp] at kt
          try rw [if_pos hc87] at hqq
          try rw [if_pos hc107y] at hqq
          try rw [if_pos hc127yy] at hqq
          rw [hqq] at kt
          try rw [if_pos hc87] at hss
          try rw [if_pos hc107y] at hss
          try rw [if_pos hc127yy] at hss
          rw [hss] at kt
          try rw [if_pos hc87] at hdu
          try rw [if_pos hc107y] at hdu
          try rw [if_pos hc127yy] at hdu
          rw [hdu] at kt
          try rw [if_pos hc87] at hdw
          try rw [if_pos hc107y] at hdw
          try rw [if_pos hc127yy] at hdw
          rw [hdw] at kt
          refine XS.lload X11.here hx rfl (hb hby at_130) rfl ?_
          show Steps p.tables e below (T11.setTop (mkF m 132 #[.val (.long x0), .second, .val (.long x2), .second, .val (.long x4), .second, .val (.int x6), .val (.long na), .second, .val (.long nb), .second, .val (.long nc), .second, .val (.ref t), .val (.long vb), .second, .val (.long vc), .second, .val (.long va), .second, .val (.long va), .second] [(.long vb)])) _
          refine XS.lstore X11.here hx rfl (hb hby at_132) rfl (l' := #[.val (.long x0), .second, .val (.long x2), .second, .val (.long x4), .second, .val (.int x6), .val (.long na), .second, .val (.long nb), .second, .val (.long nc), .second, .val (.ref t), .val (.long vb), .second, .val (.long vc), .second, .val (.long va), .second, .val (.long vb), .second]) rfl ?_
          show Steps p.tables e below (T11.setTop (mkF m 134 #[.val (.long x0), .second, .val (.long x2), .second, .val (.long x4), .second, .val (.int x6), .val (.long na), .second, .val (.long nb), .second, .val (.long nc), .second, .val (.ref t), .val (.long vb), .second, .val (.long vc), .second, .val (.long va), .second, .val (.long vb), .second] [])) _
          refine XS.lload X11.here hx rfl (hb hby at_134) rfl ?_
          show Steps p.tables e below (T11.setTop (mkF m 136 #[.val (.long x0), .second, .val (.long x2), .second, .val (.long x4), .second, .val (.int x6), .val (.long na), .second, .val (.long nb), .second, .val (.long nc), .second, .val (.ref t), .val (.long vb), .second, .val (.long vc), .second, .val (.long va), .second, .val (.long vb), .second] [(.long vc)])) _
          refine XS.lstore X11.here hx rfl (hb hby at_136) rfl (l' := #[.val (.long x0), .second, .val (.long x2), .second, .val (.long x4), .second, .val (.int x6), .val (.long na), .second, .val (.long nb), .second, .val (.long nc), .second, .val (.ref t), .val (.long vc), .second, .val (.long vc), .second, .val (.long va), .second, .val (.long vb), .second]) rfl ?_
          show Steps p.tables e below (T11.setTop (mkF m 138 #[.val (.long x0), .second, .val (.long x2), .second, .val (.long x4), .second, .val (.int x6), .val (.long na), .second, .val (.long nb), .second, .val (.long nc), .second, .val (.ref t), .val (.long vc), .second, .val (.long vc), .second, .val (.long va), .second, .val (.long vb), .second] [])) _
          refine XS.lload X11.here hx rfl (hb hby at_138) rfl ?_
          show Steps p.tables e below (T11.setTop (mkF m 140 #[.val (.long x0), .second, .val (.long x2), .second, .val (.long x4), .second, .val (.int x6), .val (.long na), .second, .val (.long nb), .second, .val (.long nc), .second, .val (.ref t), .val (.long vc), .second, .val (.long vc), .second, .val (.long va), .second, .val (.long vb), .second] [(.long vb)])) _
          refine XS.lstore X11.here hx rfl (hb hby at_140) rfl (l' := #[.val (.long x0), .second, .val (.long x2), .second, .val (.long x4), .second, .val (.int x6), .val (.long na), .second, .val (.long nb), .second, .val (.long nc), .second, .val (.ref t), .val (.long vc), .second, .val (.long vb), .second, .val (.long va), .second, .val (.long vb), .second]) rfl ?_
          show Steps p.tables e below (T11.setTop (mkF m 142 #[.val (.long x0), .second, .val (.long x2), .second, .val (.long x4), .second, .val (.int x6), .val (.long na), .second, .val (.long nb), .second, .val (.long nc), .second, .val (.ref t), .val (.long vc), .second, .val (.long vb), .second, .val (.long va), .second, .val (.long vb), .second] [])) _
          exact kt
        · refine XS.ifYes X11.here hx rfl (pc0 := 127) (pc' := 142) rfl (hb hby at_127) rfl ((if0 _ _).trans (flt (fun q_ => hc127yy ((lw_gt vb vc).mp q_))).2.2.2) (by decide) (by decide) ?_
          show Steps p.tables e below (T11.setTop (mkF m 142 #[.val (.long x0), .second, .val (.long x2), .second, .val (.long x4), .second, .val (.int x6), .val (.long na), .second, .val (.long nb), .second, .val (.long nc), .second, .val (.ref t), .val (.long vb), .second, .val (.long vc), .second, .val (.long va), .second, .val (.long va), .second] [])) _
          try rw [if_pos hc87] at hpp
          try rw [if_pos hc107y] at hpp
          try rw [if_neg hc127yy] at hpp
          rw [hpp] at kt
          try rw [if_pos hc87] at hqq
          try rw [if_pos hc107y] at hqq
          try rw [if_neg hc127yy] at hqq
          rw [hqq] at kt
          try rw [if_pos hc87] at hss
          try rw [if_pos hc107y] at hss
          try rw [if_neg hc127yy] at hss
          rw [hss] at kt
          try rw [if_pos hc87] at hdu
          try rw [if_pos hc107y] at hdu
          try rw [if_neg hc127yy] at hdu
          rw [hdu] at kt
          try rw [if_pos hc87] at hdw
          try rw [if_pos hc107y] at hdw
          try rw [if_neg hc127yy] at hdw
          rw [hdw] at kt
          exact kt
      · refine XS.ifYes X11.here hx rfl (pc0 := 107) (pc' := 122) rfl (hb hby at_107) rfl ((if0 _ _).trans (flt (fun q_ => hc107y ((lw_gt va vc).mp q_))).2.2.2) (by decide) (by decide) ?_
        show Steps p.tables e below (T11.setTop (mkF m 122 #[.val (.long x0), .second, .val (.long x2), .second, .val (.long x4), .second, .val (.int x6), .val (.long na), .second, .val (.long nb), .second, .val (.long nc), .second, .val (.ref t), .val (.long vb), .second, .val (.long va), .second, .val (.long vc), .second, .val (.long va), .second] [])) _
        refine XS.lload X11.here hx rfl (hb hby at_122) rfl ?_
        show Steps p.tables e below (T11.setTop (mkF m 124 #[.val (.long x0), .second, .val (.long x2), .second, .val (.long x4), .second, .val (.int x6), .val (.long na), .second, .val (.long nb), .second, .val (.long nc), .second, .val (.ref t), .val (.long vb), .second, .val (.long va), .second, .val (.long vc), .second, .val (.long va), .second] [(.long vb)])) _
        refine XS.lload X11.here hx rfl (hb hby at_124) rfl ?_
        show Steps p.tables e below (T11.setTop (mkF m 126 #[.val (.long x0), .second, .val (.long x2), .second, .val (.long x4), .second, .val (.int x6), .val (.long na), .second, .val (.long nb), .second, .val (.long nc), .second, .val (.ref t), .val (.long vb), .second, .val (.long va), .second, .val (.long vc), .second, .val (.long va), .second] [(.long va), (.long vb)])) _
        refine XS.lcmp X11.here hx rfl (hb hby at_126) rfl ?_
        show Steps p.tables e below (T11.setTop (mkF m 127 #[.val (.long x0), .second, .val (.long x2), .second, .val (.long x4), .second, .val (.int x6), .val (.long na), .second, .val (.long nb), .second, .val (.long nc), .second, .val (.ref t), .val (.long vb), .second, .val (.long va), .second, .val (.long vc), .second, .val (.long va), .second] [(.int (lcmpW vb va))])) _
        by_cases hc127yn : va < vb
        · refine XS.ifNo X11.here hx rfl (hb hby at_127) rfl ((if0 _ _).trans (tlt ((lw_gt vb va).mpr hc127yn)).2.2.2) ?_
          show Steps p.tables e below (T11.setTop (mkF m 130 #[.val (.long x0), .second, .val (.long x2), .second, .val (.long x4), .second, .val (.int x6), .val (.long na), .second, .val (.long nb), .second, .val (.long nc), .second, .val (.ref t), .val (.long vb), .second, .val (.long va), .second, .val (.long vc), .second, .val (.long va), .second] [])) _
          try rw [if_pos hc87] at hpp
          try rw [if_neg hc107y] at hpp
          try rw [if_pos hc127yn] at hpp
          rw [hpp] at kt
          try rw [if_pos hc87] at hqq
          try rw [if_neg hc107y] at hqq
          try rw [if_pos hc127yn] at hqq
          rw [hqq] at kt
          try rw [if_pos hc87] at hss
          try rw [if_neg hc107y] at hss
          try rw [if_pos hc127yn] at hss
          rw [hss] at kt
          try rw [if_pos hc87] at hdu
          try rw [if_neg hc107y] at hdu
          try rw [if_pos hc127yn] at hdu
          rw [hdu] at kt
          try rw [if_pos hc87] at hdw
          try rw [if_neg hc107y] at hdw
          try rw [if_pos hc127yn] at hdw
          rw [hdw] at kt
          refine XS.lload X11.here hx rfl (hb hby at_130) rfl ?_
          show Steps p.tables e below (T11.setTop (mkF m 132 #[.val (.long x0), .second, .val (.long x2), .second, .val (.long x4), .second, .val (.int x6), .val (.long na), .second, .val (.long nb), .second, .val (.long nc), .second, .val (.ref t), .val (.long vb), .second, .val (.long va), .second, .val (.long vc), .second, .val (.long va), .second] [(.long vb)])) _
          refine XS.lstore X11.here hx rfl (hb hby at_132) rfl (l' := #[.val (.long x0), .second, .val (.long x2), .second, .val (.long x4), .second, .val (.int x6), .val (.long na), .second, .val (.long nb), .second, .val (.long nc), .second, .val (.ref t), .val (.long vb), .second, .val (.long va), .second, .val (.long vc), .second, .val (.long vb), .second]) rfl ?_
          show Steps p.tables e below (T11.setTop (mkF m 134 #[.val (.long x0), .second, .val (.long x2), .second, .val (.long x4), .second, .val (.int x6), .val (.long na), .second, .val (.long nb), .second, .val (.long nc), .second, .val (.ref t), .val (.long vb), .second, .val (.long va), .second, .val (.long vc), .second, .val (.long vb), .second] [])) _
          refine XS.lload X11.here hx rfl (hb hby at_134) rfl ?_
          show Steps p.tables e below (T11.setTop (mkF m 136 #[.val (.long x0), .second, .val (.long x2), .second, .val (.long x4), .second, .val (.int x6), .val (.long na), .second, .val (.long nb), .second, .val (.long nc), .second, .val (.ref t), .val (.long vb), .second, .val (.long va), .second, .val (.long vc), .second, .val (.long vb), .second] [(.long va)])) _
          refine XS.lstore X11.here hx rfl (hb hby at_136) rfl (l' := #[.val (.long x0), .second, .val (.long x2), .second, .val (.long x4), .second, .val (.int x6), .val (.long na), .second, .val (.long nb), .second, .val (.long nc), .second, .val (.ref t), .val (.long va), .second, .val (.long va), .second, .val (.long vc), .second, .val (.long vb), .second]) rfl ?_
          show Steps p.tables e below (T11.setTop (mkF m 138 #[.val (.long x0), .second, .val (.long x2), .second, .val (.long x4), .second, .val (.int x6), .val (.long na), .second, .val (.long nb), .second, .val (.long nc), .second, .val (.ref t), .val (.long va), .second, .val (.long va), .second, .val (.long vc), .second, .val (.long vb), .second] [])) _
          refine XS.lload X11.here hx rfl (hb hby at_138) rfl ?_
          show Steps p.tables e below (T11.setTop (mkF m 140 #[.val (.long x0), .second, .val (.long x2), .second, .val (.long x4), .second, .val (.int x6), .val (.long na), .second, .val (.long nb), .second, .val (.long nc), .second, .val (.ref t), .val (.long va), .second, .val (.long va), .second, .val (.long vc), .second, .val (.long vb), .second] [(.long vb)])) _
          refine XS.lstore X11.here hx rfl (hb hby at_140) rfl (l' := #[.val (.long x0), .second, .val (.long x2), .second, .val (.long x4), .second, .val (.int x6), .val (.long na), .second, .val (.long nb), .second, .val (.long nc), .second, .val (.ref t), .val (.long va), .second, .val (.long vb), .second, .val (.long vc), .second, .val (.long vb), .second]) rfl ?_
          show Steps p.tables e below (T11.setTop (mkF m 142 #[.val (.long x0), .second, .val (.long x2), .second, .val (.long x4), .second, .val (.int x6), .val (.long na), .second, .val (.long nb), .second, .val (.long nc), .second, .val (.ref t), .val (.long va), .second, .val (.long vb), .second, .val (.long vc), .second, .val (.long vb), .second] [])) _
          exact kt
        · refine XS.ifYes X11.here hx rfl (pc0 := 127) (pc' := 142) rfl (hb hby at_127) rfl ((if0 _ _).trans (flt (fun q_ => hc127yn ((lw_gt vb va).mp q_))).2.2.2) (by decide) (by decide) ?_
          show Steps p.tables e below (T11.setTop (mkF m 142 #[.val (.long x0), .second, .val (.long x2), .second, .val (.long x4), .second, .val (.int x6), .val (.long na), .second, .val (.long nb), .second, .val (.long nc), .second, .val (.ref t), .val (.long vb), .second, .val (.long va), .second, .val (.long vc), .second, .val (.long va), .second] [])) _
          try rw [if_pos hc87] at hpp
          try rw [if_neg hc107y] at hpp
          try rw [if_neg hc127yn] at hpp
          rw [hpp] at kt
          try rw [if_pos hc87] at hqq
          try rw [if_neg hc107y] at hqq
          try rw [if_neg hc127yn] at hqq
          rw [hqq] at kt
          try rw [if_pos hc87] at hss
          try rw [if_neg hc107y] at hss
          try rw [if_neg hc127yn] at hss
          rw [hss] at kt
          try rw [if_pos hc87] at hdu
          try rw [if_neg hc107y] at hdu
          try rw [if_neg hc127yn] at hdu
          rw [hdu] at kt
          try rw [if_pos hc87] at hdw
          try rw [if_neg hc107y] at hdw
          try rw [if_neg hc127yn] at hdw
          rw [hdw] at kt
          exact kt
    · refine XS.ifYes X11.here hx rfl (pc0 := 87) (pc' := 102) rfl (hb hby at_87) rfl ((if0 _ _).trans (flt (fun q_ => hc87 ((lw_gt va vb).mp q_))).2.2.2) (by decide) (by decide) ?_
      show Steps p.tables e below (T11.setTop (mkF m 102 #[.val (.long x0), .second, .val (.long x2), .second, .val (.long x4), .second, .val (.int x6), .val (.long na), .second, .val (.long nb), .second, .val (.long nc), .second, .val (.ref t), .val (.long va), .second, .val (.long vb), .second, .val (.long vc), .second, .unset, .unset] [])) _
      refine XS.lload X11.here hx rfl (hb hby at_102) rfl ?_
      show Steps p.tables e below (T11.setTop (mkF m 104 #[.val (.long x0), .second, .val (.long x2), .second, .val (.long x4), .second, .val (.int x6), .val (.long na), .second, .val (.long nb), .second, .val (.long nc), .second, .val (.ref t), .val (.long va), .second, .val (.long vb), .second, .val (.long vc), .second, .unset, .unset] [(.long vb)])) _
      refine XS.lload X11.here hx rfl (hb hby at_104) rfl ?_
      show Steps p.tables e below (T11.setTop (mkF m 106 #[.val (.long x0), .second, .val (.long x2), .second, .val (.long x4), .second, .val (.int x6), .val (.long na), .second, .val (.long nb), .second, .val (.long nc), .second, .val (.ref t), .val (.long va), .second, .val (.long vb), .second, .val (.long vc), .second, .unset, .unset] [(.long vc), (.long vb)])) _
      refine XS.lcmp X11.here hx rfl (hb hby at_106) rfl ?_
      show Steps p.tables e below (T11.setTop (mkF m 107 #[.val (.long x0), .second, .val (.long x2), .second, .val (.long x4), .second, .val (.int x6), .val (.long na), .second, .val (.long nb), .second, .val (.long nc), .second, .val (.ref t), .val (.long va), .second, .val (.long vb), .second, .val (.long vc), .second, .unset, .unset] [(.int (lcmpW vb vc))])) _
      by_cases hc107n : vc < vb
      · refine XS.ifNo X11.here hx rfl (hb hby at_107) rfl ((if0 _ _).trans (tlt ((lw_gt vb vc).mpr hc107n)).2.2.2) ?_
        show Steps p.tables e below (T11.setTop (mkF m 110 #[.val (.long x0), .second, .val (.long x2), .second, .val (.long x4), .second, .val (.int x6), .val (.long na), .second, .val (.long nb), .second, .val (.long nc), .second, .val (.ref t), .val (.long va), .second, .val (.long vb), .second, .val (.long vc), .second, .unset, .unset] [])) _
        refine XS.lload X11.here hx rfl (hb hby at_110) rfl ?_
        show Steps p.tables e below (T11.setTop (mkF m 112 #[.val (.long x0), .second, .val (.long x2), .second, .val (.long x4), .second, .val (.int x6), .val (.long na), .second, .val (.long nb), .second, .val (.long nc), .second, .val (.ref t), .val (.long va), .second, .val (.long vb), .second, .val (.long vc), .second, .unset, .unset] [(.long vb)])) _
        refine XS.lstore X11.here hx rfl (hb hby at_112) rfl (l' := #[.val (.long x0), .second, .val (.long x2), .second, .val (.long x4), .second, .val (.int x6), .val (.long na), .second, .val (.long nb), .second, .val (.long nc), .second, .val (.ref t), .val (.long va), .second, .val (.long vb), .second, .val (.long vc), .second, .val (.long vb), .second]) rfl ?_
        show Steps p.tables e below (T11.setTop (mkF m 114 #[.val (.long x0), .second, .val (.long x2), .second, .val (.long x4), .second, .val (.int x6), .val (.long na), .second, .val (.long nb), .second, .val (.long nc), .second, .val (.ref t), .val (.long va), .second, .val (.long vb), .second, .val (.long vc), .second, .val (.long vb), .second] [])) _
        refine XS.lload X11.here hx rfl (hb hby at_114) rfl ?_
        show Steps p.tables e below (T11.setTop (mkF m 116 #[.val (.long x0), .second, .val (.long x2), .second, .val (.long x4), .second, .val (.int x6), .val (.long na), .second, .val (.long nb), .second, .val (.long nc), .second, .val (.ref t), .val (.long va), .second, .val (.long vb), .second, .val (.long vc), .second, .val (.long vb), .second] [(.long vc)])) _
        refine XS.lstore X11.here hx rfl (hb hby at_116) rfl (l' := #[.val (.long x0), .second, .val (.long x2), .second, .val (.long x4), .second, .val (.int x6), .val (.long na), .second, .val (.long nb), .second, .val (.long nc), .second, .val (.ref t), .val (.long va), .second, .val (.long vc), .second, .val (.long vc), .second, .val (.long vb), .second]) rfl ?_
        show Steps p.tables e below (T11.setTop (mkF m 118 #[.val (.long x0), .second, .val (.long x2), .second, .val (.long x4), .second, .val (.int x6), .val (.long na), .second, .val (.long nb), .second, .val (.long nc), .second, .val (.ref t), .val (.long va), .second, .val (.long vc), .second, .val (.long vc), .second, .val (.long vb), .second] [])) _
        refine XS.lload X11.here hx rfl (hb hby at_118) rfl ?_
        show Steps p.tables e below (T11.setTop (mkF m 120 #[.val (.long x0), .second, .val (.long x2), .second, .val (.long x4), .second, .val (.int x6), .val (.long na), .second, .val (.long nb), .second, .val (.long nc), .second, .val (.ref t), .val (.long va), .second, .val (.long vc), .second, .val (.long vc), .second, .val (.long vb), .second] [(.long vb)])) _
        refine XS.lstore X11.here hx rfl (hb hby at_120) rfl (l' := #[.val (.long x0), .second, .val (.long x2), .second, .val (.long x4), .second, .val (.int x6), .val (.long na), .second, .val (.long nb), .second, .val (.long nc), .second, .val (.ref t), .val (.long va), .second, .val (.long vc), .second, .val (.long vb), .second, .val (.long vb), .second]) rfl ?_
        show Steps p.tables e below (T11.setTop (mkF m 122 #[.val (.long x0), .second, .val (.long x2), .second, .val (.long x4), .second, .val (.int x6), .val (.long na), .second, .val (.long nb), .second, .val (.long nc), .second, .val (.ref t), .val (.long va), .second, .val (.long vc), .second, .val (.long vb), .second, .val (.long vb), .second] [])) _
        refine XS.lload X11.here hx rfl (hb hby at_122) rfl ?_
        show Steps p.tables e below (T11.setTop (mkF m 124 #[.val (.long x0), .second, .val (.long x2), .second, .val (.long x4), .second, .val (.int x6), .val (.long na), .second, .val (.long nb), .second, .val (.long nc), .second, .val (.ref t), .val (.long va), .second, .val (.long vc), .second, .val (.long vb), .second, .val (.long vb), .second] [(.long va)])) _
        refine XS.lload X11.here hx rfl (hb hby at_124) rfl ?_
        show Steps p.tables e below (T11.setTop (mkF m 126 #[.val (.long x0), .second, .val (.long x2), .second, .val (.long x4), .second, .val (.int x6), .val (.long na), .second, .val (.long nb), .second, .val (.long nc), .second, .val (.ref t), .val (.long va), .second, .val (.long vc), .second, .val (.long vb), .second, .val (.long vb), .second] [(.long vc), (.long va)])) _
        refine XS.lcmp X11.here hx rfl (hb hby at_126) rfl ?_
        show Steps p.tables e below (T11.setTop (mkF m 127 #[.val (.long x0), .second, .val (.long x2), .second, .val (.long x4), .second, .val (.int x6), .val (.long na), .second, .val (.long nb), .second, .val (.long nc), .second, .val (.ref t), .val (.long va), .second, .val (.long vc), .second, .val (.long vb), .second, .val (.long vb), .second] [(.int (lcmpW va vc))])) _
        by_cases hc127ny : vc < va
        · refine XS.ifNo X11.here hx rfl (hb hby at_127) rfl ((if0 _ _).trans (tlt ((lw_gt va vc).mpr hc127ny)).2.2.2) ?_
          show Steps p.tables e below (T11.setTop (mkF m 130 #[.val (.long x0), .second, .val (.long x2), .second, .val (.long x4), .second, .val (.int x6), .val (.long na), .second, .val (.long nb), .second, .val (.long nc), .second, .val (.ref t), .val (.long va), .second, .val (.long vc), .second, .val (.long vb), .second, .val (.long vb), .second] [])) _
          try rw [if_neg hc87] at hpp
          try rw [if_pos hc107n] at hpp
          try rw [if_pos hc127ny] at hpp
          rw [hpp] at kt
          try rw [if_neg hc87] at hqq
          try rw [if_pos hc107n] at hqq
          try rw [if_pos hc127ny] at hqq
          rw [hqq] at kt
          try rw [if_neg hc87] at hss
          try rw [if_pos hc107n] at hss
          try rw [if_pos hc127ny] at hss
          rw [hss] at kt
          try rw [if_neg hc87] at hdu
          try rw [if_pos hc107n] at hdu
          try rw [if_pos hc127ny] at hdu
          rw [hdu] at kt
          try rw [if_neg hc87] at hdw
          try rw [if_pos hc107n] at hdw
          try rw [if_pos hc127ny] at hdw
          rw [hdw] at kt
          refine XS.lload X11.here hx rfl (hb hby at_130) rfl ?_
          show Steps p.tables e below (T11.setTop (mkF m 132 #[.val (.long x0), .second, .val (.long x2), .second, .val (.long x4), .second, .val (.int x6), .val (.long na), .second, .val (.long nb), .second, .val (.long nc), .second, .val (.ref t), .val (.long va), .second, .val (.long vc), .second, .val (.long vb), .second, .val (.long vb), .second] [(.long va)])) _
          refine XS.lstore X11.here hx rfl (hb hby at_132) rfl (l' := #[.val (.long x0), .second, .val (.long x2), .second, .val (.long x4), .second, .val (.int x6), .val (.long na), .second, .val (.long nb), .second, .val (.long nc), .second, .val (.ref t), .val (.long va), .second, .val (.long vc), .second, .val (.long vb), .second, .val (.long va), .second]) rfl ?_
          show Steps p.tables e below (T11.setTop (mkF m 134 #[.val (.long x0), .second, .val (.long x2), .second, .val (.long x4), .second, .val (.int x6), .val (.long na), .second, .val (.long nb), .second, .val (.long nc), .second, .val (.ref t), .val (.long va), .second, .val (.long vc), .second, .val (.long vb), .second, .val (.long va), .second] [])) _
          refine XS.lload X11.here hx rfl (hb hby at_134) rfl ?_
          show Steps p.tables e below (T11.setTop (mkF m 136 #[.val (.long x0), .second, .val (.long x2), .second, .val (.long x4), .second, .val (.int x6), .val (.long na), .second, .val (.long nb), .second, .val (.long nc), .second, .val (.ref t), .val (.long va), .second, .val (.long vc), .second, .val (.long vb), .second, .val (.long va), .second] [(.long vc)])) _
          refine XS.lstore X11.here hx rfl (hb hby at_136) rfl (l' := #[.val (.long x0), .second, .val (.long x2), .second, .val (.long x4), .second, .val (.int x6), .val (.long na), .second, .val (.long nb), .second, .val (.long nc), .second, .val (.ref t), .val (.long vc), .second, .val (.long vc), .second, .val (.long vb), .second, .val (.long va), .second]) rfl ?_
          show Steps p.tables e below (T11.setTop (mkF m 138 #[.val (.long x0), .second, .val (.long x2), .second, .val (.long x4), .second, .val (.int x6), .val (.long na), .second, .val (.long nb), .second, .val (.long nc), .second, .val (.ref t), .val (.long vc), .second, .val (.long vc), .second, .val (.long vb), .second, .val (.long va), .second] [])) _
          refine XS.lload X11.here hx rfl (hb hby at_138) rfl ?_
          show Steps p.tables e below (T11.setTop (mkF m 140 #[.val (.long x0), .second, .val (.long x2), .second, .val (.long x4), .second, .val (.int x6), .val (.long na), .second, .val (.long nb), .second, .val (.long nc), .second, .val (.ref t), .val (.long vc), .second, .val (.long vc), .second, .val (.long vb), .second, .val (.long va), .second] [(.long va)])) _
          refine XS.lstore X11.here hx rfl (hb hby at_140) rfl (l' := #[.val (.long x0), .second, .val (.long x2), .second, .val (.long x4), .second, .val (.int x6), .val (.long na), .second, .val (.long nb), .second, .val (.long nc), .second, .val (.ref t), .val (.long vc), .second, .val (.long va), .second, .val (.long vb), .second, .val (.long va), .second]) rfl ?_
          show Steps p.tables e below (T11.setTop (mkF m 142 #[.val (.long x0), .second, .val (.long x2), .second, .val (.long x4), .second, .val (.int x6), .val (.long na), .second, .val (.long nb), .second, .val (.long nc), .second, .val (.ref t), .val (.long vc), .second, .val (.long va), .second, .val (.long vb), .second, .val (.long va), .second] [])) _
          exact kt
        · refine XS.ifYes X11.here hx rfl (pc0 := 127) (pc' := 142) rfl (hb hby at_127) rfl ((if0 _ _).trans (flt (fun q_ => hc127ny ((lw_gt va vc).mp q_))).2.2.2) (by decide) (by decide) ?_
          show Steps p.tables e below (T11.setTop (mkF m 142 #[.val (.long x0), .second, .val (.long x2), .second, .val (.long x4), .second, .val (.int x6), .val (.long na), .second, .val (.long nb), .second, .val (.long nc), .second, .val (.ref t), .val (.long va), .second, .val (.long vc), .second, .val (.long vb), .second, .val (.long vb), .second] [])) _
          try rw [if_neg hc87] at hpp
          try rw [if_pos hc107n] at hpp
          try rw [if_neg hc127ny] at hpp
          rw [hpp] at kt
          try rw [if_neg hc87] at hqq
          try rw [if_pos hc107n] at hqq
          try rw [if_neg hc127ny] at hqq
          rw [hqq] at kt
          try rw [if_neg hc87] at hss
          try rw [if_pos hc107n] at hss
          try rw [if_neg hc127ny] at hss
          rw [hss] at kt
          try rw [if_neg hc87] at hdu
          try rw [if_pos hc107n] at hdu
          try rw [if_neg hc127ny] at hdu
          rw [hdu] at kt
          try rw [if_neg hc87] at hdw
          try rw [if_pos hc107n] at hdw
          try rw [if_neg hc127ny] at hdw
          rw [hdw] at kt
          exact kt
      · refine XS.ifYes X11.here hx rfl (pc0 := 107) (pc' := 122) rfl (hb hby at_107) rfl ((if0 _ _).trans (flt (fun q_ => hc107n ((lw_gt vb vc).mp q_))).2.2.2) (by decide) (by decide) ?_
        show Steps p.tables e below (T11.setTop (mkF m 122 #[.val (.long x0), .second, .val (.long x2), .second, .val (.long x4), .second, .val (.int x6), .val (.long na), .second, .val (.long nb), .second, .val (.long nc), .second, .val (.ref t), .val (.long va), .second, .val (.long vb), .second, .val (.long vc), .second, .unset, .unset] [])) _
        refine XS.lload X11.here hx rfl (hb hby at_122) rfl ?_
        show Steps p.tables e below (T11.setTop (mkF m 124 #[.val (.long x0), .second, .val (.long x2), .second, .val (.long x4), .second, .val (.int x6), .val (.long na), .second, .val (.long nb), .second, .val (.long nc), .second, .val (.ref t), .val (.long va), .second, .val (.long vb), .second, .val (.long vc), .second, .unset, .unset] [(.long va)])) _
        refine XS.lload X11.here hx rfl (hb hby at_124) rfl ?_
        show Steps p.tables e below (T11.setTop (mkF m 126 #[.val (.long x0), .second, .val (.long x2), .second, .val (.long x4), .second, .val (.int x6), .val (.long na), .second, .val (.long nb), .second, .val (.long nc), .second, .val (.ref t), .val (.long va), .second, .val (.long vb), .second, .val (.long vc), .second, .unset, .unset] [(.long vb), (.long va)])) _
        refine XS.lcmp X11.here hx rfl (hb hby at_126) rfl ?_
        show Steps p.tables e below (T11.setTop (mkF m 127 #[.val (.long x0), .second, .val (.long x2), .second, .val (.long x4), .second, .val (.int x6), .val (.long na), .second, .val (.long nb), .second, .val (.long nc), .second, .val (.ref t), .val (.long va), .second, .val (.long vb), .second, .val (.long vc), .second, .unset, .unset] [(.int (lcmpW va vb))])) _
        by_cases hc127nn : vb < va
        · refine XS.ifNo X11.here hx rfl (hb hby at_127) rfl ((if0 _ _).trans (tlt ((lw_gt va vb).mpr hc127nn)).2.2.2) ?_
          show Steps p.tables e below (T11.setTop (mkF m 130 #[.val (.long x0), .second, .val (.long x2), .second, .val (.long x4), .second, .val (.int x6), .val (.long na), .second, .val (.long nb), .second, .val (.long nc), .second, .val (.ref t), .val (.long va), .second, .val (.long vb), .second, .val (.long vc), .second, .unset, .unset] [])) _
          try rw [if_neg hc87] at hpp
          try rw [if_neg hc107n] at hpp
          try rw [if_pos hc127nn] at hpp
          rw [hpp] at kt
          try rw [if_neg hc87] at hqq
          try rw [if_neg hc107n] at hqq
          try rw [if_pos hc127nn] at hqq
          rw [hqq] at kt
          try rw [if_neg hc87] at hss
          try rw [if_neg hc107n] at hss
          try rw [if_pos hc127nn] at hss
          rw [hss] at kt
          try rw [if_neg hc87] at hdu
          try rw [if_neg hc107n] at hdu
          try rw [if_pos hc127nn] at hdu
          rw [hdu] at kt
          try rw [if_neg hc87] at hdw
          try rw [if_neg hc107n] at hdw
          try rw [if_pos hc127nn] at hdw
          rw [hdw] at kt
          refine XS.lload X11.here hx rfl (hb hby at_130) rfl ?_
          show Steps p.tables e below (T11.setTop (mkF m 132 #[.val (.long x0), .second, .val (.long x2), .second, .val (.long x4), .second, .val (.int x6), .val (.long na), .second, .val (.long nb), .second, .val (.long nc), .second, .val (.ref t), .val (.long va), .second, .val (.long vb), .second, .val (.long vc), .second, .unset, .unset] [(.long va)])) _
          refine XS.lstore X11.here hx rfl (hb hby at_132) rfl (l' := #[.val (.long x0), .second, .val (.long x2), .second, .val (.long x4), .second, .val (.int x6), .val (.long na), .second, .val (.long nb), .second, .val (.long nc), .second, .val (.ref t), .val (.long va), .second, .val (.long vb), .second, .val (.long vc), .second, .val (.long va), .second]) rfl ?_
          show Steps p.tables e below (T11.setTop (mkF m 134 #[.val (.long x0), .second, .val (.long x2), .second, .val (.long x4), .second, .val (.int x6), .val (.long na), .second, .val (.long nb), .second, .val (.long nc), .second, .val (.ref t), .val (.long va), .second, .val (.long vb), .second, .val (.long vc), .second, .val (.long va), .second] [])) _
          refine XS.lload X11.here hx rfl (hb hby at_134) rfl ?_
          show Steps p.tables e below (T11.setTop (mkF m 136 #[.val (.long x0), .second, .val (.long x2), .second, .val (.long x4), .second, .val (.int x6), .val (.long na), .second, .val (.long nb), .second, .val (.long nc), .second, .val (.ref t), .val (.long va), .second, .val (.long vb), .second, .val (.long vc), .second, .val (.long va), .second] [(.long vb)])) _
          refine XS.lstore X11.here hx rfl (hb hby at_136) rfl (l' := #[.val (.long x0), .second, .val (.long x2), .second, .val (.long x4), .second, .val (.int x6), .val (.long na), .second, .val (.long nb), .second, .val (.long nc), .second, .val (.ref t), .val (.long vb), .second, .val (.long vb), .second, .val (.long vc), .second, .val (.long va), .second]) rfl ?_
          show Steps p.tables e below (T11.setTop (mkF m 138 #[.val (.long x0), .second, .val (.long x2), .second, .val (.long x4), .second, .val (.int x6), .val (.long na), .second, .val (.long nb), .second, .val (.long nc), .second, .val (.ref t), .val (.long vb), .second, .val (.long vb), .second, .val (.long vc), .second, .val (.long va), .second] [])) _
          refine XS.lload X11.here hx rfl (hb hby at_138) rfl ?_
          show Steps p.tables e below (T11.setTop (mkF m 140 #[.val (.long x0), .second, .val (.long x2), .second, .val (.long x4), .second, .val (.int x6), .val (.long na), .second, .val (.long nb), .second, .val (.long nc), .second, .val (.ref t), .val (.long vb), .second, .val (.long vb), .second, .val (.long vc), .second, .val (.long va), .second] [(.long va)])) _
          refine XS.lstore X11.here hx rfl (hb hby at_140) rfl (l' := #[.val (.long x0), .second, .val (.long x2), .second, .val (.long x4), .second, .val (.int x6), .val (.long na), .second, .val (.long nb), .second, .val (.long nc), .second, .val (.ref t), .val (.long vb), .second, .val (.long va), .second, .val (.long vc), .second, .val (.long va), .second]) rfl ?_
          show Steps p.tables e below (T11.setTop (mkF m 142 #[.val (.long x0), .second, .val (.long x2), .second, .val (.long x4), .second, .val (.int x6), .val (.long na), .second, .val (.long nb), .second, .val (.long nc), .second, .val (.ref t), .val (.long vb), .second, .val (.long va), .second, .val (.long vc), .second, .val (.long va), .second] [])) _
          exact kt
        · refine XS.ifYes X11.here hx rfl (pc0 := 127) (pc' := 142) rfl (hb hby at_127) rfl ((if0 _ _).trans (flt (fun q_ => hc127nn ((lw_gt va vb).mp q_))).2.2.2) (by decide) (by decide) ?_
          show Steps p.tables e below (T11.setTop (mkF m 142 #[.val (.long x0), .second, .val (.long x2), .second, .val (.long x4), .second, .val (.int x6), .val (.long na), .second, .val (.long nb), .second, .val (.long nc), .second, .val (.ref t), .val (.long va), .second, .val (.long vb), .second, .val (.long vc), .second, .unset, .unset] [])) _
          try rw [if_neg hc87] at hpp
          try rw [if_neg hc107n] at hpp
          try rw [if_neg hc127nn] at hpp
          rw [hpp] at kt
          try rw [if_neg hc87] at hqq
          try rw [if_neg hc107n] at hqq
          try rw [if_neg hc127nn] at hqq
          rw [hqq] at kt
          try rw [if_neg hc87] at hss
          try rw [if_neg hc107n] at hss
          try rw [if_neg hc127nn] at hss
          rw [hss] at kt
          try rw [if_neg hc87] at hdu
          try rw [if_neg hc107n] at hdu
          try rw [if_neg hc127nn] at hdu
          rw [hdu] at kt
          try rw [if_neg hc87] at hdw
          try rw [if_neg hc107n] at hdw
          try rw [if_neg hc127nn] at hdw
          rw [hdw] at kt
          exact kt
  refine RunsTo.of (T' := T11) (g' := (mkF m 144 #[.val (.long x0), .second, .val (.long x2), .second, .val (.long x4), .second, .val (.int x6), .val (.long na), .second, .val (.long nb), .second, .val (.long nc), .second, .val (.ref t), .val (.long pp), .second, .val (.long qq), .second, .val (.long ss), .second, du, dw] [(.ref t)])) (fun tgt_ kt => ?_) ?_
  · refine XS.aload X11.here hx rfl (hb hby at_142) rfl rfl ?_
    show Steps p.tables e below (T11.setTop (mkF m 144 #[.val (.long x0), .second, .val (.long x2), .second, .val (.long x4), .second, .val (.int x6), .val (.long na), .second, .val (.long nb), .second, .val (.long nc), .second, .val (.ref t), .val (.long pp), .second, .val (.long qq), .second, .val (.long ss), .second, du, dw] [(.ref t)])) _
    exact kt
  have hsort : pp.toInt = own_mic t0 ∧ qq.toInt = own_mic t1 ∧ ss.toInt = own_mic t2 := by
    have m01 := own_mic_mono ht01
    have m12 := own_mic_mono ht12
    clear hdu hdw
    rw [hpp, hqq, hss]
    simp only [Int64.lt_iff_toInt_lt]
    clear hpp hqq hss
    rcases hperm with ⟨rfl, rfl, rfl⟩ | ⟨rfl, rfl, rfl⟩ | ⟨rfl, rfl, rfl⟩ | ⟨rfl, rfl, rfl⟩ | ⟨rfl, rfl, rfl⟩ | ⟨rfl, rfl, rfl⟩
    all_goals
      refine ⟨?_, ?_, ?_⟩ <;> (repeat' split) <;> omega
  obtain ⟨hs0, hs1, hs2⟩ := hsort
  obtain ⟨cq12, kq12, q12a, q12b, q12c⟩ := isOf hZ e11 E_t
  obtain ⟨_, _, ⟨T12, L12, k12, n12⟩, -, X12, ⟨Lc12, hQ12, l12, y12, z12⟩, st12⟩ := X11.virtualBack hx (y := (⟨"com/example/iron_latch/ironlatch/cli/PairTimes", "count", "()J"⟩ : MethodName)) (z := (⟨"com/example/iron_latch/ironlatch/cli/PairTimes", "count", "()J"⟩ : MethodName)) hown (mvT hZ (hw _ (List.mem_of_getElem? (i := 54) rfl))) (mvT hZ (hw _ (List.mem_of_getElem? (i := 55) rfl))) (notFace_of_selects (args := #[]) (mvT hZ (hw _ (List.mem_of_getElem? (i := 57) rfl)))) (mvT hZ (hw _ (List.mem_of_getElem? (i := 57) rfl))) (mvT hZ (hw _ (List.mem_of_getElem? (i := 56) rfl))) (by decide) (backOf (W := 0) (rm_count l Z a0 hw [] t 3 T8.heap n0 Z8 F_recorded_t) hZ (hw _ (List.mem_of_getElem? (i := 58) rfl)) (hw _ (List.mem_of_getElem? (i := 12) rfl)) (by decide) (by decide)) q12a q12c (g := (mkF m 144 #[.val (.long x0), .second, .val (.long x2), .second, .val (.long x4), .second, .val (.int x6), .val (.long na), .second, .val (.long nb), .second, .val (.long nc), .second, .val (.ref t), .val (.long pp), .second, .val (.long qq), .second, .val (.long ss), .second, du, dw] [(.ref t)])) rfl (by rw [hml]; rfl) (Steps.refl _) (argsL := []) (rest := []) (lenOf pd_8 rfl) rfl (by show 2 * 0 + _ ≤ _; exact Nat.le_of_eq rfl) (hb hby at_144) (fun _ _ => ⟨rfl, e11, (by decide : 2 + 0 ≤ _), (by decide : 56322 + 0 ≤ _)⟩)
  dsimp only [Pt.U, Pt.locs, Pt.cells, Pt.slots] at X12 l12 y12 z12 st12 hQ12
  subst l12 y12 z12
  obtain ⟨rfl, N12q, e12⟩ := hQ12
  have N12 := Fr.app N11 N12q
  refine RunsTo.of (T' := T12) (g' := (mkF m 147 #[.val (.long x0), .second, .val (.long x2), .second, .val (.long x4), .second, .val (.int x6), .val (.long na), .second, .val (.long nb), .second, .val (.long nc), .second, .val (.ref t), .val (.long pp), .second, .val (.long qq), .second, .val (.long ss), .second, du, dw] [(.long (3 : Int64))])) (fun _ kt => st12.trans kt) ?_
  refine RunsTo.of (T' := T12) (g' := (mkF m 159 #[.val (.long x0), .second, .val (.long x2), .second, .val (.long x4), .second, .val (.int x6), .val (.long na), .second, .val (.long nb), .second, .val (.long nc), .second, .val (.ref t), .val (.long pp), .second, .val (.long qq), .second, .val (.long ss), .second, du, dw] [(.long (0 : Int64)), (.ref t)])) (fun tgt_ kt => ?_) ?_
  · refine X12.ldc2Long hx hown (mvT hZ (hw _ (List.mem_of_getElem? (i := 59) rfl))) (g := (mkF m 147 #[.val (.long x0), .second, .val (.long x2), .second, .val (.long x4), .second, .val (.int x6), .val (.long na), .second, .val (.long nb), .second, .val (.long nc), .second, .val (.ref t), .val (.long pp), .second, .val (.long qq), .second, .val (.long ss), .second, du, dw] [(.long (3 : Int64))])) rfl (hb hby at_147) _ ?_
    show Steps p.tables e below (T12.setTop (mkF m 150 #[.val (.long x0), .second, .val (.long x2), .second, .val (.long x4), .second, .val (.int x6), .val (.long na), .second, .val (.long nb), .second, .val (.long nc), .second, .val (.ref t), .val (.long pp), .second, .val (.long qq), .second, .val (.long ss), .second, du, dw] [(.long (3 : Int64)), (.long (3 : Int64))])) _
    refine XS.lcmp X12.here hx rfl (hb hby at_150) rfl ?_
    show Steps p.tables e below (T12.setTop (mkF m 151 #[.val (.long x0), .second, .val (.long x2), .second, .val (.long x4), .second, .val (.int x6), .val (.long na), .second, .val (.long nb), .second, .val (.long nc), .second, .val (.ref t), .val (.long pp), .second, .val (.long qq), .second, .val (.long ss), .second, du, dw] [(.int (lcmpW (3 : Int64) (3 : Int64)))])) _
    refine XS.ifYes X12.here hx rfl (pc0 := 151) (pc' := 156) rfl (hb hby at_151) rfl ((if0 _ _).trans (teq ((lw_eq (3 : Int64) (3 : Int64)).mpr rfl)).1) (by decide) (by decide) ?_
    show Steps p.tables e below (T12.setTop (mkF m 156 #[.val (.long x0), .second, .val (.long x2), .second, .val (.long x4), .second, .val (.int x6), .val (.long na), .second, .val (.long nb), .second, .val (.long nc), .second, .val (.ref t), .val (.long pp), .second, .val (.long qq), .second, .val (.long ss), .second, du, dw] [])) _
    refine XS.aload X12.here hx rfl (hb hby at_156) rfl rfl ?_
    show Steps p.tables e below (T12.setTop (mkF m 158 #[.val (.long x0), .second, .val (.long x2), .second, .val (.long x4), .second, .val (.int x6), .val (.long na), .second, .val (.long nb), .second, .val (.long nc), .second, .val (.ref t), .val (.long pp), .second, .val (.long qq), .second, .val (.long ss), .second, du, dw] [(.ref t)])) _
    refine XS.lconst X12.here hx rfl (hb hby at_158) ?_
    show Steps p.tables e below (T12.setTop (mkF m 159 #[.val (.long x0), .second, .val (.long x2), .second, .val (.long x4), .second, .val (.int x6), .val (.long na), .second, .val (.long nb), .second, .val (.long nc), .second, .val (.ref t), .val (.long pp), .second, .val (.long qq), .second, .val (.long ss), .second, du, dw] [(.long (0 : Int64)), (.ref t)])) _
    exact kt
  obtain ⟨cq13, kq13, q13a, q13b, q13c⟩ := isOf hZ e12 E_t
  obtain ⟨_, _, ⟨T13, L13, k13, n13⟩, -, X13, ⟨Lc13, hQ13, l13, y13, z13⟩, st13⟩ := X12.virtualBack hx (y := (⟨"com/example/iron_latch/ironlatch/cli/PairTimes", "at", "(J)J"⟩ : MethodName)) (z := (⟨"com/example/iron_latch/ironlatch/cli/PairTimes", "at", "(J)J"⟩ : MethodName)) hown (mvT hZ (hw _ (List.mem_of_getElem? (i := 60) rfl))) (mvT hZ (hw _ (List.mem_of_getElem? (i := 61) rfl))) (notFace_of_selects (args := #[]) (mvT hZ (hw _ (List.mem_of_getElem? (i := 63) rfl)))) (mvT hZ (hw _ (List.mem_of_getElem? (i := 63) rfl))) (mvT hZ (hw _ (List.mem_of_getElem? (i := 62) rfl))) (by decide) (backOf (W := 0) (rm_at l Z a0 hw [] t 0 a 3 (fun k => own_ind (ia = k) + own_ind (ib = k) + own_ind (ic = k)) (fun k => own_ind (ia < k) + own_ind (ib < k) + own_ind (ic < k)) t0 T8.heap n0 Z8 F_counts_t F_recorded_t V_a ⟨by decide, by decide⟩ (by omega) rfl (fun k hk => ⟨hsum k, by
    show ¬ (0 : Int64) < (own_ind (ia < k) + own_ind (ib < k) + own_ind (ic < k)) + (own_ind (ia = k) + own_ind (ib = k) + own_ind (ic = k))
    rw [← hsum k]
    unfold own_ind
    by_cases a1 : ia < k + 1 <;> by_cases b1 : ib < k + 1 <;> by_cases c1 : ic < k + 1 <;> first | (exfalso; omega) | (simp only [a1, b1, c1, if_true, if_false]; decide)⟩) (by
    show (0 : Int64) < (own_ind (ia < t0) + own_ind (ib < t0) + own_ind (ic < t0)) + (own_ind (ia = t0) + own_ind (ib = t0) + own_ind (ic = t0))
    rw [← hsum t0]
    unfold own_ind
    by_cases a1 : ia < t0 + 1 <;> by_cases b1 : ib < t0 + 1 <;> by_cases c1 : ic < t0 + 1 <;> first | (exfalso; omega) | (simp only [a1, b1, c1, if_true, if_false]; decide))) hZ (hw _ (List.mem_of_getElem? (i := 64) rfl)) (hw _ (List.mem_of_getElem? (i := 12) rfl)) (by decide) (by decide)) q13a q13c (g := (mkF m 159 #[.val (.long x0), .second, .val (.long x2), .second, .val (.long x4), .second, .val (.int x6), .val (.long na), .second, .val (.long nb), .second, .val (.long nc), .second, .val (.ref t), .val (.long pp), .second, .val (.long qq), .second, .val (.long ss), .second, du, dw] [(.long (0 : Int64)), (.ref t)])) rfl (by rw [hml]; rfl) (Steps.refl _) (argsL := [(.long (0 : Int64))]) (rest := []) (lenOf pd_7 rfl) rfl (by show 2 * 0 + _ ≤ _; exact Nat.le_of_eq rfl) (hb hby at_159) (fun _ _ => ⟨rfl, e12, (by decide : 2 + 0 ≤ _), (by decide : 56322 + 0 ≤ _)⟩)
  dsimp only [Pt.U, Pt.locs, Pt.cells, Pt.slots] at X13 l13 y13 z13 st13 hQ13
  subst l13 y13 z13
  obtain ⟨r0, rfl, N13q, e13, hr0⟩ := hQ13
  have N13 := Fr.app N12 N13q
  refine RunsTo.of (T' := T13) (g' := (mkF m 162 #[.val (.long x0), .second, .val (.long x2), .second, .val (.long x4), .second, .val (.int x6), .val (.long na), .second, .val (.long nb), .second, .val (.long nc), .second, .val (.ref t), .val (.long pp), .second, .val (.long qq), .second, .val (.long ss), .second, du, dw] [(.long r0)])) (fun _ kt => st13.trans kt) ?_
  refine RunsTo.of (T' := T13) (g' := (mkF m 171 #[.val (.long x0), .second, .val (.long x2), .second, .val (.long x4), .second, .val (.int x6), .val (.long na), .second, .val (.long nb), .second, .val (.long nc), .second, .val (.ref t), .val (.long pp), .second, .val (.long qq), .second, .val (.long ss), .second, du, dw] [(.long (1 : Int64)), (.ref t)])) (fun tgt_ kt => ?_) ?_
  · refine XS.lload X13.here hx rfl (hb hby at_162) rfl ?_
    show Steps p.tables e below (T13.setTop (mkF m 164 #[.val (.long x0), .second, .val (.long x2), .second, .val (.long x4), .second, .val (.int x6), .val (.long na), .second, .val (.long nb), .second, .val (.long nc), .second, .val (.ref t), .val (.long pp), .second, .val (.long qq), .second, .val (.long ss), .second, du, dw] [(.long pp), (.long r0)])) _
    refine XS.lcmp X13.here hx rfl (hb hby at_164) rfl ?_
    show Steps p.tables e below (T13.setTop (mkF m 165 #[.val (.long x0), .second, .val (.long x2), .second, .val (.long x4), .second, .val (.int x6), .val (.long na), .second, .val (.long nb), .second, .val (.long nc), .second, .val (.ref t), .val (.long pp), .second, .val (.long qq), .second, .val (.long ss), .second, du, dw] [(.int (lcmpW r0 pp))])) _
    refine XS.ifNo X13.here hx rfl (hb hby at_165) rfl ((if0 _ _).trans (teq ((lw_eq r0 pp).mpr (show r0 = pp from Int64.toInt_inj.mp (hr0.trans hs0.symm)))).2) ?_
    show Steps p.tables e below (T13.setTop (mkF m 168 #[.val (.long x0), .second, .val (.long x2), .second, .val (.long x4), .second, .val (.int x6), .val (.long na), .second, .val (.long nb), .second, .val (.long nc), .second, .val (.ref t), .val (.long pp), .second, .val (.long qq), .second, .val (.long ss), .second, du, dw] [])) _
    refine XS.aload X13.here hx rfl (hb hby at_168) rfl rfl ?_
    show Steps p.tables e below (T13.setTop (mkF m 170 #[.val (.long x0), .second, .val (.long x2), .second, .val (.long x4), .second, .val (.int x6), .val (.long na), .second, .val (.long nb), .second, .val (.long nc), .second, .val (.ref t), .val (.long pp), .second, .val (.long qq), .second, .val (.long ss), .second, du, dw] [(.ref t)])) _
    refine XS.lconst X13.here hx rfl (hb hby at_170) ?_
    show Steps p.tables e below (T13.setTop (mkF m 171 #[.val (.long x0), .second, .val (.long x2), .second, .val (.long x4), .second, .val (.int x6), .val (.long na), .second, .val (.long nb), .second, .val (.long nc), .second, .val (.ref t), .val (.long pp), .second, .val (.long qq), .second, .val (.long ss), .second, du, dw] [(.long (1 : Int64)), (.ref t)])) _
    exact kt
  obtain ⟨cq14, kq14, q14a, q14b, q14c⟩ := isOf hZ e13 E_t
  obtain ⟨_, _, ⟨T14, L14, k14, n14⟩, -, X14, ⟨Lc14, hQ14, l14, y14, z14⟩, st14⟩ := X13.virtualBack hx (y := (⟨"com/example/iron_latch/ironlatch/cli/PairTimes", "at", "(J)J"⟩ : MethodName)) (z := (⟨"com/example/iron_latch/ironlatch/cli/PairTimes", "at", "(J)J"⟩ : MethodName)) hown (mvT hZ (hw _ (List.mem_of_getElem? (i := 60) rfl))) (mvT hZ (hw _ (List.mem_of_getElem? (i := 61) rfl))) (notFace_of_selects (args := #[]) (mvT hZ (hw _ (List.mem_of_getElem? (i := 63) rfl)))) (mvT hZ (hw _ (List.mem_of_getElem? (i := 63) rfl))) (mvT hZ (hw _ (List.mem_of_getElem? (i := 62) rfl))) (by decide) (backOf (W := 0) (rm_at l Z a0 hw [] t 1 a 3 (fun k => own_ind (ia = k) + own_ind (ib = k) + own_ind (ic = k)) (fun k => own_ind (ia < k) + own_ind (ib < k) + own_ind (ic < k)) t1 T8.heap n0 Z8 F_counts_t F_recorded_t V_a ⟨by decide, by decide⟩ (by omega) rfl (fun k hk => ⟨hsum k, by
    show ¬ (1 : Int64) < (own_ind (ia < k) + own_ind (ib < k) + own_ind (ic < k)) + (own_ind (ia = k) + own_ind (ib = k) + own_ind (ic = k))
    rw [← hsum k]
    unfold own_ind
    by_cases a1 : ia < k + 1 <;> by_cases b1 : ib < k + 1 <;> by_cases c1 : ic < k + 1 <;> first | (exfalso; omega) | (simp only [a1, b1, c1, if_true, if_false]; decide)⟩) (by
    show (1 : Int64) < (own_ind (ia < t1) + own_ind (ib < t1) + own_ind (ic < t1)) + (own_ind (ia = t1) + own_ind (ib = t1) + own_ind (ic = t1))
    rw [← hsum t1]
    unfold own_ind
    by_cases a1 : ia < t1 + 1 <;> by_cases b1 : ib < t1 + 1 <;> by_cases c1 : ic < t1 + 1 <;> first | (exfalso; omega) | (simp only [a1, b1, c1, if_true, if_false]; decide))) hZ (hw _ (List.mem_of_getElem? (i := 64) rfl)) (hw _ (List.mem_of_getElem? (i := 12) rfl)) (by decide) (by decide)) q14a q14c (g := (mkF m 171 #[.val (.long x0), .second, .val (.long x2), .second, .val (.long x4), .second, .val (.int x6), .val (.long na), .second, .val (.long nb), .second, .val (.long nc), .second, .val (.ref t), .val (.long pp), .second, .val (.long qq), .second, .val (.long ss), .second, du, dw] [(.long (1 : Int64)), (.ref t)])) rfl (by rw [hml]; rfl) (Steps.refl _) (argsL := [(.long (1 : Int64))]) (rest := []) (lenOf pd_7 rfl) rfl (by show 2 * 0 + _ ≤ _; exact Nat.le_of_eq rfl) (hb hby at_171) (fun _ _ => ⟨rfl, e13, (by decide : 2 + 0 ≤ _), (by decide : 56322 + 0 ≤ _)⟩)
  dsimp only [Pt.U, Pt.locs, Pt.cells, Pt.slots] at X14 l14 y14 z14 st14 hQ14
  subst l14 y14 z14
  obtain ⟨r1, rfl, N14q, e14, hr1⟩ := hQ14
  have N14 := Fr.app N13 N14q
  refine RunsTo.of (T' := T14) (g' := (mkF m 174 #[.val (.long x0), .second, .val (.long x2), .second, .val (.long x4), .second, .val (.int x6), .val (.long na), .second, .val (.long nb), .second, .val (.long nc), .second, .val (.ref t), .val (.long pp), .second, .val (.long qq), .second, .val (.long ss), .second, du, dw] [(.long r1)])) (fun _ kt => st14.trans kt) ?_
  refine RunsTo.of (T' := T14) (g' := (mkF m 185 #[.val (.long x0), .second, .val (.long x2), .second, .val (.long x4), .second, .val (.int x6), .val (.long na), .second, .val (.long nb), .second, .val (.long nc), .second, .val (.ref t), .val (.long pp), .second, .val (.long qq), .second, .val (.long ss), .second, du, dw] [(.long (2 : Int64)), (.ref t)])) (fun tgt_ kt => ?_) ?_
  · refine XS.lload X14.here hx rfl (hb hby at_174) rfl ?_
    show Steps p.tables e below (T14.setTop (mkF m 176 #[.val (.long x0), .second, .val (.long x2), .second, .val (.long x4), .second, .val (.int x6), .val (.long na), .second, .val (.long nb), .second, .val (.long nc), .second, .val (.ref t), .val (.long pp), .second, .val (.long qq), .second, .val (.long ss), .second, du, dw] [(.long qq), (.long r1)])) _
    refine XS.lcmp X14.here hx rfl (hb hby at_176) rfl ?_
    show Steps p.tables e below (T14.setTop (mkF m 177 #[.val (.long x0), .second, .val (.long x2), .second, .val (.long x4), .second, .val (.int x6), .val (.long na), .second, .val (.long nb), .second, .val (.long nc), .second, .val (.ref t), .val (.long pp), .second, .val (.long qq), .second, .val (.long ss), .second, du, dw] [(.int (lcmpW r1 qq))])) _
    refine XS.ifNo X14.here hx rfl (hb hby at_177) rfl ((if0 _ _).trans (teq ((lw_eq r1 qq).mpr (show r1 = qq from Int64.toInt_inj.mp (hr1.trans hs1.symm)))).2) ?_
    show Steps p.tables e below (T14.setTop (mkF m 180 #[.val (.long x0), .second, .val (.long x2), .second, .val (.long x4), .second, .val (.int x6), .val (.long na), .second, .val (.long nb), .second, .val (.long nc), .second, .val (.ref t), .val (.long pp), .second, .val (.long qq), .second, .val (.long ss), .second, du, dw] [])) _
    refine XS.aload X14.here hx rfl (hb hby at_180) rfl rfl ?_
    show Steps p.tables e below (T14.setTop (mkF m 182 #[.val (.long x0), .second, .val (.long x2), .second, .val (.long x4), .second, .val (.int x6), .val (.long na), .second, .val (.long nb), .second, .val (.long nc), .second, .val (.ref t), .val (.long pp), .second, .val (.long qq), .second, .val (.long ss), .second, du, dw] [(.ref t)])) _
    refine X14.ldc2Long hx hown (mvT hZ (hw _ (List.mem_of_getElem? (i := 68) rfl))) (g := (mkF m 182 #[.val (.long x0), .second, .val (.long x2), .second, .val (.long x4), .second, .val (.int x6), .val (.long na), .second, .val (.long nb), .second, .val (.long nc), .second, .val (.ref t), .val (.long pp), .second, .val (.long qq), .second, .val (.long ss), .second, du, dw] [(.ref t)])) rfl (hb hby at_182) _ ?_
    show Steps p.tables e below (T14.setTop (mkF m 185 #[.val (.long x0), .second, .val (.long x2), .second, .val (.long x4), .second, .val (.int x6), .val (.long na), .second, .val (.long nb), .second, .val (.long nc), .second, .val (.ref t), .val (.long pp), .second, .val (.long qq), .second, .val (.long ss), .second, du, dw] [(.long (2 : Int64)), (.ref t)])) _
    exact kt
  obtain ⟨cq15, kq15, q15a, q15b, q15c⟩ := isOf hZ e14 E_t
  obtain ⟨_, _, ⟨T15, L15, k15, n15⟩, -, X15, ⟨Lc15, hQ15, l15, y15, z15⟩, st15⟩ := X14.virtualBack hx (y := (⟨"com/example/iron_latch/ironlatch/cli/PairTimes", "at", "(J)J"⟩ : MethodName)) (z := (⟨"com/example/iron_latch/ironlatch/cli/PairTimes", "at", "(J)J"⟩ : MethodName)) hown (mvT hZ (hw _ (List.mem_of_getElem? (i := 60) rfl))) (mvT hZ (hw _ (List.mem_of_getElem? (i := 61) rfl))) (notFace_of_selects (args := #[]) (mvT hZ (hw _ (List.mem_of_getElem? (i := 63) rfl)))) (mvT hZ (hw _ (List.mem_of_getElem? (i := 63) rfl))) (mvT hZ (hw _ (List.mem_of_getElem? (i := 62) rfl))) (by decide) (backOf (W := 0) (rm_at l Z a0 hw [] t 2 a 3 (fun k => own_ind (ia = k) + own_ind (ib = k) + own_ind (ic = k)) (fun k => own_ind (ia < k) + own_ind (ib < k) + own_ind (ic < k)) t2 T8.heap n0 Z8 F_counts_t F_recorded_t V_a ⟨by decide, by decide⟩ (by omega) rfl (fun k hk => ⟨hsum k, by
    show ¬ (2 : Int64) < (own_ind (ia < k) + own_ind (ib < k) + own_ind (ic < k)) + (own_ind (ia = k) + own_ind (ib = k) + own_ind (ic = k))
    rw [← hsum k]
    unfold own_ind
    by_cases a1 : ia < k + 1 <;> by_cases b1 : ib < k + 1 <;> by_cases c1 : ic < k + 1 <;> first | (exfalso; omega) | (simp only [a1, b1, c1, if_true, if_false]; decide)⟩) (by
    show (2 : Int64) < (own_ind (ia < t2) + own_ind (ib < t2) + own_ind (ic < t2)) + (own_ind (ia = t2) + own_ind (ib = t2) + own_ind (ic = t2))
    rw [← hsum t2]
    unfold own_ind
    by_cases a1 : ia < t2 + 1 <;> by_cases b1 : ib < t2 + 1 <;> by_cases c1 : ic < t2 + 1 <;> first | (exfalso; omega) | (simp only [a1, b1, c1, if_true, if_false]; decide))) hZ (hw _ (List.mem_of_getElem? (i := 64) rfl)) (hw _ (List.mem_of_getElem? (i := 12) rfl)) (by decide) (by decide)) q15a q15c (g := (mkF m 185 #[.val (.long x0), .second, .val (.long x2), .second, .val (.long x4), .second, .val (.int x6), .val (.long na), .second, .val (.long nb), .second, .val (.long nc), .second, .val (.ref t), .val (.long pp), .second, .val (.long qq), .second, .val (.long ss), .second, du, dw] [(.long (2 : Int64)), (.ref t)])) rfl (by rw [hml]; rfl) (Steps.refl _) (argsL := [(.long (2 : Int64))]) (rest := []) (lenOf pd_7 rfl) rfl (by show 2 * 0 + _ ≤ _; exact Nat.le_of_eq rfl) (hb hby at_185) (fun _ _ => ⟨rfl, e14, (by decide : 2 + 0 ≤ _), (by decide : 56322 + 0 ≤ _)⟩)
  dsimp only [Pt.U, Pt.locs, Pt.cells, Pt.slots] at X15 l15 y15 z15 st15 hQ15
  subst l15 y15 z15
  obtain ⟨r2, rfl, N15q, e15, hr2⟩ := hQ15
  have N15 := Fr.app N14 N15q
  refine RunsTo.of (T' := T15) (g' := (mkF m 188 #[.val (.long x0), .second, .val (.long x2), .second, .val (.long x4), .second, .val (.int x6), .val (.long na), .second, .val (.long nb), .second, .val (.long nc), .second, .val (.ref t), .val (.long pp), .second, .val (.long qq), .second, .val (.long ss), .second, du, dw] [(.long r2)])) (fun _ kt => st15.trans kt) ?_
  refine RunsTo.of (T' := T15) (g' := (mkF m 199 #[.val (.long x0), .second, .val (.long x2), .second, .val (.long x4), .second, .val (.int x6), .val (.long na), .second, .val (.long nb), .second, .val (.long nc), .second, .val (.ref t), .val (.long pp), .second, .val (.long qq), .second, .val (.long ss), .second, du, dw] [(.int (1 : Int32))])) (fun tgt_ kt => ?_) ?_
  · refine XS.lload X15.here hx rfl (hb hby at_188) rfl ?_
    show Steps p.tables e below (T15.setTop (mkF m 190 #[.val (.long x0), .second, .val (.long x2), .second, .val (.long x4), .second, .val (.int x6), .val (.long na), .second, .val (.long nb), .second, .val (.long nc), .second, .val (.ref t), .val (.long pp), .second, .val (.long qq), .second, .val (.long ss), .second, du, dw] [(.long ss), (.long r2)])) _
    refine XS.lcmp X15.here hx rfl (hb hby at_190) rfl ?_
    show Steps p.tables e below (T15.setTop (mkF m 191 #[.val (.long x0), .second, .val (.long x2), .second, .val (.long x4), .second, .val (.int x6), .val (.long na), .second, .val (.long nb), .second, .val (.long nc), .second, .val (.ref t), .val (.long pp), .second, .val (.long qq), .second, .val (.long ss), .second, du, dw] [(.int (lcmpW r2 ss))])) _
    refine XS.ifNo X15.here hx rfl (hb hby at_191) rfl ((if0 _ _).trans (teq ((lw_eq r2 ss).mpr (show r2 = ss from Int64.toInt_inj.mp (hr2.trans hs2.symm)))).2) ?_
    show Steps p.tables e below (T15.setTop (mkF m 194 #[.val (.long x0), .second, .val (.long x2), .second, .val (.long x4), .second, .val (.int x6), .val (.long na), .second, .val (.long nb), .second, .val (.long nc), .second, .val (.ref t), .val (.long pp), .second, .val (.long qq), .second, .val (.long ss), .second, du, dw] [])) _
    refine XS.iconst X15.here hx rfl (hb hby at_194) ?_
    show Steps p.tables e below (T15.setTop (mkF m 195 #[.val (.long x0), .second, .val (.long x2), .second, .val (.long x4), .second, .val (.int x6), .val (.long na), .second, .val (.long nb), .second, .val (.long nc), .second, .val (.ref t), .val (.long pp), .second, .val (.long qq), .second, .val (.long ss), .second, du, dw] [(.int (1 : Int32))])) _
    refine XS.goto X15.here hx rfl (pc0 := 195) (pc' := 199) rfl (hb hby at_195) (by decide) (by decide) ?_
    show Steps p.tables e below (T15.setTop (mkF m 199 #[.val (.long x0), .second, .val (.long x2), .second, .val (.long x4), .second, .val (.int x6), .val (.long na), .second, .val (.long nb), .second, .val (.long nc), .second, .val (.ref t), .val (.long pp), .second, .val (.long qq), .second, .val (.long ss), .second, du, dw] [(.int (1 : Int32))])) _
    exact kt
  refine RunsTo.retN X15 hx (t := .boolean) Bd.returns (by simp) Bd.notSynchronized (hb hby at_199) ?_ (by decide) (by decide)
  rw [e15]
  exact ⟨rfl, N15⟩
set_option maxRecDepth 65536 in
set_option maxHeartbeats 40000000 in
theorem comes_1 {Post : Tables → Env → Array Value → State → Outcome → State → Prop} (hpost : ∀ tb e args s v u, (limb_1_1.after args s (.returned v) u = true ∧ limb_1_2.after args s (.returned v) u = true ∧ True) → FrameEnd s (.returned v) u (Jvm.fieldLocs frame_1_writes args s ++ Jvm.arrayLocs frame_1_arrays args s ++ Jvm.staticLocs frame_1_statics s) 16 112768 → Post tb e args s (.returned v) u) :
    ArmFor flags0 classFile x code maxLocals ret World_1 tables_1 room_1 Calls_1 rest_1 Pre_1 Post := by
  intro l hfl _ _ p e ha hc hk s m args below hf hA hF happ hP
  obtain ⟨hcalls, hrest, hpre⟩ := hP
  obtain ⟨-, -, -, hnamed, -, -, -, hat⟩ := (Spec.applies_iff hf).mp happ
  obtain ⟨hg, hn⟩ := and_e (Cond.before_iff.mp (show (Jvm.Cond.and given_1 narrow_1).before args s = true from hpre))
  obtain ⟨hcnt, hg0⟩ := and_e hg
  obtain ⟨ha0, hg1⟩ := and_e hg0
  obtain ⟨ha1, hg2⟩ := and_e hg1
  obtain ⟨ha2, hg3⟩ := and_e hg2
  have ha3 := hg3
  obtain ⟨w0, w1, w2, w3, rfl⟩ : ∃ w0 w1 w2 w3 : Value, args = #[w0, w1, w2, w3] := by
    have hs : args.size = 4 := by simpa [Cond.value, given_1] using hcnt
    obtain ⟨L⟩ := args
    match L, hs with
    | [w0, w1, w2, w3], _ => exact ⟨w0, w1, w2, w3, rfl⟩
  have hw := fun d (hd : d ∈ tables_1) => atoms_spec (ws := Jvm.Cond.code x code maxLocals ret :: tables_1) hat d (List.mem_cons_of_mem _ hd)
  have hfit : Fit s := fun {y c} hc i hi => by
    obtain ⟨ha, rfl⟩ := Array.getElem?_eq_some_iff.mp hc
    have q := List.all_eq_true.mp ((Array.all_eq_true_iff_forall_mem.mp hF) _ (Array.getElem_mem ha)) i (List.mem_range.mpr hi)
    simpa [Array.getElem?_eq_getElem hi] using q
  obtain ⟨i0, ei0⟩ := isL_v ha0
  obtain rfl : w0 = (.long i0) := Option.some.inj ei0
  obtain ⟨i1, ei1⟩ := isL_v ha1
  obtain rfl : w1 = (.long i1) := Option.some.inj ei1
  obtain ⟨i2, ei2⟩ := isL_v ha2
  obtain rfl : w2 = (.long i2) := Option.some.inj ei2
  obtain ⟨i3, ei3⟩ := is_v ha3
  obtain rfl : w3 = (.int i3) := Option.some.inj ei3
  obtain ⟨n, o, h1, h2, h3, _, L, rfl, ⟨rfl, N⟩, hq⟩ := rm0 l s _ hw tables_1 i0 i1 i2 i3 s.heap s.heap.size (Nat.le_refl _)  p e ha hc hk s m _ below hf ((Spec.applies_iff_loose hf).mp happ).1 ⟨rfl, State.Warmed39.refl s, rfl⟩ trivial
  refine ⟨n, _, h1, h2, h3, hpost _ _ _ _ _ _ ⟨Cond.after_iff.mpr rfl, Cond.after_iff.mpr (eq_i res_at (Term.int_eval (1)) rfl), trivial⟩ ⟨hq.1, hq.2.1, (hq.2.2.sift fun y hy => Or.inr (N y hy)).mono (by decide) (by decide)⟩⟩
theorem main_1_1 : Claimed_1_1 := comes_1 fun _ _ _ _ _ _ h hF => ⟨h.1, hF⟩
theorem main_1_2 : Claimed_1_2 := comes_1 fun _ _ _ _ _ _ h hF => ⟨h.2.1, hF⟩
end Jvm.Pilot.@@N@@
namespace Jvm.Pilot.@@N@@
open Jvm Jvm.ClassFile Sem Op Lib Jvm.Free Jvm.Stand Jvm.Pilot.@@N@@.Jvm.D
/-! MADE BY PROGRAM (witnessworld.py) out of the Statement's table words and the real class files: 18 classes; the members and pool entries that the words name. The judged class is class 1, her method 4. -/
namespace start1
open Jvm.ClassFile
def u (s : String) : CpInfo := .utf8 (stringToUtf16 s)
/-- a pool by its gaps: so many unusable entries, then the entry; so many at the end -/
def gap : Nat → List CpInfo → List CpInfo
  | 0, r => r
  | n + 1, r => .unusable :: gap n r
def poolList (es : List (Nat × CpInfo)) (last : Nat) : List CpInfo := es.foldr (fun e r => gap e.1 (e.2 :: r)) (gap last [])
def pool (es : List (Nat × CpInfo)) (last : Nat) : Array CpInfo := ⟨poolList es last⟩
def fileOf (pool : Array CpInfo) (this : Nat) (attrs : Array Attribute := #[]) (ms : Array MethodInfo := #[]) (fl : Nat := 33) (sup : Nat := 0) (ifs : Array Nat := #[]) (fds : Array FieldInfo := #[]) : ClassFile where
  minorVersion := 0
  majorVersion := 65
  constantPool := pool
  accessFlags := fl
  thisClass := this
  superClass := sup
  interfaces := ifs
  fields := fds
  methods := ms
  attributes := attrs
def plain (name : String) (sup : Option ClassId) : Class where
  name := name
  kind := .ordinary
  loader := none
  accessFlags := 33
  super := sup
  interfaces := #[]
  cf := none
  fields := #[]
  methods := #[]
  instanceTypes := #[]
  staticTypes := #[]
  resolved := #[]
  callSites := []
  init := .initialized
  statics := none
  mirror := none

def pool0 : Array CpInfo := pool [(5, u "<init>"), (0, u "()V"), (1, .class_ 10), (1, u "java/lang/Object")] 113

def k0c0 : Code := { maxStack := 0, maxLocals := 1, code := object_method_1_code, exceptionTable := #[], attributes := #[] }
def k0m0 : Method := { name := "<init>", desc := "()V", sig := { parameters := [], returnType := none }, accessFlags := 1, code := some k0c0 }
/-- java/lang/Object -/
def k0 : Class := { plain "java/lang/Object" none with
  accessFlags := 33
  interfaces := #[]
  cf := some (fileOf pool0 8 #[] #[{ accessFlags := 1, nameIndex := 5, descriptorIndex := 6, attributes := #[] }] 33 0 #[] #[])
  fields := #[]
  methods := #[k0m0]
  instanceTypes := #[]
  staticTypes := #[]
  resolved := Array.replicate 124 none
  statics := none }

def pool1 : Array CpInfo := pool [(2, .class_ 4), (0, .nameAndType 5 6), (0, u "java/lang/Object"), (0, u "<init>"), (0, u "()V"), (2, .long 9223372036854775807), (1, .long 9223372036854775307), (1, .methodref 14 15), (0, .class_ 16), (0, .nameAndType 17 18), (0, u "java/lang/Math"), (0, u "min"), (0, u "(JJ)J"), (0, .long 500), (1, .long 1000), (1, .long 2048), (1, .methodref 26 27), (0, .class_ 28), (0, .nameAndType 29 30), (0, u "com/example/iron_latch/ironlatch/cli/PairTimesAtPinLaw"), (0, u "bitLength"), (0, u "(J)I"), (0, .methodref 26 32), (0, .nameAndType 33 34), (0, u "nanos"), (0, u "(JI)J"), (0, .class_ 36), (0, u "com/example/iron_latch/ironlatch/cli/PairTimes"), (0, .methodref 35 3), (0, .methodref 35 39), (0, .nameAndType 40 41), (0, u "record"), (0, u "(J)V"), (0, .methodref 26 43), (0, .nameAndType 44 45), (0, u "bucket"), (0, u "(J)J"), (0, .methodref 35 47), (0, .nameAndType 48 49), (0, u "count"), (0, u "()J"), (0, .long 3), (1, .methodref 35 53), (0, .nameAndType 54 45), (0, u "at"), (0, .long 2), (4, u "law"), (0, u "(JJJI)Z")] 2

def k1m0 : Method := { name := "<init>", desc := "()V", sig := { parameters := [], returnType := none }, accessFlags := 1, code := none }
def k1c1 : Code := { maxStack := 4, maxLocals := 5, code := method_2_code, exceptionTable := #[], attributes := #[] }
def k1m1 : Method := { name := "nanos", desc := "(JI)J", sig := { parameters := [.long, .int], returnType := some .long }, accessFlags := 10, code := some k1c1 }
def k1c2 : Code := { maxStack := 4, maxLocals := 5, code := method_3_code, exceptionTable := #[], attributes := #[] }
def k1m2 : Method := { name := "bitLength", desc := "(J)I", sig := { parameters := [.long], returnType := some .int }, accessFlags := 10, code := some k1c2 }
def k1c3 : Code := { maxStack := 4, maxLocals := 5, code := method_4_code, exceptionTable := #[], attributes := #[] }
def k1m3 : Method := { name := "bucket", desc := "(J)J", sig := { parameters := [.long], returnType := some .long }, accessFlags := 10, code := some k1c3 }
def k1c4 : Code := { maxStack := 4, maxLocals := 22, code := code, exceptionTable := #[], attributes := #[] }
def k1m4 : Method := { name := "law", desc := "(JJJI)Z", sig := { parameters := [.long, .long, .long, .int], returnType := some .boolean }, accessFlags := 9, code := some k1c4 }
/-- com/example/iron_latch/ironlatch/cli/PairTimesAtPinLaw -/
def k1 : Class := { plain "com/example/iron_latch/ironlatch/cli/PairTimesAtPinLaw" (some 0) with
  accessFlags := 49
  interfaces := #[]
  cf := some (fileOf pool1 26 #[] #[{ accessFlags := 1, nameIndex := 5, descriptorIndex := 6, attributes := #[] }, { accessFlags := 10, nameIndex := 33, descriptorIndex := 34, attributes := #[] }, { accessFlags := 10, nameIndex := 29, descriptorIndex := 30, attributes := #[] }, { accessFlags := 10, nameIndex := 44, descriptorIndex := 45, attributes := #[] }, { accessFlags := 9, nameIndex := 60, descriptorIndex := 61, attributes := #[] }] 49 2 #[] #[])
  fields := #[]
  methods := #[k1m0, k1m1, k1m2, k1m3, k1m4]
  instanceTypes := #[]
  staticTypes := #[]
  resolved := Array.replicate 64 none
  statics := none }

def pool2 : Array CpInfo := pool [(1, .class_ 2), (0, u "java/lang/Math"), (1, .class_ 6), (1, u "java/lang/Object"), (0, u "<init>"), (0, u "()V"), (89, .class_ 100), (1, u "java/lang/Math$RandomNumberGeneratorHolder"), (20, u "(JJ)J"), (50, u "negativeZeroFloatBits"), (0, u "J"), (2, u "negativeZeroDoubleBits"), (24, u "min"), (43, u "$assertionsDisabled"), (0, u "Z"), (91, u "twoToTheDoubleScaleDown"), (0, u "D"), (4, u "twoToTheDoubleScaleUp"), (9, u "E"), (3, u "PI"), (2, u "TAU"), (2, u "DEGREES_TO_RADIANS"), (0, u "RADIANS_TO_DEGREES")] 94

def k2m0 : Method := { name := "<init>", desc := "()V", sig := { parameters := [], returnType := none }, accessFlags := 2, code := none }
def k2c1 : Code := { maxStack := 4, maxLocals := 4, code := jdk_29_method_70_code, exceptionTable := #[], attributes := #[] }
def k2m1 : Method := { name := "min", desc := "(JJ)J", sig := { parameters := [.long, .long], returnType := some .long }, accessFlags := 9, code := some k2c1 }
/-- java/lang/Math -/
def k2 : Class := { plain "java/lang/Math" (some 0) with
  accessFlags := 49
  interfaces := #[]
  cf := some (fileOf pool2 1 #[.nestMembers #[98]] #[{ accessFlags := 2, nameIndex := 7, descriptorIndex := 8, attributes := #[] }, { accessFlags := 9, nameIndex := 201, descriptorIndex := 121, attributes := #[] }] 49 4 #[] #[{ accessFlags := 25, nameIndex := 354, descriptorIndex := 339, attributes := #[] }, { accessFlags := 25, nameIndex := 358, descriptorIndex := 339, attributes := #[] }, { accessFlags := 25, nameIndex := 361, descriptorIndex := 339, attributes := #[] }, { accessFlags := 26, nameIndex := 364, descriptorIndex := 339, attributes := #[] }, { accessFlags := 26, nameIndex := 365, descriptorIndex := 339, attributes := #[] }, { accessFlags := 26, nameIndex := 172, descriptorIndex := 173, attributes := #[] }, { accessFlags := 26, nameIndex := 176, descriptorIndex := 173, attributes := #[] }, { accessFlags := 8, nameIndex := 344, descriptorIndex := 339, attributes := #[] }, { accessFlags := 8, nameIndex := 338, descriptorIndex := 339, attributes := #[] }, { accessFlags := 4120, nameIndex := 245, descriptorIndex := 246, attributes := #[] }])
  fields := #[{ name := "E", type := .double, accessFlags := 25, slot := 0, constantValue := 0 }, { name := "PI", type := .double, accessFlags := 25, slot := 1, constantValue := 0 }, { name := "TAU", type := .double, accessFlags := 25, slot := 2, constantValue := 0 }, { name := "DEGREES_TO_RADIANS", type := .double, accessFlags := 26, slot := 3, constantValue := 0 }, { name := "RADIANS_TO_DEGREES", type := .double, accessFlags := 26, slot := 4, constantValue := 0 }, { name := "negativeZeroFloatBits", type := .long, accessFlags := 26, slot := 5, constantValue := 0 }, { name := "negativeZeroDoubleBits", type := .long, accessFlags := 26, slot := 6, constantValue := 0 }, { name := "twoToTheDoubleScaleUp", type := .double, accessFlags := 8, slot := 7, constantValue := 0 }, { name := "twoToTheDoubleScaleDown", type := .double, accessFlags := 8, slot := 8, constantValue := 0 }, { name := "$assertionsDisabled", type := .boolean, accessFlags := 4120, slot := 9, constantValue := 0 }]
  methods := #[k2m0, k2m1]
  instanceTypes := #[]
  staticTypes := #[.double, .double, .double, .double, .double, .long, .long, .double, .double, .boolean]
  resolved := Array.replicate 460 none
  statics := none }

def pool3 : Array CpInfo := pool [(1, .class_ 2), (0, u "com/example/iron_latch/ironlatch/cli/PairTimes"), (0, .methodref 4 5), (0, .class_ 6), (0, .nameAndType 7 8), (0, u "java/lang/Object"), (0, u "<init>"), (0, u "()V"), (0, .class_ 10), (0, u "java/lang/Long"), (0, .integer 56320), (0, .fieldref 1 13), (0, .nameAndType 14 15), (0, u "counts"), (0, u "[J"), (0, .long 500), (1, .long 1000), (1, .methodref 1 21), (0, .nameAndType 22 23), (0, u "index"), (0, u "(J)I"), (0, .fieldref 1 25), (0, .nameAndType 26 27), (0, u "recorded"), (0, u "J"), (9, .methodref 1 38), (0, .nameAndType 39 40), (0, u "micros"), (0, u "(I)J"), (0, .long 2048), (1, .methodref 9 44), (0, .nameAndType 45 23), (0, u "numberOfLeadingZeros"), (0, u "EXACT_BITS"), (0, u "I"), (2, u "EXACT"), (1, u "PER_DOUBLING"), (3, u "record"), (0, u "(J)V"), (0, u "count"), (0, u "()J"), (0, u "at"), (0, u "(J)J")] 18

def k3c0 : Code := { maxStack := 2, maxLocals := 1, code := prog_26_method_1_code, exceptionTable := #[], attributes := #[] }
def k3m0 : Method := { name := "<init>", desc := "()V", sig := { parameters := [], returnType := none }, accessFlags := 0, code := some k3c0 }
def k3c1 : Code := { maxStack := 6, maxLocals := 3, code := prog_26_method_2_code, exceptionTable := #[], attributes := #[] }
def k3m1 : Method := { name := "record", desc := "(J)V", sig := { parameters := [.long], returnType := none }, accessFlags := 0, code := some k3c1 }
def k3c2 : Code := { maxStack := 2, maxLocals := 1, code := prog_26_method_3_code, exceptionTable := #[], attributes := #[] }
def k3m2 : Method := { name := "count", desc := "()J", sig := { parameters := [], returnType := some .long }, accessFlags := 0, code := some k3c2 }
def k3c3 : Code := { maxStack := 6, maxLocals := 6, code := prog_26_method_4_code, exceptionTable := #[], attributes := #[] }
def k3m3 : Method := { name := "at", desc := "(J)J", sig := { parameters := [.long], returnType := some .long }, accessFlags := 0, code := some k3c3 }
def k3c4 : Code := { maxStack := 4, maxLocals := 3, code := prog_26_method_5_code, exceptionTable := #[], attributes := #[] }
def k3m4 : Method := { name := "index", desc := "(J)I", sig := { parameters := [.long], returnType := some .int }, accessFlags := 10, code := some k3c4 }
def k3c5 : Code := { maxStack := 3, maxLocals := 2, code := prog_26_method_6_code, exceptionTable := #[], attributes := #[] }
def k3m5 : Method := { name := "micros", desc := "(I)J", sig := { parameters := [.int], returnType := some .long }, accessFlags := 10, code := some k3c5 }
/-- com/example/iron_latch/ironlatch/cli/PairTimes -/
def k3 : Class := { plain "com/example/iron_latch/ironlatch/cli/PairTimes" (some 0) with
  accessFlags := 48
  interfaces := #[]
  cf := some (fileOf pool3 1 #[] #[{ accessFlags := 0, nameIndex := 7, descriptorIndex := 8, attributes := #[] }, { accessFlags := 0, nameIndex := 56, descriptorIndex := 57, attributes := #[] }, { accessFlags := 0, nameIndex := 58, descriptorIndex := 59, attributes := #[] }, { accessFlags := 0, nameIndex := 60, descriptorIndex := 61, attributes := #[] }, { accessFlags := 10, nameIndex := 22, descriptorIndex := 23, attributes := #[] }, { accessFlags := 10, nameIndex := 39, descriptorIndex := 40, attributes := #[] }] 48 4 #[] #[{ accessFlags := 26, nameIndex := 46, descriptorIndex := 47, attributes := #[] }, { accessFlags := 26, nameIndex := 50, descriptorIndex := 47, attributes := #[] }, { accessFlags := 26, nameIndex := 52, descriptorIndex := 47, attributes := #[] }, { accessFlags := 18, nameIndex := 14, descriptorIndex := 15, attributes := #[] }, { accessFlags := 2, nameIndex := 26, descriptorIndex := 27, attributes := #[] }])
  fields := #[{ name := "EXACT_BITS", type := .int, accessFlags := 26, slot := 0, constantValue := 0 }, { name := "EXACT", type := .int, accessFlags := 26, slot := 1, constantValue := 0 }, { name := "PER_DOUBLING", type := .int, accessFlags := 26, slot := 2, constantValue := 0 }, { name := "counts", type := (.array .long), accessFlags := 18, slot := 0, constantValue := 0 }, { name := "recorded", type := .long, accessFlags := 2, slot := 1, constantValue := 0 }]
  methods := #[k3m0, k3m1, k3m2, k3m3, k3m4, k3m5]
  instanceTypes := #[(.array .long), .long]
  staticTypes := #[.int, .int, .int]
  resolved := Array.replicate 80 none
  statics := none }

def pool4 : Array CpInfo := pool [(1, .class_ 2), (0, u "java/io/Serializable"), (0, .class_ 4), (0, u "java/lang/Object")] 2

/-- java/io/Serializable -/
def k4 : Class := { plain "java/io/Serializable" (some 0) with
  accessFlags := 1537
  interfaces := #[]
  cf := some (fileOf pool4 1 #[] #[] 1537 3 #[] #[])
  fields := #[]
  methods := #[]
  instanceTypes := #[]
  staticTypes := #[]
  resolved := Array.replicate 7 none
  statics := none }

def pool5 : Array CpInfo := pool [(2, .class_ 4), (1, u "java/lang/Object"), (0, u "<init>"), (0, u "()V"), (1, .class_ 10), (1, u "java/lang/Number"), (2, .class_ 14), (0, u "java/io/Serializable"), (0, u "serialVersionUID"), (0, u "J")] 20

def k5m0 : Method := { name := "<init>", desc := "()V", sig := { parameters := [], returnType := none }, accessFlags := 1, code := none }
/-- java/lang/Number -/
def k5 : Class := { plain "java/lang/Number" (some 0) with
  accessFlags := 1057
  interfaces := #[4]
  cf := some (fileOf pool5 8 #[] #[{ accessFlags := 1, nameIndex := 5, descriptorIndex := 6, attributes := #[] }] 1057 2 #[13] #[{ accessFlags := 26, nameIndex := 15, descriptorIndex := 16, attributes := #[] }])
  fields := #[{ name := "serialVersionUID", type := .long, accessFlags := 26, slot := 0, constantValue := 0 }]
  methods := #[k5m0]
  instanceTypes := #[]
  staticTypes := #[.long]
  resolved := Array.replicate 37 none
  statics := none }

def pool6 : Array CpInfo := pool [(1, .class_ 2), (0, u "java/lang/Comparable"), (0, .class_ 4), (0, u "java/lang/Object")] 7

/-- java/lang/Comparable -/
def k6 : Class := { plain "java/lang/Comparable" (some 0) with
  accessFlags := 1537
  interfaces := #[]
  cf := some (fileOf pool6 1 #[] #[] 1537 3 #[] #[])
  fields := #[]
  methods := #[]
  instanceTypes := #[]
  staticTypes := #[]
  resolved := Array.replicate 12 none
  statics := none }

def pool7 : Array CpInfo := pool [(1, .class_ 2), (0, u "java/lang/constant/Constable"), (0, .class_ 4), (0, u "java/lang/Object")] 6

/-- java/lang/constant/Constable -/
def k7 : Class := { plain "java/lang/constant/Constable" (some 0) with
  accessFlags := 1537
  interfaces := #[]
  cf := some (fileOf pool7 1 #[] #[] 1537 3 #[] #[])
  fields := #[]
  methods := #[]
  instanceTypes := #[]
  staticTypes := #[]
  resolved := Array.replicate 11 none
  statics := none }

def pool8 : Array CpInfo := pool [(1, .class_ 2), (0, u "java/lang/constant/ConstantDesc"), (0, .class_ 4), (0, u "java/lang/Object")] 32

/-- java/lang/constant/ConstantDesc -/
def k8 : Class := { plain "java/lang/constant/ConstantDesc" (some 0) with
  accessFlags := 1537
  interfaces := #[]
  cf := some (fileOf pool8 1 #[] #[] 1537 3 #[] #[])
  fields := #[]
  methods := #[]
  instanceTypes := #[]
  staticTypes := #[]
  resolved := Array.replicate 37 none
  statics := none }

def pool9 : Array CpInfo := pool [(1, .class_ 2), (0, u "java/lang/Long"), (15, .class_ 20), (1, u "java/lang/Integer"), (79, u "numberOfLeadingZeros"), (0, u "(J)I"), (133, .class_ 237), (1, u "java/lang/Long$LongCache"), (33, .class_ 272), (0, u "java/lang/Number"), (2, u "value"), (0, u "J"), (31, .methodref 18 309), (0, .nameAndType 100 310), (0, u "(I)I"), (50, u "TYPE"), (0, u "Ljava/lang/Class;"), (0, .class_ 364), (0, u "java/lang/Comparable"), (0, .class_ 366), (0, u "java/lang/constant/Constable"), (0, .class_ 368), (0, u "java/lang/constant/ConstantDesc"), (0, u "MIN_VALUE"), (1, u "MAX_VALUE"), (4, u "SIZE"), (0, u "I"), (1, u "BYTES"), (1, u "serialVersionUID")] 142

def k9c0 : Code := { maxStack := 3, maxLocals := 3, code := jdk_35_method_48_code, exceptionTable := #[], attributes := #[] }
def k9m0 : Method := { name := "numberOfLeadingZeros", desc := "(J)I", sig := { parameters := [.long], returnType := some .int }, accessFlags := 9, code := some k9c0 }
/-- java/lang/Long -/
def k9 : Class := { plain "java/lang/Long" (some 5) with
  accessFlags := 49
  interfaces := #[6, 7, 8]
  cf := some (fileOf pool9 1 #[.nestMembers #[235]] #[{ accessFlags := 9, nameIndex := 100, descriptorIndex := 101, attributes := #[] }] 49 271 #[363, 365, 367] #[{ accessFlags := 25, nameIndex := 369, descriptorIndex := 276, attributes := #[] }, { accessFlags := 25, nameIndex := 371, descriptorIndex := 276, attributes := #[] }, { accessFlags := 25, nameIndex := 361, descriptorIndex := 362, attributes := #[] }, { accessFlags := 18, nameIndex := 275, descriptorIndex := 276, attributes := #[] }, { accessFlags := 25, nameIndex := 376, descriptorIndex := 377, attributes := #[] }, { accessFlags := 25, nameIndex := 379, descriptorIndex := 377, attributes := #[] }, { accessFlags := 26, nameIndex := 381, descriptorIndex := 276, attributes := #[] }])
  fields := #[{ name := "MIN_VALUE", type := .long, accessFlags := 25, slot := 0, constantValue := 0 }, { name := "MAX_VALUE", type := .long, accessFlags := 25, slot := 1, constantValue := 0 }, { name := "TYPE", type := (.object "java/lang/Class"), accessFlags := 25, slot := 2, constantValue := 0 }, { name := "value", type := .long, accessFlags := 18, slot := 0, constantValue := 0 }, { name := "SIZE", type := .int, accessFlags := 25, slot := 3, constantValue := 0 }, { name := "BYTES", type := .int, accessFlags := 25, slot := 4, constantValue := 0 }, { name := "serialVersionUID", type := .long, accessFlags := 26, slot := 5, constantValue := 0 }]
  methods := #[k9m0]
  instanceTypes := #[.long]
  staticTypes := #[.long, .long, (.object "java/lang/Class"), .int, .int, .long]
  resolved := Array.replicate 524 none
  statics := none }

def pool10 : Array CpInfo := pool [(1, .class_ 2), (0, u "java/lang/Integer"), (16, u "digits"), (0, u "[C"), (32, u "numberOfLeadingZeros"), (0, u "(I)I"), (30, u "DigitOnes"), (0, u "[B"), (2, u "DigitTens"), (99, .class_ 190), (0, u "java/lang/Integer$IntegerCache"), (3, u "I"), (8, .class_ 204), (0, u "java/lang/Number"), (2, u "value"), (56, .integer 65536), (37, u "TYPE"), (0, u "Ljava/lang/Class;"), (0, .class_ 305), (0, u "java/lang/Comparable"), (0, .class_ 307), (0, u "java/lang/constant/Constable"), (0, .class_ 309), (0, u "java/lang/constant/ConstantDesc"), (0, u "MIN_VALUE"), (1, u "MAX_VALUE"), (3, u "SIZE"), (1, u "BYTES"), (1, u "serialVersionUID"), (0, u "J")] 131

def k10c0 : Code := { maxStack := 3, maxLocals := 2, code := jdk_33_method_47_code, exceptionTable := #[], attributes := #[] }
def k10m0 : Method := { name := "numberOfLeadingZeros", desc := "(I)I", sig := { parameters := [.int], returnType := some .int }, accessFlags := 9, code := some k10c0 }
/-- java/lang/Integer -/
def k10 : Class := { plain "java/lang/Integer" (some 5) with
  accessFlags := 49
  interfaces := #[6, 7, 8]
  cf := some (fileOf pool10 1 #[.nestMembers #[189]] #[{ accessFlags := 9, nameIndex := 53, descriptorIndex := 54, attributes := #[] }] 49 203 #[304, 306, 308] #[{ accessFlags := 25, nameIndex := 310, descriptorIndex := 194, attributes := #[] }, { accessFlags := 25, nameIndex := 312, descriptorIndex := 194, attributes := #[] }, { accessFlags := 25, nameIndex := 302, descriptorIndex := 303, attributes := #[] }, { accessFlags := 24, nameIndex := 19, descriptorIndex := 20, attributes := #[] }, { accessFlags := 24, nameIndex := 89, descriptorIndex := 86, attributes := #[] }, { accessFlags := 24, nameIndex := 85, descriptorIndex := 86, attributes := #[] }, { accessFlags := 18, nameIndex := 207, descriptorIndex := 194, attributes := #[] }, { accessFlags := 25, nameIndex := 316, descriptorIndex := 194, attributes := #[] }, { accessFlags := 25, nameIndex := 318, descriptorIndex := 194, attributes := #[] }, { accessFlags := 26, nameIndex := 320, descriptorIndex := 321, attributes := #[] }])
  fields := #[{ name := "MIN_VALUE", type := .int, accessFlags := 25, slot := 0, constantValue := 0 }, { name := "MAX_VALUE", type := .int, accessFlags := 25, slot := 1, constantValue := 0 }, { name := "TYPE", type := (.object "java/lang/Class"), accessFlags := 25, slot := 2, constantValue := 0 }, { name := "digits", type := (.array .char), accessFlags := 24, slot := 3, constantValue := 0 }, { name := "DigitTens", type := (.array .byte), accessFlags := 24, slot := 4, constantValue := 0 }, { name := "DigitOnes", type := (.array .byte), accessFlags := 24, slot := 5, constantValue := 0 }, { name := "value", type := .int, accessFlags := 18, slot := 0, constantValue := 0 }, { name := "SIZE", type := .int, accessFlags := 25, slot := 6, constantValue := 0 }, { name := "BYTES", type := .int, accessFlags := 25, slot := 7, constantValue := 0 }, { name := "serialVersionUID", type := .long, accessFlags := 26, slot := 8, constantValue := 0 }]
  methods := #[k10m0]
  instanceTypes := #[.int]
  staticTypes := #[.int, .int, (.object "java/lang/Class"), (.array .char), (.array .byte), (.array .byte), .int, .int, .long]
  resolved := Array.replicate 453 none
  statics := none }

def pool11 : Array CpInfo := pool [(1, u "java/lang/Cloneable"), (0, .class_ 1), (0, u "java/lang/Object"), (0, .class_ 3)] 3

/-- java/lang/Cloneable -/
def k11 : Class := { plain "java/lang/Cloneable" (some 0) with
  accessFlags := 1537
  interfaces := #[]
  cf := some (fileOf pool11 2 #[] #[] 1537 4 #[] #[])
  fields := #[]
  methods := #[]
  instanceTypes := #[]
  staticTypes := #[]
  resolved := Array.replicate 8 none
  statics := none }

/-- the primitive byte -/
def k12 : Class := { plain "byte" none with kind := .primitive 'B', accessFlags := 0x411 }
/-- [B -/
def k13 : Class := { plain "[B" (some 0) with kind := .array 12 .byte, interfaces := #[11, 4], accessFlags := 1041 }

/-- the primitive int -/
def k14 : Class := { plain "int" none with kind := .primitive 'I', accessFlags := 0x411 }
/-- [I -/
def k15 : Class := { plain "[I" (some 0) with kind := .array 14 .int, interfaces := #[11, 4], accessFlags := 1041 }

/-- the primitive long -/
def k16 : Class := { plain "long" none with kind := .primitive 'J', accessFlags := 0x411 }
/-- [J -/
def k17 : Class := { plain "[J" (some 0) with kind := .array 16 .long, interfaces := #[11, 4], accessFlags := 1041 }

def heap : Heap := #[]
def classes : Array Class := #[k0, k1, k2, k3, k4, k5, k6, k7, k8, k9, k10, k11, k12, k13, k14, k15, k16, k17]
def interned : List (Array UInt16 × Addr) := []
def slotsUsed : Nat := 0
def theMethod : MethodId := ⟨1, 4⟩
def args0 : Array Value := #[.long 123456789, .long 3, .long 7, .int 1]
def aboutOver (below : List Frame) : State where
  vm := { classes := classes, interned := interned.toArray }
  heap := heap
  slotsUsed := slotsUsed
  threads := #[{ frames := .invoking theMethod args0 :: below }]
def below0 : List Frame := [.native { method := ⟨0, 0⟩, args := #[] }]
def about1 : State := aboutOver below0
def p0 : Program := .bare "" "" ""
def e0 : Env := launch0.env 0 0 0
theorem w_frames : about1.frames = Frame.invoking theMethod args0 :: below0 := rfl
set_option maxRecDepth 65536 in
theorem w_args : argsFit about1.vm theMethod args0 = true := by decide +kernel
set_option maxRecDepth 65536 in
theorem w_heap : heapFits about1 = true := by decide +kernel
set_option maxRecDepth 65536 in
theorem w_runnable : about1.curStatus? = some .runnable := by decide +kernel
set_option maxRecDepth 65536 in
theorem w_alone : about1.alone = true := by decide +kernel
set_option maxRecDepth 65536 in
theorem w_named : about1.methodNamed? x = some theMethod := by decide +kernel
set_option maxRecDepth 65536 in
theorem w_hears : about1.hears theMethod below0 = true := by decide +kernel
set_option maxRecDepth 65536 in
theorem w_ripe : about1.ripe theMethod args0 below0 = true := by decide +kernel
theorem w_running : about1.status = .running := rfl
set_option maxRecDepth 65536 in
theorem w_room : about1.hasRoom e0.platform room_1 = true :=
  launch0.hasRoom_least _ room_1 (by decide +kernel) (by decide +kernel) (by decide +kernel) (by decide +kernel) (by decide +kernel) (by decide +kernel)
theorem allAtoms_all (ts : List Jvm.Cond) (a : Array Jvm.Value) (st : Jvm.State) : (allAtoms ts).before a st = ts.all (fun c => c.before a st) := by
  induction ts with
  | nil => rfl
  | cons c t ih =>
    show (Jvm.Cond.and c (allAtoms t)).before a st = _
    rw [Jvm.Cond.before_and, ih, List.all_cons]
def words1 : List Jvm.Cond := Jvm.Cond.code x code maxLocals ret :: tables_1
/-- a 'code' word, met by the world's own term for the bytes: nothing is compared byte by byte -/
theorem code_word {y : MethodName} {bytes : ByteArray} {mx : Nat} {rt : Option FieldType} {a : Array Value} {s : State} {m : MethodId} {meth : Method} {c : Code} (h1 : s.methodNamed? y = some m) (h2 : s.vm.method? m = some meth) (h3 : meth.code = some c) (h4 : c.code = bytes)
    (h5 : (c.maxLocals == mx && c.exceptionTable.isEmpty && decide (c.maxStack ≤ mostOperands) && decide (meth.sig.returnType = rt) && !meth.locks && decide (parseMethodDescriptor y.desc = some meth.sig)) = true) : (Jvm.Cond.code y bytes mx rt).before a s = true := by
  simp only [Bool.and_eq_true, beq_iff_eq, Bool.not_eq_true', decide_eq_true_eq] at h5
  obtain ⟨⟨⟨⟨⟨g1, g2⟩, g3⟩, g4⟩, g5⟩, g6⟩ := h5
  simp [Cond.before, Cond.holds, Cond.value, h1, h2, h3, h4, g1, g2, g3, g4, g5, g6]
def isCode : Jvm.Cond → Bool
  | .code _ _ _ _ => true
  | _ => false
theorem all_split {L : List Jvm.Cond} {P : Jvm.Cond → Bool} (h1 : L.all (fun c => isCode c || P c) = true) (h2 : ∀ c ∈ L.filter isCode, P c = true) : L.all P = true := by
  refine List.all_eq_true.mpr fun c hc => ?_
  have h := List.all_eq_true.mp h1 c hc
  rcases Bool.eq_false_or_eq_true (isCode c) with hi | hi
  · exact h2 c (List.mem_filter.mpr ⟨hc, hi⟩)
  · simpa [hi] using h
set_option maxRecDepth 65536 in
theorem w_c0 : (Jvm.Cond.code x code maxLocals ret).before args0 about1 = true := code_word (m := ⟨1, 4⟩) (meth := k1m4) (c := k1c4) (by decide +kernel) rfl rfl rfl (by decide +kernel)
set_option maxRecDepth 65536 in
theorem w_c1 : (Jvm.Cond.code ({ cls := "com/example/iron_latch/ironlatch/cli/PairTimesAtPinLaw", name := "nanos", desc := "(JI)J" } : Jvm.MethodName) method_2_code (5 : Nat) (Option.some Jvm.ClassFile.FieldType.long)).before args0 about1 = true := code_word (m := ⟨1, 1⟩) (meth := k1m1) (c := k1c1) (by decide +kernel) rfl rfl rfl (by decide +kernel)
set_option maxRecDepth 65536 in
theorem w_c2 : (Jvm.Cond.code ({ cls := "java/lang/Math", name := "min", desc := "(JJ)J" } : Jvm.MethodName) jdk_29_method_70_code (4 : Nat) (Option.some Jvm.ClassFile.FieldType.long)).before args0 about1 = true := code_word (m := ⟨2, 1⟩) (meth := k2m1) (c := k2c1) (by decide +kernel) rfl rfl rfl (by decide +kernel)
set_option maxRecDepth 65536 in
theorem w_c3 : (Jvm.Cond.code ({ cls := "com/example/iron_latch/ironlatch/cli/PairTimes", name := "<init>", desc := "()V" } : Jvm.MethodName) prog_26_method_1_code (1 : Nat) (Option.none : Option Jvm.ClassFile.FieldType)).before args0 about1 = true := code_word (m := ⟨3, 0⟩) (meth := k3m0) (c := k3c0) (by decide +kernel) rfl rfl rfl (by decide +kernel)
set_option maxRecDepth 65536 in
theorem w_c4 : (Jvm.Cond.code ({ cls := "java/lang/Object", name := "<init>", desc := "()V" } : Jvm.MethodName) object_method_1_code (1 : Nat) (Option.none : Option Jvm.ClassFile.FieldType)).before args0 about1 = true := code_word (m := ⟨0, 0⟩) (meth := k0m0) (c := k0c0) (by decide +kernel) rfl rfl rfl (by decide +kernel)
set_option maxRecDepth 65536 in
theorem w_c5 : (Jvm.Cond.code ({ cls := "com/example/iron_latch/ironlatch/cli/PairTimes", name := "record", desc := "(J)V" } : Jvm.MethodName) prog_26_method_2_code (3 : Nat) (Option.none : Option Jvm.ClassFile.FieldType)).before args0 about1 = true := code_word (m := ⟨3, 1⟩) (meth := k3m1) (c := k3c1) (by decide +kernel) rfl rfl rfl (by decide +kernel)
set_option maxRecDepth 65536 in
theorem w_c6 : (Jvm.Cond.code ({ cls := "com/example/iron_latch/ironlatch/cli/PairTimes", name := "index", desc := "(J)I" } : Jvm.MethodName) prog_26_method_5_code (3 : Nat) (Option.some Jvm.ClassFile.FieldType.int)).before args0 about1 = true := code_word (m := ⟨3, 4⟩) (meth := k3m4) (c := k3c4) (by decide +kernel) rfl rfl rfl (by decide +kernel)
set_option maxRecDepth 65536 in
theorem w_c7 : (Jvm.Cond.code ({ cls := "java/lang/Long", name := "numberOfLeadingZeros", desc := "(J)I" } : Jvm.MethodName) jdk_35_method_48_code (3 : Nat) (Option.some Jvm.ClassFile.FieldType.int)).before args0 about1 = true := code_word (m := ⟨9, 0⟩) (meth := k9m0) (c := k9c0) (by decide +kernel) rfl rfl rfl (by decide +kernel)
set_option maxRecDepth 65536 in
theorem w_c8 : (Jvm.Cond.code ({ cls := "java/lang/Integer", name := "numberOfLeadingZeros", desc := "(I)I" } : Jvm.MethodName) jdk_33_method_47_code (2 : Nat) (Option.some Jvm.ClassFile.FieldType.int)).before args0 about1 = true := code_word (m := ⟨10, 0⟩) (meth := k10m0) (c := k10c0) (by decide +kernel) rfl rfl rfl (by decide +kernel)
set_option maxRecDepth 65536 in
theorem w_c9 : (Jvm.Cond.code ({ cls := "com/example/iron_latch/ironlatch/cli/PairTimesAtPinLaw", name := "bucket", desc := "(J)J" } : Jvm.MethodName) method_4_code (5 : Nat) (Option.some Jvm.ClassFile.FieldType.long)).before args0 about1 = true := code_word (m := ⟨1, 3⟩) (meth := k1m3) (c := k1c3) (by decide +kernel) rfl rfl rfl (by decide +kernel)
set_option maxRecDepth 65536 in
theorem w_c10 : (Jvm.Cond.code ({ cls := "com/example/iron_latch/ironlatch/cli/PairTimesAtPinLaw", name := "bitLength", desc := "(J)I" } : Jvm.MethodName) method_3_code (5 : Nat) (Option.some Jvm.ClassFile.FieldType.int)).before args0 about1 = true := code_word (m := ⟨1, 2⟩) (meth := k1m2) (c := k1c2) (by decide +kernel) rfl rfl rfl (by decide +kernel)
set_option maxRecDepth 65536 in
theorem w_c11 : (Jvm.Cond.code ({ cls := "com/example/iron_latch/ironlatch/cli/PairTimes", name := "count", desc := "()J" } : Jvm.MethodName) prog_26_method_3_code (1 : Nat) (Option.some Jvm.ClassFile.FieldType.long)).before args0 about1 = true := code_word (m := ⟨3, 2⟩) (meth := k3m2) (c := k3c2) (by decide +kernel) rfl rfl rfl (by decide +kernel)
set_option maxRecDepth 65536 in
theorem w_c12 : (Jvm.Cond.code ({ cls := "com/example/iron_latch/ironlatch/cli/PairTimes", name := "at", desc := "(J)J" } : Jvm.MethodName) prog_26_method_4_code (6 : Nat) (Option.some Jvm.ClassFile.FieldType.long)).before args0 about1 = true := code_word (m := ⟨3, 3⟩) (meth := k3m3) (c := k3c3) (by decide +kernel) rfl rfl rfl (by decide +kernel)
set_option maxRecDepth 65536 in
theorem w_c13 : (Jvm.Cond.code ({ cls := "com/example/iron_latch/ironlatch/cli/PairTimes", name := "micros", desc := "(I)J" } : Jvm.MethodName) prog_26_method_6_code (2 : Nat) (Option.some Jvm.ClassFile.FieldType.long)).before args0 about1 = true := code_word (m := ⟨3, 5⟩) (meth := k3m5) (c := k3c5) (by decide +kernel) rfl rfl rfl (by decide +kernel)
def codes1 : List Jvm.Cond := [Jvm.Cond.code x code maxLocals ret, Jvm.Cond.code ({ cls := "com/example/iron_latch/ironlatch/cli/PairTimesAtPinLaw", name := "nanos", desc := "(JI)J" } : Jvm.MethodName) method_2_code (5 : Nat) (Option.some Jvm.ClassFile.FieldType.long), Jvm.Cond.code ({ cls := "java/lang/Math", name := "min", desc := "(JJ)J" } : Jvm.MethodName) jdk_29_method_70_code (4 : Nat) (Option.some Jvm.ClassFile.FieldType.long), Jvm.Cond.code ({ cls := "com/example/iron_latch/ironlatch/cli/PairTimes", name := "<init>", desc := "()V" } : Jvm.MethodName) prog_26_method_1_code (1 : Nat) (Option.none : Option Jvm.ClassFile.FieldType), Jvm.Cond.code ({ cls := "java/lang/Object", name := "<init>", desc := "()V" } : Jvm.MethodName) object_method_1_code (1 : Nat) (Option.none : Option Jvm.ClassFile.FieldType), Jvm.Cond.code ({ cls := "com/example/iron_latch/ironlatch/cli/PairTimes", name := "record", desc := "(J)V" } : Jvm.MethodName) prog_26_method_2_code (3 : Nat) (Option.none : Option Jvm.ClassFile.FieldType), Jvm.Cond.code ({ cls := "com/example/iron_latch/ironlatch/cli/PairTimes", name := "index", desc := "(J)I" } : Jvm.MethodName) prog_26_method_5_code (3 : Nat) (Option.some Jvm.ClassFile.FieldType.int), Jvm.Cond.code ({ cls := "java/lang/Long", name := "numberOfLeadingZeros", desc := "(J)I" } : Jvm.MethodName) jdk_35_method_48_code (3 : Nat) (Option.some Jvm.ClassFile.FieldType.int), Jvm.Cond.code ({ cls := "java/lang/Integer", name := "numberOfLeadingZeros", desc := "(I)I" } : Jvm.MethodName) jdk_33_method_47_code (2 : Nat) (Option.some Jvm.ClassFile.FieldType.int), Jvm.Cond.code ({ cls := "com/example/iron_latch/ironlatch/cli/PairTimesAtPinLaw", name := "bucket", desc := "(J)J" } : Jvm.MethodName) method_4_code (5 : Nat) (Option.some Jvm.ClassFile.FieldType.long), Jvm.Cond.code ({ cls := "com/example/iron_latch/ironlatch/cli/PairTimesAtPinLaw", name := "bitLength", desc := "(J)I" } : Jvm.MethodName) method_3_code (5 : Nat) (Option.some Jvm.ClassFile.FieldType.int), Jvm.Cond.code ({ cls := "com/example/iron_latch/ironlatch/cli/PairTimes", name := "count", desc := "()J" } : Jvm.MethodName) prog_26_method_3_code (1 : Nat) (Option.some Jvm.ClassFile.FieldType.long), Jvm.Cond.code ({ cls := "com/example/iron_latch/ironlatch/cli/PairTimes", name := "at", desc := "(J)J" } : Jvm.MethodName) prog_26_method_4_code (6 : Nat) (Option.some Jvm.ClassFile.FieldType.long), Jvm.Cond.code ({ cls := "com/example/iron_latch/ironlatch/cli/PairTimes", name := "micros", desc := "(I)J" } : Jvm.MethodName) prog_26_method_6_code (2 : Nat) (Option.some Jvm.ClassFile.FieldType.long)]
set_option maxRecDepth 65536 in
theorem codes_eq : words1.filter isCode = codes1 := rfl
theorem w_codes : ∀ c ∈ words1.filter isCode, c.before args0 about1 = true := by
  rw [codes_eq]
  intro c hc
  simp only [codes1, List.mem_cons, List.not_mem_nil, or_false] at hc
  rcases hc with rfl | rfl | rfl | rfl | rfl | rfl | rfl | rfl | rfl | rfl | rfl | rfl | rfl | rfl
  · exact w_c0
  · exact w_c1
  · exact w_c2
  · exact w_c3
  · exact w_c4
  · exact w_c5
  · exact w_c6
  · exact w_c7
  · exact w_c8
  · exact w_c9
  · exact w_c10
  · exact w_c11
  · exact w_c12
  · exact w_c13
set_option maxRecDepth 65536 in
theorem w_t1 : (words1.take 24).all (fun c => isCode c || c.before args0 about1) = true := by decide +kernel
set_option maxRecDepth 65536 in
theorem w_t2 : ((words1.drop 24).take 24).all (fun c => isCode c || c.before args0 about1) = true := by decide +kernel
set_option maxRecDepth 65536 in
theorem w_t3 : ((words1.drop 24).drop 24).all (fun c => isCode c || c.before args0 about1) = true := by decide +kernel
theorem w_tables : (allAtoms (Jvm.Cond.code x code maxLocals ret :: tables_1)).before args0 about1 = true := by
  rw [allAtoms_all]
  show words1.all (fun c => c.before args0 about1) = true
  refine all_split ?_ w_codes
  rw [← List.take_append_drop 24 words1, List.all_append, w_t1, ← List.take_append_drop 24 (words1.drop 24), List.all_append, w_t2, w_t3]
  rfl
set_option maxRecDepth 65536 in
theorem w_case : (Jvm.Cond.and given_1 narrow_1).before args0 about1 = true := by decide +kernel
theorem w_applies : (headSpec (Jvm.Cond.code x code maxLocals ret :: tables_1) room_1).applies x e0.platform about1 = true :=
  (Spec.applies_iff w_frames).mpr ⟨w_running, w_runnable, w_alone, w_named, w_hears, w_ripe, w_room, w_tables⟩
theorem atStart : AtStart classFile x code maxLocals ret World_1 tables_1 room_1 Calls_1 rest_1 Pre_1 launch0 p0 e0 about1 theMethod args0 below0 :=
  ⟨lists_1, trivial, launch0.admits_env _ _ _, launch0.least_env, fairChoices_fair.cas, fairChoices_fair.clock, w_frames, w_args, w_heap, w_applies, trivial, trivial, w_case⟩
end start1
theorem witness_1 : WitnessClaimed_1 := ⟨start1.p0, start1.e0, start1.about1, start1.theMethod, start1.args0, start1.below0, start1.atStart⟩
end Jvm.Pilot.@@N@@
