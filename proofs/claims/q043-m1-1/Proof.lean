import JvmDerived
import JvmDerived.Pilot.@@N@@Statement
import JvmDerived.Pilot.@@N@@Code
set_option linter.unusedVariables false
set_option linter.unusedSimpArgs false
namespace Jvm.RoadKit
open Sem ClassFile Op Lib Jvm.Stand Jvm.Free Jvm.LawKit
section OwnEnds
variable {p : Program} {l : Launch} {e : Env} {R : Room} {s : State} {m : MethodId} {args : Array Value} {below : List Frame} {meth : Method} {c : Code} {T T' : State} {locs : List Loc} {cells slots : Nat} {g g' : JFrame} {Q : Option Value → Heap → List Loc → Prop} {C N : Nat}
/-- from here (the state T, the frame g on top) the run ends, and what it leaves is Q -/
def RunsTo (p : Program) (e : Env) (below : List Frame) (s T : State) (g : JFrame) (Q : Option Value → Heap → List Loc → Prop) (C N : Nat) : Prop :=
  ∃ U o, Steps p.tables e below (T.setTop g) U ∧ U.status = .running ∧ Ended U below o ∧ ∃ v L, o = .returned v ∧ Q v U.heap L ∧ FrameEnd s o U L C N
theorem RunsTo.of (k : ∀ t, Steps p.tables e below (T'.setTop g') t → Steps p.tables e below (T.setTop g) t) (h : RunsTo p e below s T' g' Q C N) : RunsTo p e below s T g Q C N := by
  obtain ⟨U, o, k1, r⟩ := h
  exact ⟨U, o, k U k1, r⟩
theorem RunsTo.start (q : g = g') (h : RunsTo p e below s T g' Q C N) : ∃ U o, Steps p.tables e below (T.setTop g) U ∧ U.status = .running ∧ Ended U below o ∧ ∃ v L, o = .returned v ∧ Q v U.heap L ∧ FrameEnd s o U L C N := by
  subst q; exact h
theorem RunsTo.leave (X : Stand p l e R s m args below meth c T locs cells slots) {v : Option Value} (hv : meth.sig.returnType = none → v = none) (hlocks : meth.locks = false) (hq : Q v T.heap locs) (hC : cells ≤ C) (hN : slots ≤ N)
    (k : ∀ fs, (∀ (f : JFrame) (acts : List Action), f.method = m → f.locked = none → f.entered = [] → (doReturn e (T.setTop f) acts v).1 = T.setFrames fs) → Steps p.tables e below (T.setTop g) (T.setFrames fs)) : RunsTo p e below s T g Q C N := by
  obtain ⟨fs, hr, hrun, hended, hW, hsame⟩ := X.leave (v := v) hv hlocks
  exact ⟨_, _, k fs hr, hrun, hended, v, _, rfl, hq, ⟨_, rfl⟩, hW, hsame.mono hC hN⟩
theorem RunsTo.retI (X : Stand p l e R s m args below meth c T locs cells slots) (hx : p.tables.exec = Jvm.exec) {pc : Nat} {Ls : Array Slot} {z : Int32} {rest : List Value} (hret : meth.sig.returnType = some .int) (hlocks : meth.locks = false) (hd : decode c.code pc = .ok (.ireturn, 1)) (hq : Q (some (.int z)) T.heap locs) (hC : cells ≤ C) (hN : slots ≤ N) :
    RunsTo p e below s T (mkF m pc Ls (.int z :: rest)) Q C N := by
  refine RunsTo.leave X (fun h => by rw [hret] at h; cases h) hlocks hq hC hN fun fs hl => ?_
  have hm' : T.vm.method? m = some meth := X.method'
  have hn : narrow .int (.int z) = .int z := rfl
  show Steps p.tables e below (T.setTop { method := m, pc := pc, locals := Ls, stack := _ :: rest, locked := none }) _
  jvm_step X.here [X.here.top, hx, hd, hm', hret, hn]
  first | (intro acts; rw [hl _ acts rfl rfl rfl]) | rw [hl _ _ rfl rfl rfl]
  exact Steps.refl _
theorem RunsTo.retJ (X : Stand p l e R s m args below meth c T locs cells slots) (hx : p.tables.exec = Jvm.exec) {pc : Nat} {Ls : Array Slot} {z : Int64} {rest : List Value} (hret : meth.sig.returnType = some .long) (hlocks : meth.locks = false) (hd : decode c.code pc = .ok (.lreturn, 1)) (hq : Q (some (.long z)) T.heap locs) (hC : cells ≤ C) (hN : slots ≤ N) :
    RunsTo p e below s T (mkF m pc Ls (.long z :: rest)) Q C N := by
  refine RunsTo.leave X (fun h => by rw [hret] at h; cases h) hlocks hq hC hN fun fs hl => ?_
  have hm' : T.vm.method? m = some meth := X.method'
  show Steps p.tables e below (T.setTop { method := m, pc := pc, locals := Ls, stack := _ :: rest, locked := none }) _
  jvm_step X.here [X.here.top, hx, hd, hm', hret, narrow]
  first | (intro acts; rw [hl _ acts rfl rfl rfl]) | rw [hl _ _ rfl rfl rfl]
  exact Steps.refl _
theorem RunsTo.retA (X : Stand p l e R s m args below meth c T locs cells slots) (hx : p.tables.exec = Jvm.exec) {pc : Nat} {Ls : Array Slot} {z : Value} {ty : FieldType} (hret : meth.sig.returnType = some ty) (hty : ty.isReference = true) (hz : z.isRef = true) (hlocks : meth.locks = false) (hd : decode c.code pc = .ok (.areturn, 1)) (hq : Q (some z) T.heap locs) (hC : cells ≤ C) (hN : slots ≤ N) :
    RunsTo p e below s T (mkF m pc Ls [z]) Q C N :=
  RunsTo.leave X (fun h => by rw [hret] at h; cases h) hlocks hq hC hN fun fs hl => X.areturnOut hx hz hret hty hd hl
theorem RunsTo.retN (X : Stand p l e R s m args below meth c T locs cells slots) (hx : p.tables.exec = Jvm.exec) {pc : Nat} {Ls : Array Slot} {z : Int32} {t : FieldType} {rest : List Value} (hret : meth.sig.returnType = some t) (ht : t = .boolean ∨ t = .byte ∨ t = .char ∨ t = .short) (hlocks : meth.locks = false) (hd : decode c.code pc = .ok (.ireturn, 1)) (hq : Q (some (.int (nar t z))) T.heap locs) (hC : cells ≤ C) (hN : slots ≤ N) :
    RunsTo p e below s T (mkF m pc Ls (.int z :: rest)) Q C N :=
  RunsTo.leave X (fun h => by rw [hret] at h; cases h) hlocks hq hC hN fun fs hl => Jvm.RoadKit.retN X hx hret ht hd hl
theorem RunsTo.retV (X : Stand p l e R s m args below meth c T locs cells slots) (hx : p.tables.exec = Jvm.exec) {pc : Nat} {Ls : Array Slot} (hret : meth.sig.returnType = none) (hlocks : meth.locks = false) (hd : decode c.code pc = .ok (.return_, 1)) (hq : Q none T.heap locs) (hC : cells ≤ C) (hN : slots ≤ N) :
    RunsTo p e below s T (mkF m pc Ls []) Q C N :=
  RunsTo.leave X (fun _ => rfl) hlocks hq hC hN fun fs hl => X.returnOut hx hret hd hl
end OwnEnds
theorem nar_ref (ty : FieldType) {v : Value} (hv : v.isRef = true) : narrow ty v = v := by rcases ref_cases hv with rfl | ⟨a, rfl⟩ <;> cases ty <;> rfl
theorem fits_ref' {ty : FieldType} {v : Value} (h : ty.isReference = true) (hv : v.isRef = true) : fits ty v = true := by rcases ref_cases hv with rfl | ⟨a, rfl⟩ <;> cases ty <;> simp_all [fits, FieldType.isReference]
section OwnArf
variable {Z : State} {h h' : Heap} {a b : Addr} {c : Cell} {k : ClassId} {ty : FieldType} {z j : Int32} {f f' : Nat → Value} {v : Value} {sl : Nat} {ws : List Addr}
/-- an array: its kind, its length z, and what each place holds -/
def Arf (Z : State) (h : Heap) (a : Addr) (ty : FieldType) (z : Int32) (f : Nat → Value) : Prop := ∃ c : Cell, Arr Z h a c ty ∧ c.slots.size = z.toNatClampNeg ∧ ¬ z < 0 ∧ ∀ j, j < c.slots.size → c.slots[j]? = some (f j)
theorem Arf.lt (F : Arf Z h a ty z f) : a < h.size := by obtain ⟨c, A, -⟩ := F; exact A.lt
theorem Arf.ext (F : Arf Z h a ty z f) (E : Ext h h') : Arf Z h' a ty z f := by obtain ⟨c, A, r⟩ := F; exact ⟨c, A.ext E, r⟩
theorem Arf.other (F : Arf Z h b ty z f) (W : Wr h h' a sl v) (q : b ≠ a) : Arf Z h' b ty z f := by obtain ⟨c, A, r⟩ := F; exact ⟨c, A.other W q, r⟩
theorem Arf.keep (F : Arf Z h a ty z f) (K : Keep h h' ws) (q : a ∉ ws) : Arf Z h' a ty z f := by obtain ⟨c, A, r⟩ := F; exact ⟨c, ⟨K.2.1 a c A.1 q, A.2⟩, r⟩
theorem Arf.new (A : Arr Z h a (newA k ty z) ty) (q : ¬ z < 0) : Arf Z h a ty z (fun _ => defaultValue ty) := ⟨_, A, sz_new _ _ _, q, fun i hi => by rw [sz_new] at hi; simp [newA, hi]⟩
theorem Arf.congr (F : Arf Z h a ty z f) (q : ∀ i, i < z.toNatClampNeg → f i = f' i) : Arf Z h a ty z f' := by
  obtain ⟨c, A, S, M, H⟩ := F
  exact ⟨c, A, S, M, fun i hi => by rw [← q i (S ▸ hi)]; exact H i hi⟩
theorem Arf.set (A : Arr Z h a c ty) (S : c.slots.size = z.toNatClampNeg) (M : ¬ z < 0) (H : ∀ i, i < c.slots.size → c.slots[i]? = some (f i)) (W : Wr h h' a j.toNatClampNeg v) : Arf Z h' a ty z (fun i => if i = j.toNatClampNeg then v else f i) := by
  refine ⟨_, A.same W, by rw [sz_set]; exact S, M, fun i hi => ?_⟩
  rw [sz_set] at hi
  by_cases u : i = j.toNatClampNeg
  · subst u
    simp [Cell.setSlot, hi]
  · have : (c.setSlot j.toNatClampNeg v).slots[i]? = c.slots[i]? := by
      simp only [Cell.setSlot]; exact Array.getElem?_setIfInBounds_ne (Ne.symm u)
    rw [this]; show _ = some (if i = j.toNatClampNeg then v else f i); rw [if_neg u]; exact H i hi
end OwnArf
end Jvm.RoadKit
namespace Jvm.Pilot.@@N@@
open Jvm Jvm.ClassFile Sem Op Lib Jvm.Free Jvm.Stand Jvm.LawKit Jvm.RoadKit Bundle Jvm.Pilot.@@N@@.Jvm.D
/-! the plain law -/
def own_char (c : Int32) : Int32 := if (97 ≤ c.toInt ∧ c.toInt ≤ 122) ∨ (65 ≤ c.toInt ∧ c.toInt ≤ 90) ∨ (48 ≤ c.toInt ∧ c.toInt ≤ 57) ∨ c.toInt = 95 ∨ c.toInt = 39 ∨ c.toInt = 46 ∨ c.toInt = 45 then 1 else 0
theorem own_or32 (c : Int32) : (c.toInt / 32 % 2 = 1 ∧ (c ||| 32).toInt = c.toInt) ∨ (c.toInt / 32 % 2 = 0 ∧ c.toInt + 32 < 2147483648 ∧ (c ||| 32).toInt = c.toInt + 32) := by
  have e1 : c.toInt = c.toBitVec.toInt := rfl
  have e2 : (c ||| 32).toInt = (c.toBitVec ||| 32#32).toInt := rfl
  rw [e1, e2]
  generalize c.toBitVec = b
  have hb := b.isLt
  have ht : b.getLsbD 5 = decide (b.toNat / 32 % 2 = 1) := by
    rw [BitVec.getLsbD, Nat.testBit_eq_decide_div_mod_eq]
  have hi := BitVec.toInt_eq_toNat_cond b
  by_cases h : b.getLsbD 5
  · left
    have : b ||| 32#32 = b := by
      ext i hi'
      rw [BitVec.getElem_or]
      by_cases h5 : i = 5
      · subst h5; rw [BitVec.getLsbD_eq_getElem (by decide)] at h; simp [h]
      · have : (32#32)[i] = false := by
          have : ∀ i : Fin 32, i.val ≠ 5 → (32#32).getLsbD i.val = false := by decide
          have := this ⟨i, hi'⟩ h5
          rwa [BitVec.getLsbD_eq_getElem hi'] at this
        simp [this]
    rw [this]
    rw [h] at ht
    have h32 : b.toNat / 32 % 2 = 1 := of_decide_eq_true ht.symm
    refine ⟨?_, rfl⟩
    rw [hi]; split <;> omega
  · right
    have hz : b &&& 32#32 = 0#32 := by
      ext i hi'
      rw [BitVec.getElem_and]
      by_cases h5 : i = 5
      · subst h5; rw [BitVec.getLsbD_eq_getElem (by decide)] at h; simp [h]
      · have : (32#32)[i] = false := by
          have : ∀ i : Fin 32, i.val ≠ 5 → (32#32).getLsbD i.val = false := by decide
          have := this ⟨i, hi'⟩ h5
          rwa [BitVec.getLsbD_eq_getElem hi'] at this
        simp [this]
    rw [← BitVec.add_eq_or_of_and_eq_zero _ _ hz]
    have h32 : b.toNat / 32 % 2 ≠ 1 := by
      intro q; rw [decide_eq_true q] at ht; exact h ht
    have hs := BitVec.toInt_eq_toNat_cond (b + 32#32)
    have hn : (b + 32#32).toNat = (b.toNat + 32) % 2 ^ 32 := by rw [BitVec.toNat_add]; rfl
    rw [hi, hs, hn]
    refine ⟨?_, ?_, ?_⟩ <;> (repeat' split) <;> omega
theorem own_digit (c : Int32) : (0 ≤ (c ^^^ 48).toInt ∧ (c ^^^ 48).toInt ≤ 9) ↔ (48 ≤ c.toInt ∧ c.toInt ≤ 57) := by
  have hof : ∀ x : Int32, Int32.ofInt x.toInt = x := fun x => Int32.ofInt_toInt x
  have hcc : (c ^^^ 48) ^^^ 48 = c := by rw [Int32.xor_assoc, Int32.xor_self, Int32.xor_zero]
  constructor
  · intro ⟨h1, h2⟩
    generalize c ^^^ 48 = d at *
    have e := hof d
    rw [← hcc, ← e]
    generalize d.toInt = k at *
    have : k = 0 ∨ k = 1 ∨ k = 2 ∨ k = 3 ∨ k = 4 ∨ k = 5 ∨ k = 6 ∨ k = 7 ∨ k = 8 ∨ k = 9 := by omega
    rcases this with rfl | rfl | rfl | rfl | rfl | rfl | rfl | rfl | rfl | rfl <;> decide
  · intro ⟨h1, h2⟩
    have e := hof c
    rw [← e]
    clear hcc e
    generalize c.toInt = k at *
    have : k = 48 ∨ k = 49 ∨ k = 50 ∨ k = 51 ∨ k = 52 ∨ k = 53 ∨ k = 54 ∨ k = 55 ∨ k = 56 ∨ k = 57 := by omega
    rcases this with rfl | rfl | rfl | rfl | rfl | rfl | rfl | rfl | rfl | rfl <;> decide
theorem d1_0 : decode prog_39_method_2_code 0 = .ok (.iload_n 0, 1) := by decide +kernel
theorem d1_1 : decode prog_39_method_2_code 1 = .ok (.bipush 97, 2) := by decide +kernel
theorem d1_3 : decode prog_39_method_2_code 3 = .ok (.if_icmp .lt 9, 3) := by decide +kernel
theorem d1_12 : decode prog_39_method_2_code 12 = .ok (.iload_n 0, 1) := by decide +kernel
theorem d1_13 : decode prog_39_method_2_code 13 = .ok (.bipush 65, 2) := by decide +kernel
theorem d1_15 : decode prog_39_method_2_code 15 = .ok (.if_icmp .lt 9, 3) := by decide +kernel
theorem d1_24 : decode prog_39_method_2_code 24 = .ok (.iload_n 0, 1) := by decide +kernel
theorem d1_25 : decode prog_39_method_2_code 25 = .ok (.bipush 48, 2) := by decide +kernel
theorem d1_27 : decode prog_39_method_2_code 27 = .ok (.if_icmp .lt 9, 3) := by decide +kernel
theorem d1_36 : decode prog_39_method_2_code 36 = .ok (.iload_n 0, 1) := by decide +kernel
theorem d1_37 : decode prog_39_method_2_code 37 = .ok (.bipush 95, 2) := by decide +kernel
theorem d1_39 : decode prog_39_method_2_code 39 = .ok (.if_icmp .eq 21, 3) := by decide +kernel
theorem d1_60 : decode prog_39_method_2_code 60 = .ok (.iconst 1, 1) := by decide +kernel
theorem d1_61 : decode prog_39_method_2_code 61 = .ok (.goto 4, 3) := by decide +kernel
theorem d1_42 : decode prog_39_method_2_code 42 = .ok (.iload_n 0, 1) := by decide +kernel
theorem d1_43 : decode prog_39_method_2_code 43 = .ok (.bipush 39, 2) := by decide +kernel
theorem d1_45 : decode prog_39_method_2_code 45 = .ok (.if_icmp .eq 15, 3) := by decide +kernel
theorem d1_48 : decode prog_39_method_2_code 48 = .ok (.iload_n 0, 1) := by decide +kernel
theorem d1_49 : decode prog_39_method_2_code 49 = .ok (.bipush 46, 2) := by decide +kernel
theorem d1_51 : decode prog_39_method_2_code 51 = .ok (.if_icmp .eq 9, 3) := by decide +kernel
theorem d1_54 : decode prog_39_method_2_code 54 = .ok (.iload_n 0, 1) := by decide +kernel
theorem d1_55 : decode prog_39_method_2_code 55 = .ok (.bipush 45, 2) := by decide +kernel
theorem d1_57 : decode prog_39_method_2_code 57 = .ok (.if_icmp .ne 7, 3) := by decide +kernel
theorem d1_64 : decode prog_39_method_2_code 64 = .ok (.iconst 0, 1) := by decide +kernel
theorem d1_30 : decode prog_39_method_2_code 30 = .ok (.iload_n 0, 1) := by decide +kernel
theorem d1_31 : decode prog_39_method_2_code 31 = .ok (.bipush 57, 2) := by decide +kernel
theorem d1_33 : decode prog_39_method_2_code 33 = .ok (.if_icmp .le 27, 3) := by decide +kernel
theorem d1_18 : decode prog_39_method_2_code 18 = .ok (.iload_n 0, 1) := by decide +kernel
theorem d1_19 : decode prog_39_method_2_code 19 = .ok (.bipush 90, 2) := by decide +kernel
theorem d1_21 : decode prog_39_method_2_code 21 = .ok (.if_icmp .le 39, 3) := by decide +kernel
theorem d1_6 : decode prog_39_method_2_code 6 = .ok (.iload_n 0, 1) := by decide +kernel
theorem d1_7 : decode prog_39_method_2_code 7 = .ok (.bipush 122, 2) := by decide +kernel
theorem d1_9 : decode prog_39_method_2_code 9 = .ok (.if_icmp .le 51, 3) := by decide +kernel
theorem d1_65 : decode prog_39_method_2_code 65 = .ok (.ireturn, 1) := by decide +kernel
theorem pn_0 : plainName "com/example/libxducer/libxducer/Names" = true := by first | (simp [plainName, overriddenIn]; done) | decide +kernel
theorem ef_rm1 (m : MethodId) (x0 : Int32) : entryFrame m #[(.int x0)] 1 = mkF m 0 #[.val (.int x0)] [] := by first | (simp [entryFrame, mkF, argsToLocals, Value.category]; done) | rfl
def Q1 (Z : State) (x0 : Int32) (h0 : Heap) (n0 : Nat) (v : Option Value) (h : Heap) (L : List Loc) : Prop := v = some (.int (own_char x0)) ∧ Fr n0 L ∧ h = h0
set_option maxRecDepth 65536 in
set_option maxHeartbeats 40000000 in
theorem rm1 (l : Launch) (Z : State) (a0 : Array Value) (hw : ∀ d ∈ tables_1, d.before a0 Z = true) (ws : List Jvm.Cond) (x0 : Int32) (h0 : Heap) (n0 : Nat) (Z0 : n0 ≤ h0.size)  :
    MetFree l (⟨"com/example/libxducer/libxducer/Names", "isNameChar", "(I)Z"⟩ : MethodName) (head1 (Jvm.Cond.code (⟨"com/example/libxducer/libxducer/Names", "isNameChar", "(I)Z"⟩ : MethodName) prog_39_method_2_code 1 (some .boolean) :: ws) ({ frames := 0, cells := 0, slots := 0, locals := 0 } : Room)) (fun as' U => as' = #[(.int x0)] ∧ Z.Warmed39 U.vm ∧ U.heap = h0) (fun _ _ _ _ _ => True) (fun _ U o U' => ∃ v L, o = .returned v ∧ Q1 Z x0 h0 n0 v U'.heap L ∧ FrameEnd U o U' L ({ frames := 0, cells := 0, slots := 0, locals := 0 } : Room).cells ({ frames := 0, cells := 0, slots := 0, locals := 0 } : Room).slots) := by
  refine MetFree.of_bodySF (plainFor_of_name pn_0) hisR ?_
  intro p e s m args below meth c s₁ Bd hml0 hP hK
  obtain ⟨rfl, hZ, hh⟩ := hP
  have hx := Bd.exec
  have hby := Bd.bytes
  have hml : c.maxLocals = 1 := hml0
  have hown : s.vm.findClass "com/example/libxducer/libxducer/Names" = some m.cls := findClass_of_methodNamed Bd.named
  have hnm := (name_of_methodNamed Bd.named Bd.method).1
  have X0 : Stand p l e ({ frames := 0, cells := 0, slots := 0, locals := 0 } : Room) s m #[(.int x0)] below meth c s₁ [] 0 0 := Stand.of_body Bd
  have e0 : s₁.heap = h0 := by rw [← hh, Bd.state]; rfl
  have N0 := Fr.nil n0
  refine RunsTo.start (ef_rm1 m x0) ?_
  show RunsTo p e below s s₁ (mkF m 0 #[.val (.int x0)] []) (Q1 Z x0 h0 n0) ({ frames := 0, cells := 0, slots := 0, locals := 0 } : Room).cells ({ frames := 0, cells := 0, slots := 0, locals := 0 } : Room).slots
  obtain ⟨y, hy⟩ : ∃ z : Int32, z = (if x0 < (97 : Int32) then (if x0 < (65 : Int32) then (if x0 < (48 : Int32) then (if x0 = (95 : Int32) then (1 : Int32) else (if x0 = (39 : Int32) then (1 : Int32) else (if x0 = (46 : Int32) then (1 : Int32) else (if x0 = (45 : Int32) then (1 : Int32) else (0 : Int32))))) else (if (57 : Int32) < x0 then (if x0 = (95 : Int32) then (1 : Int32) else (if x0 = (39 : Int32) then (1 : Int32) else (if x0 = (46 : Int32) then (1 : Int32) else (if x0 = (45 : Int32) then (1 : Int32) else (0 : Int32))))) else (1 : Int32))) else (if (90 : Int32) < x0 then (if x0 < (48 : Int32) then (if x0 = (95 : Int32) then (1 : Int32) else (if x0 = (39 : Int32) then (1 : Int32) else (if x0 = (46 : Int32) then (1 : Int32) else (if x0 = (45 : Int32) then (1 : Int32) else (0 : Int32))))) else (if (57 : Int32) < x0 then (if x0 = (95 : Int32) then (1 : Int32) else (if x0 = (39 : Int32) then (1 : Int32) else (if x0 = (46 : Int32) then (1 : Int32) else (if x0 = (45 : Int32) then (1 : Int32) else (0 : Int32))))) else (1 : Int32))) else (1 : Int32))) else (if (122 : Int32) < x0 then (if x0 < (65 : Int32) then (if x0 < (48 : Int32) then (if x0 = (95 : Int32) then (1 : Int32) else (if x0 = (39 : Int32) then (1 : Int32) else (if x0 = (46 : Int32) then (1 : Int32) else (if x0 = (45 : Int32) then (1 : Int32) else (0 : Int32))))) else (if (57 : Int32) < x0 then (if x0 = (95 : Int32) then (1 : Int32) else (if x0 = (39 : Int32) then (1 : Int32) else (if x0 = (46 : Int32) then (1 : Int32) else (if x0 = (45 : Int32) then (1 : Int32) else (0 : Int32))))) else (1 : Int32))) else (if (90 : Int32) < x0 then (if x0 < (48 : Int32) then (if x0 = (95 : Int32) then (1 : Int32) else (if x0 = (39 : Int32) then (1 : Int32) else (if x0 = (46 : Int32) then (1 : Int32) else (if x0 = (45 : Int32) then (1 : Int32) else (0 : Int32))))) else (if (57 : Int32) < x0 then (if x0 = (95 : Int32) then (1 : Int32) else (if x0 = (39 : Int32) then (1 : Int32) else (if x0 = (46 : Int32) then (1 : Int32) else (if x0 = (45 : Int32) then (1 : Int32) else (0 : Int32))))) else (1 : Int32))) else (1 : Int32))) else (1 : Int32))) := ⟨_, rfl⟩
  refine RunsTo.of (T' := s₁) (g' := (mkF m 65 #[.val (.int x0)] [(.int y)])) (fun t kt => ?_) ?_
  · refine XS.iloadN X0.here hx rfl (hb hby d1_0) rfl ?_
    show Steps p.tables e below (s₁.setTop (mkF m 1 #[.val (.int x0)] [(.int x0)])) _
    refine XS.bipush X0.here hx rfl (hb hby d1_1) ?_
    show Steps p.tables e below (s₁.setTop (mkF m 3 #[.val (.int x0)] [(.int (97 : Int32)), (.int x0)])) _
    by_cases hc3 : x0 < (97 : Int32)
    · refine XS.icmpYes X0.here hx rfl (pc0 := 3) (pc' := 12) rfl (hb hby d1_3) rfl (tlt hc3).1 (by decide) (by decide) ?_
      show Steps p.tables e below (s₁.setTop (mkF m 12 #[.val (.int x0)] [])) _
      refine XS.iloadN X0.here hx rfl (hb hby d1_12) rfl ?_
      show Steps p.tables e below (s₁.setTop (mkF m 13 #[.val (.int x0)] [(.int x0)])) _
      refine XS.bipush X0.here hx rfl (hb hby d1_13) ?_
      show Steps p.tables e below (s₁.setTop (mkF m 15 #[.val (.int x0)] [(.int (65 : Int32)), (.int x0)])) _
      by_cases hc15y : x0 < (65 : Int32)
      · refine XS.icmpYes X0.here hx rfl (pc0 := 15) (pc' := 24) rfl (hb hby d1_15) rfl (tlt hc15y).1 (by decide) (by decide) ?_
        show Steps p.tables e below (s₁.setTop (mkF m 24 #[.val (.int x0)] [])) _
        refine XS.iloadN X0.here hx rfl (hb hby d1_24) rfl ?_
        show Steps p.tables e below (s₁.setTop (mkF m 25 #[.val (.int x0)] [(.int x0)])) _
        refine XS.bipush X0.here hx rfl (hb hby d1_25) ?_
        show Steps p.tables e below (s₁.setTop (mkF m 27 #[.val (.int x0)] [(.int (48 : Int32)), (.int x0)])) _
        by_cases hc27yy : x0 < (48 : Int32)
        · refine XS.icmpYes X0.here hx rfl (pc0 := 27) (pc' := 36) rfl (hb hby d1_27) rfl (tlt hc27yy).1 (by decide) (by decide) ?_
          show Steps p.tables e below (s₁.setTop (mkF m 36 #[.val (.int x0)] [])) _
          refine XS.iloadN X0.here hx rfl (hb hby d1_36) rfl ?_
          show Steps p.tables e below (s₁.setTop (mkF m 37 #[.val (.int x0)] [(.int x0)])) _
          refine XS.bipush X0.here hx rfl (hb hby d1_37) ?_
          show Steps p.tables e below (s₁.setTop (mkF m 39 #[.val (.int x0)] [(.int (95 : Int32)), (.int x0)])) _
          by_cases hc39yyy : x0 = (95 : Int32)
          · refine XS.icmpYes X0.here hx rfl (pc0 := 39) (pc' := 60) rfl (hb hby d1_39) rfl (teq hc39yyy).1 (by decide) (by decide) ?_
            show Steps p.tables e below (s₁.setTop (mkF m 60 #[.val (.int x0)] [])) _
            try rw [if_pos hc3] at hy
            try rw [if_pos hc15y] at hy
            try rw [if_pos hc27yy] at hy
            try rw [if_pos hc39yyy] at hy
            rw [hy] at kt
            refine XS.iconst X0.here hx rfl (hb hby d1_60) ?_
            show Steps p.tables e below (s₁.setTop (mkF m 61 #[.val (.int x0)] [(.int (1 : Int32))])) _
            refine XS.goto X0.here hx rfl (pc0 := 61) (pc' := 65) rfl (hb hby d1_61) (by decide) (by decide) ?_
            show Steps p.tables e below (s₁.setTop (mkF m 65 #[.val (.int x0)] [(.int (1 : Int32))])) _
            exact kt
          · refine XS.icmpNo X0.here hx rfl (hb hby d1_39) rfl (feq hc39yyy).1 ?_
            show Steps p.tables e below (s₁.setTop (mkF m 42 #[.val (.int x0)] [])) _
            refine XS.iloadN X0.here hx rfl (hb hby d1_42) rfl ?_
            show Steps p.tables e below (s₁.setTop (mkF m 43 #[.val (.int x0)] [(.int x0)])) _
            refine XS.bipush X0.here hx rfl (hb hby d1_43) ?_
            show Steps p.tables e below (s₁.setTop (mkF m 45 #[.val (.int x0)] [(.int (39 : Int32)), (.int x0)])) _
            by_cases hc45yyyn : x0 = (39 : Int32)
            · refine XS.icmpYes X0.here hx rfl (pc0 := 45) (pc' := 60) rfl (hb hby d1_45) rfl (teq hc45yyyn).1 (by decide) (by decide) ?_
              show Steps p.tables e below (s₁.setTop (mkF m 60 #[.val (.int x0)] [])) _
              try rw [if_pos hc3] at hy
              try rw [if_pos hc15y] at hy
              try rw [if_pos hc27yy] at hy
              try rw [if_neg hc39yyy] at hy
              try rw [if_pos hc45yyyn] at hy
              rw [hy] at kt
              refine XS.iconst X0.here hx rfl (hb hby d1_60) ?_
              show Steps p.tables e below (s₁.setTop (mkF m 61 #[.val (.int x0)] [(.int (1 : Int32))])) _
              refine XS.goto X0.here hx rfl (pc0 := 61) (pc' := 65) rfl (hb hby d1_61) (by decide) (by decide) ?_
              show Steps p.tables e below (s₁.setTop (mkF m 65 #[.val (.int x0)] [(.int (1 : Int32))])) _
              exact kt
            · refine XS.icmpNo X0.here hx rfl (hb hby d1_45) rfl (feq hc45yyyn).1 ?_
              show Steps p.tables e below (s₁.setTop (mkF m 48 #[.val (.int x0)] [])) _
              refine XS.iloadN X0.here hx rfl (hb hby d1_48) rfl ?_
              show Steps p.tables e below (s₁.setTop (mkF m 49 #[.val (.int x0)] [(.int x0)])) _
              refine XS.bipush X0.here hx rfl (hb hby d1_49) ?_
              show Steps p.tables e below (s₁.setTop (mkF m 51 #[.val (.int x0)] [(.int (46 : Int32)), (.int x0)])) _
              by_cases hc51yyynn : x0 = (46 : Int32)
              · refine XS.icmpYes X0.here hx rfl (pc0 := 51) (pc' := 60) rfl (hb hby d1_51) rfl (teq hc51yyynn).1 (by decide) (by decide) ?_
                show Steps p.tables e below (s₁.setTop (mkF m 60 #[.val (.int x0)] [])) _
                try rw [if_pos hc3] at hy
                try rw [if_pos hc15y] at hy
                try rw [if_pos hc27yy] at hy
                try rw [if_neg hc39yyy] at hy
                try rw [if_neg hc45yyyn] at hy
                try rw [if_pos hc51yyynn] at hy
                rw [hy] at kt
                refine XS.iconst X0.here hx rfl (hb hby d1_60) ?_
                show Steps p.tables e below (s₁.setTop (mkF m 61 #[.val (.int x0)] [(.int (1 : Int32))])) _
                refine XS.goto X0.here hx rfl (pc0 := 61) (pc' := 65) rfl (hb hby d1_61) (by decide) (by decide) ?_
                show Steps p.tables e below (s₁.setTop (mkF m 65 #[.val (.int x0)] [(.int (1 : Int32))])) _
                exact kt
              · refine XS.icmpNo X0.here hx rfl (hb hby d1_51) rfl (feq hc51yyynn).1 ?_
                show Steps p.tables e below (s₁.setTop (mkF m 54 #[.val (.int x0)] [])) _
                refine XS.iloadN X0.here hx rfl (hb hby d1_54) rfl ?_
                show Steps p.tables e below (s₁.setTop (mkF m 55 #[.val (.int x0)] [(.int x0)])) _
                refine XS.bipush X0.here hx rfl (hb hby d1_55) ?_
                show Steps p.tables e below (s₁.setTop (mkF m 57 #[.val (.int x0)] [(.int (45 : Int32)), (.int x0)])) _
                by_cases hc57yyynnn : x0 = (45 : Int32)
                · refine XS.icmpNo X0.here hx rfl (hb hby d1_57) rfl (teq hc57yyynnn).2 ?_
                  show Steps p.tables e below (s₁.setTop (mkF m 60 #[.val (.int x0)] [])) _
                  try rw [if_pos hc3] at hy
                  try rw [if_pos hc15y] at hy
                  try rw [if_pos hc27yy] at hy
                  try rw [if_neg hc39yyy] at hy
                  try rw [if_neg hc45yyyn] at hy
                  try rw [if_neg hc51yyynn] at hy
                  try rw [if_pos hc57yyynnn] at hy
                  rw [hy] at kt
                  refine XS.iconst X0.here hx rfl (hb hby d1_60) ?_
                  show Steps p.tables e below (s₁.setTop (mkF m 61 #[.val (.int x0)] [(.int (1 : Int32))])) _
                  refine XS.goto X0.here hx rfl (pc0 := 61) (pc' := 65) rfl (hb hby d1_61) (by decide) (by decide) ?_
                  show Steps p.tables e below (s₁.setTop (mkF m 65 #[.val (.int x0)] [(.int (1 : Int32))])) _
                  exact kt
                · refine XS.icmpYes X0.here hx rfl (pc0 := 57) (pc' := 64) rfl (hb hby d1_57) rfl (feq hc57yyynnn).2 (by decide) (by decide) ?_
                  show Steps p.tables e below (s₁.setTop (mkF m 64 #[.val (.int x0)] [])) _
                  try rw [if_pos hc3] at hy
                  try rw [if_pos hc15y] at hy
                  try rw [if_pos hc27yy] at hy
                  try rw [if_neg hc39yyy] at hy
                  try rw [if_neg hc45yyyn] at hy
                  try rw [if_neg hc51yyynn] at hy
                  try rw [if_neg hc57yyynnn] at hy
                  rw [hy] at kt
                  refine XS.iconst X0.here hx rfl (hb hby d1_64) ?_
                  show Steps p.tables e below (s₁.setTop (mkF m 65 #[.val (.int x0)] [(.int (0 : Int32))])) _
                  exact kt
        · refine XS.icmpNo X0.here hx rfl (hb hby d1_27) rfl (flt hc27yy).1 ?_
          show Steps p.tables e below (s₁.setTop (mkF m 30 #[.val (.int x0)] [])) _
          refine XS.iloadN X0.here hx rfl (hb hby d1_30) rfl ?_
          show Steps p.tables e below (s₁.setTop (mkF m 31 #[.val (.int x0)] [(.int x0)])) _
          refine XS.bipush X0.here hx rfl (hb hby d1_31) ?_
          show Steps p.tables e below (s₁.setTop (mkF m 33 #[.val (.int x0)] [(.int (57 : Int32)), (.int x0)])) _
          by_cases hc33yyn : (57 : Int32) < x0
          · refine XS.icmpNo X0.here hx rfl (hb hby d1_33) rfl (tlt hc33yyn).2.2.2 ?_
            show Steps p.tables e below (s₁.setTop (mkF m 36 #[.val (.int x0)] [])) _
            refine XS.iloadN X0.here hx rfl (hb hby d1_36) rfl ?_
            show Steps p.tables e below (s₁.setTop (mkF m 37 #[.val (.int x0)] [(.int x0)])) _
            refine XS.bipush X0.here hx rfl (hb hby d1_37) ?_
            show Steps p.tables e below (s₁.setTop (mkF m 39 #[.val (.int x0)] [(.int (95 : Int32)), (.int x0)])) _
            by_cases hc39yyny : x0 = (95 : Int32)
            · refine XS.icmpYes X0.here hx rfl (pc0 := 39) (pc' := 60) rfl (hb hby d1_39) rfl (teq hc39yyny).1 (by decide) (by decide) ?_
              show Steps p.tables e below (s₁.setTop (mkF m 60 #[.val (.int x0)] [])) _
              try rw [if_pos hc3] at hy
              try rw [if_pos hc15y] at hy
              try rw [if_neg hc27yy] at hy
              try rw [if_pos hc33yyn] at hy
              try rw [if_pos hc39yyny] at hy
              rw [hy] at kt
              refine XS.iconst X0.here hx rfl (hb hby d1_60) ?_
              show Steps p.tables e below (s₁.setTop (mkF m 61 #[.val (.int x0)] [(.int (1 : Int32))])) _
              refine XS.goto X0.here hx rfl (pc0 := 61) (pc' := 65) rfl (hb hby d1_61) (by decide) (by decide) ?_
              show Steps p.tables e below (s₁.setTop (mkF m 65 #[.val (.int x0)] [(.int (1 : Int32))])) _
              exact kt
            · refine XS.icmpNo X0.here hx rfl (hb hby d1_39) rfl (feq hc39yyny).1 ?_
              show Steps p.tables e below (s₁.setTop (mkF m 42 #[.val (.int x0)] [])) _
              refine XS.iloadN X0.here hx rfl (hb hby d1_42) rfl ?_
              show Steps p.tables e below (s₁.setTop (mkF m 43 #[.val (.int x0)] [(.int x0)])) _
              refine XS.bipush X0.here hx rfl (hb hby d1_43) ?_
              show Steps p.tables e below (s₁.setTop (mkF m 45 #[.val (.int x0)] [(.int (39 : Int32)), (.int x0)])) _
              by_cases hc45yynyn : x0 = (39 : Int32)
              · refine XS.icmpYes X0.here hx rfl (pc0 := 45) (pc' := 60) rfl (hb hby d1_45) rfl (teq hc45yynyn).1 (by decide) (by decide) ?_
                show Steps p.tables e below (s₁.setTop (mkF m 60 #[.val (.int x0)] [])) _
                try rw [if_pos hc3] at hy
                try rw [if_pos hc15y] at hy
                try rw [if_neg hc27yy] at hy
                try rw [if_pos hc33yyn] at hy
                try rw [if_neg hc39yyny] at hy
                try rw [if_pos hc45yynyn] at hy
                rw [hy] at kt
                refine XS.iconst X0.here hx rfl (hb hby d1_60) ?_
                show Steps p.tables e below (s₁.setTop (mkF m 61 #[.val (.int x0)] [(.int (1 : Int32))])) _
                refine XS.goto X0.here hx rfl (pc0 := 61) (pc' := 65) rfl (hb hby d1_61) (by decide) (by decide) ?_
                show Steps p.tables e below (s₁.setTop (mkF m 65 #[.val (.int x0)] [(.int (1 : Int32))])) _
                exact kt
              · refine XS.icmpNo X0.here hx rfl (hb hby d1_45) rfl (feq hc45yynyn).1 ?_
                show Steps p.tables e below (s₁.setTop (mkF m 48 #[.val (.int x0)] [])) _
                refine XS.iloadN X0.here hx rfl (hb hby d1_48) rfl ?_
                show Steps p.tables e below (s₁.setTop (mkF m 49 #[.val (.int x0)] [(.int x0)])) _
                refine XS.bipush X0.here hx rfl (hb hby d1_49) ?_
                show Steps p.tables e below (s₁.setTop (mkF m 51 #[.val (.int x0)] [(.int (46 : Int32)), (.int x0)])) _
                by_cases hc51yynynn : x0 = (46 : Int32)
                · refine XS.icmpYes X0.here hx rfl (pc0 := 51) (pc' := 60) rfl (hb hby d1_51) rfl (teq hc51yynynn).1 (by decide) (by decide) ?_
                  show Steps p.tables e below (s₁.setTop (mkF m 60 #[.val (.int x0)] [])) _
                  try rw [if_pos hc3] at hy
                  try rw [if_pos hc15y] at hy
                  try rw [if_neg hc27yy] at hy
                  try rw [if_pos hc33yyn] at hy
                  try rw [if_neg hc39yyny] at hy
                  try rw [if_neg hc45yynyn] at hy
                  try rw [if_pos hc51yynynn] at hy
                  rw [hy] at kt
                  refine XS.iconst X0.here hx rfl (hb hby d1_60) ?_
                  show Steps p.tables e below (s₁.setTop (mkF m 61 #[.val (.int x0)] [(.int (1 : Int32))])) _
                  refine XS.goto X0.here hx rfl (pc0 := 61) (pc' := 65) rfl (hb hby d1_61) (by decide) (by decide) ?_
                  show Steps p.tables e below (s₁.setTop (mkF m 65 #[.val (.int x0)] [(.int (1 : Int32))])) _
                  exact kt
                · refine XS.icmpNo X0.here hx rfl (hb hby d1_51) rfl (feq hc51yynynn).1 ?_
                  show Steps p.tables e below (s₁.setTop (mkF m 54 #[.val (.int x0)] [])) _
                  refine XS.iloadN X0.here hx rfl (hb hby d1_54) rfl ?_
                  show Steps p.tables e below (s₁.setTop (mkF m 55 #[.val (.int x0)] [(.int x0)])) _
                  refine XS.bipush X0.here hx rfl (hb hby d1_55) ?_
                  show Steps p.tables e below (s₁.setTop (mkF m 57 #[.val (.int x0)] [(.int (45 : Int32)), (.int x0)])) _
                  by_cases hc57yynynnn : x0 = (45 : Int32)
                  · refine XS.icmpNo X0.here hx rfl (hb hby d1_57) rfl (teq hc57yynynnn).2 ?_
                    show Steps p.tables e below (s₁.setTop (mkF m 60 #[.val (.int x0)] [])) _
                    try rw [if_pos hc3] at hy
                    try rw [if_pos hc15y] at hy
                    try rw [if_neg hc27yy] at hy
                    try rw [if_pos hc33yyn] at hy
                    try rw [if_neg hc39yyny] at hy
                    try rw [if_neg hc45yynyn] at hy
                    try rw [if_neg hc51yynynn] at hy
                    try rw [if_pos hc57yynynnn] at hy
                    rw [hy] at kt
                    refine XS.iconst X0.here hx rfl (hb hby d1_60) ?_
                    show Steps p.tables e below (s₁.setTop (mkF m 61 #[.val (.int x0)] [(.int (1 : Int32))])) _
                    refine XS.goto X0.here hx rfl (pc0 := 61) (pc' := 65) rfl (hb hby d1_61) (by decide) (by decide) ?_
                    show Steps p.tables e below (s₁.setTop (mkF m 65 #[.val (.int x0)] [(.int (1 : Int32))])) _
                    exact kt
                  · refine XS.icmpYes X0.here hx rfl (pc0 := 57) (pc' := 64) rfl (hb hby d1_57) rfl (feq hc57yynynnn).2 (by decide) (by decide) ?_
                    show Steps p.tables e below (s₁.setTop (mkF m 64 #[.val (.int x0)] [])) _
                    try rw [if_pos hc3] at hy
                    try rw [if_pos hc15y] at hy
                    try rw [if_neg hc27yy] at hy
                    try rw [if_pos hc33yyn] at hy
                    try rw [if_neg hc39yyny] at hy
                    try rw [if_neg hc45yynyn] at hy
                    try rw [if_neg hc51yynynn] at hy
                    try rw [if_neg hc57yynynnn] at hy
                    rw [hy] at kt
                    refine XS.iconst X0.here hx rfl (hb hby d1_64) ?_
                    show Steps p.tables e below (s₁.setTop (mkF m 65 #[.val (.int x0)] [(.int (0 : Int32))])) _
                    exact kt
          · refine XS.icmpYes X0.here hx rfl (pc0 := 33) (pc' := 60) rfl (hb hby d1_33) rfl (flt hc33yyn).2.2.2 (by decide) (by decide) ?_
            show Steps p.tables e below (s₁.setTop (mkF m 60 #[.val (.int x0)] [])) _
            try rw [if_pos hc3] at hy
            try rw [if_pos hc15y] at hy
            try rw [if_neg hc27yy] at hy
            try rw [if_neg hc33yyn] at hy
            rw [hy] at kt
            refine XS.iconst X0.here hx rfl (hb hby d1_60) ?_
            show Steps p.tables e below (s₁.setTop (mkF m 61 #[.val (.int x0)] [(.int (1 : Int32))])) _
            refine XS.goto X0.here hx rfl (pc0 := 61) (pc' := 65) rfl (hb hby d1_61) (by decide) (by decide) ?_
            show Steps p.tables e below (s₁.setTop (mkF m 65 #[.val (.int x0)] [(.int (1 : Int32))])) _
            exact kt
      · refine XS.icmpNo X0.here hx rfl (hb hby d1_15) rfl (flt hc15y).1 ?_
        show Steps p.tables e below (s₁.setTop (mkF m 18 #[.val (.int x0)] [])) _
        refine XS.iloadN X0.here hx rfl (hb hby d1_18) rfl ?_
        show Steps p.tables e below (s₁.setTop (mkF m 19 #[.val (.int x0)] [(.int x0)])) _
        refine XS.bipush X0.here hx rfl (hb hby d1_19) ?_
        show Steps p.tables e below (s₁.setTop (mkF m 21 #[.val (.int x0)] [(.int (90 : Int32)), (.int x0)])) _
        by_cases hc21yn : (90 : Int32) < x0
        · refine XS.icmpNo X0.here hx rfl (hb hby d1_21) rfl (tlt hc21yn).2.2.2 ?_
          show Steps p.tables e below (s₁.setTop (mkF m 24 #[.val (.int x0)] [])) _
          refine XS.iloadN X0.here hx rfl (hb hby d1_24) rfl ?_
          show Steps p.tables e below (s₁.setTop (mkF m 25 #[.val (.int x0)] [(.int x0)])) _
          refine XS.bipush X0.here hx rfl (hb hby d1_25) ?_
          show Steps p.tables e below (s₁.setTop (mkF m 27 #[.val (.int x0)] [(.int (48 : Int32)), (.int x0)])) _
          by_cases hc27yny : x0 < (48 : Int32)
          · refine XS.icmpYes X0.here hx rfl (pc0 := 27) (pc' := 36) rfl (hb hby d1_27) rfl (tlt hc27yny).1 (by decide) (by decide) ?_
            show Steps p.tables e below (s₁.setTop (mkF m 36 #[.val (.int x0)] [])) _
            refine XS.iloadN X0.here hx rfl (hb hby d1_36) rfl ?_
            show Steps p.tables e below (s₁.setTop (mkF m 37 #[.val (.int x0)] [(.int x0)])) _
            refine XS.bipush X0.here hx rfl (hb hby d1_37) ?_
            show Steps p.tables e below (s₁.setTop (mkF m 39 #[.val (.int x0)] [(.int (95 : Int32)), (.int x0)])) _
            by_cases hc39ynyy : x0 = (95 : Int32)
            · refine XS.icmpYes X0.here hx rfl (pc0 := 39) (pc' := 60) rfl (hb hby d1_39) rfl (teq hc39ynyy).1 (by decide) (by decide) ?_
              show Steps p.tables e below (s₁.setTop (mkF m 60 #[.val (.int x0)] [])) _
              try rw [if_pos hc3] at hy
              try rw [if_neg hc15y] at hy
              try rw [if_pos hc21yn] at hy
              try rw [if_pos hc27yny] at hy
              try rw [if_pos hc39ynyy] at hy
              rw [hy] at kt
              refine XS.iconst X0.here hx rfl (hb hby d1_60) ?_
              show Steps p.tables e below (s₁.setTop (mkF m 61 #[.val (.int x0)] [(.int (1 : Int32))])) _
              refine XS.goto X0.here hx rfl (pc0 := 61) (pc' := 65) rfl (hb hby d1_61) (by decide) (by decide) ?_
              show Steps p.tables e below (s₁.setTop (mkF m 65 #[.val (.int x0)] [(.int (1 : Int32))])) _
              exact kt
            · refine XS.icmpNo X0.here hx rfl (hb hby d1_39) rfl (feq hc39ynyy).1 ?_
              show Steps p.tables e below (s₁.setTop (mkF m 42 #[.val (.int x0)] [])) _
              refine XS.iloadN X0.here hx rfl (hb hby d1_42) rfl ?_
              show Steps p.tables e below (s₁.setTop (mkF m 43 #[.val (.int x0)] [(.int x0)])) _
              refine XS.bipush X0.here hx rfl (hb hby d1_43) ?_
              show Steps p.tables e below (s₁.setTop (mkF m 45 #[.val (.int x0)] [(.int (39 : Int32)), (.int x0)])) _
              by_cases hc45ynyyn : x0 = (39 : Int32)
              · refine XS.icmpYes X0.here hx rfl (pc0 := 45) (pc' := 60) rfl (hb hby d1_45) rfl (teq hc45ynyyn).1 (by decide) (by decide) ?_
                show Steps p.tables e below (s₁.setTop (mkF m 60 #[.val (.int x0)] [])) _
                try rw [if_pos hc3] at hy
                try rw [if_neg hc15y] at hy
                try rw [if_pos hc21yn] at hy
                try rw [if_pos hc27yny] at hy
                try rw [if_neg hc39ynyy] at hy
                try rw [if_pos hc45ynyyn] at hy
                rw [hy] at kt
                refine XS.iconst X0.here hx rfl (hb hby d1_60) ?_
                show Steps p.tables e below (s₁.setTop (mkF m 61 #[.val (.int x0)] [(.int (1 : Int32))])) _
                refine XS.goto X0.here hx rfl (pc0 := 61) (pc' := 65) rfl (hb hby d1_61) (by decide) (by decide) ?_
                show Steps p.tables e below (s₁.setTop (mkF m 65 #[.val (.int x0)] [(.int (1 : Int32))])) _
                exact kt
              · refine XS.icmpNo X0.here hx rfl (hb hby d1_45) rfl (feq hc45ynyyn).1 ?_
                show Steps p.tables e below (s₁.setTop (mkF m 48 #[.val (.int x0)] [])) _
                refine XS.iloadN X0.here hx rfl (hb hby d1_48) rfl ?_
                show Steps p.tables e below (s₁.setTop (mkF m 49 #[.val (.int x0)] [(.int x0)])) _
                refine XS.bipush X0.here hx rfl (hb hby d1_49) ?_
                show Steps p.tables e below (s₁.setTop (mkF m 51 #[.val (.int x0)] [(.int (46 : Int32)), (.int x0)])) _
                by_cases hc51ynyynn : x0 = (46 : Int32)
                · refine XS.icmpYes X0.here hx rfl (pc0 := 51) (pc' := 60) rfl (hb hby d1_51) rfl (teq hc51ynyynn).1 (by decide) (by decide) ?_
                  show Steps p.tables e below (s₁.setTop (mkF m 60 #[.val (.int x0)] [])) _
                  try rw [if_pos hc3] at hy
                  try rw [if_neg hc15y] at hy
                  try rw [if_pos hc21yn] at hy
                  try rw [if_pos hc27yny] at hy
                  try rw [if_neg hc39ynyy] at hy
                  try rw [if_neg hc45ynyyn] at hy
                  try rw [if_pos hc51ynyynn] at hy
                  rw [hy] at kt
                  refine XS.iconst X0.here hx rfl (hb hby d1_60) ?_
                  show Steps p.tables e below (s₁.setTop (mkF m 61 #[.val (.int x0)] [(.int (1 : Int32))])) _
                  refine XS.goto X0.here hx rfl (pc0 := 61) (pc' := 65) rfl (hb hby d1_61) (by decide) (by decide) ?_
                  show Steps p.tables e below (s₁.setTop (mkF m 65 #[.val (.int x0)] [(.int (1 : Int32))])) _
                  exact kt
                · refine XS.icmpNo X0.here hx rfl (hb hby d1_51) rfl (feq hc51ynyynn).1 ?_
                  show Steps p.tables e below (s₁.setTop (mkF m 54 #[.val (.int x0)] [])) _
                  refine XS.iloadN X0.here hx rfl (hb hby d1_54) rfl ?_
                  show Steps p.tables e below (s₁.setTop (mkF m 55 #[.val (.int x0)] [(.int x0)])) _
                  refine XS.bipush X0.here hx rfl (hb hby d1_55) ?_
                  show Steps p.tables e below (s₁.setTop (mkF m 57 #[.val (.int x0)] [(.int (45 : Int32)), (.int x0)])) _
                  by_cases hc57ynyynnn : x0 = (45 : Int32)
                  · refine XS.icmpNo X0.here hx rfl (hb hby d1_57) rfl (teq hc57ynyynnn).2 ?_
                    show Steps p.tables e below (s₁.setTop (mkF m 60 #[.val (.int x0)] [])) _
                    try rw [if_pos hc3] at hy
                    try rw [if_neg hc15y] at hy
                    try rw [if_pos hc21yn] at hy
                    try rw [if_pos hc27yny] at hy
                    try rw [if_neg hc39ynyy] at hy
                    try rw [if_neg hc45ynyyn] at hy
                    try rw [if_neg hc51ynyynn] at hy
                    try rw [if_pos hc57ynyynnn] at hy
                    rw [hy] at kt
                    refine XS.iconst X0.here hx rfl (hb hby d1_60) ?_
                    show Steps p.tables e below (s₁.setTop (mkF m 61 #[.val (.int x0)] [(.int (1 : Int32))])) _
                    refine XS.goto X0.here hx rfl (pc0 := 61) (pc' := 65) rfl (hb hby d1_61) (by decide) (by decide) ?_
                    show Steps p.tables e below (s₁.setTop (mkF m 65 #[.val (.int x0)] [(.int (1 : Int32))])) _
                    exact kt
                  · refine XS.icmpYes X0.here hx rfl (pc0 := 57) (pc' := 64) rfl (hb hby d1_57) rfl (feq hc57ynyynnn).2 (by decide) (by decide) ?_
                    show Steps p.tables e below (s₁.setTop (mkF m 64 #[.val (.int x0)] [])) _
                    try rw [if_pos hc3] at hy
                    try rw [if_neg hc15y] at hy
                    try rw [if_pos hc21yn] at hy
                    try rw [if_pos hc27yny] at hy
                    try rw [if_neg hc39ynyy] at hy
                    try rw [if_neg hc45ynyyn] at hy
                    try rw [if_neg hc51ynyynn] at hy
                    try rw [if_neg hc57ynyynnn] at hy
                    rw [hy] at kt
                    refine XS.iconst X0.here hx rfl (hb hby d1_64) ?_
                    show Steps p.tables e below (s₁.setTop (mkF m 65 #[.val (.int x0)] [(.int (0 : Int32))])) _
                    exact kt
          · refine XS.icmpNo X0.here hx rfl (hb hby d1_27) rfl (flt hc27yny).1 ?_
            show Steps p.tables e below (s₁.setTop (mkF m 30 #[.val (.int x0)] [])) _
            refine XS.iloadN X0.here hx rfl (hb hby d1_30) rfl ?_
            show Steps p.tables e below (s₁.setTop (mkF m 31 #[.val (.int x0)] [(.int x0)])) _
            refine XS.bipush X0.here hx rfl (hb hby d1_31) ?_
            show Steps p.tables e below (s₁.setTop (mkF m 33 #[.val (.int x0)] [(.int (57 : Int32)), (.int x0)])) _
            by_cases hc33ynyn : (57 : Int32) < x0
            · refine XS.icmpNo X0.here hx rfl (hb hby d1_33) rfl (tlt hc33ynyn).2.2.2 ?_
              show Steps p.tables e below (s₁.setTop (mkF m 36 #[.val (.int x0)] [])) _
              refine XS.iloadN X0.here hx rfl (hb hby d1_36) rfl ?_
              show Steps p.tables e below (s₁.setTop (mkF m 37 #[.val (.int x0)] [(.int x0)])) _
              refine XS.bipush X0.here hx rfl (hb hby d1_37) ?_
              show Steps p.tables e below (s₁.setTop (mkF m 39 #[.val (.int x0)] [(.int (95 : Int32)), (.int x0)])) _
              by_cases hc39ynyny : x0 = (95 : Int32)
              · refine XS.icmpYes X0.here hx rfl (pc0 := 39) (pc' := 60) rfl (hb hby d1_39) rfl (teq hc39ynyny).1 (by decide) (by decide) ?_
                show Steps p.tables e below (s₁.setTop (mkF m 60 #[.val (.int x0)] [])) _
                try rw [if_pos hc3] at hy
                try rw [if_neg hc15y] at hy
                try rw [if_pos hc21yn] at hy
                try rw [if_neg hc27yny] at hy
                try rw [if_pos hc33ynyn] at hy
                try rw [if_pos hc39ynyny] at hy
                rw [hy] at kt
                refine XS.iconst X0.here hx rfl (hb hby d1_60) ?_
                show Steps p.tables e below (s₁.setTop (mkF m 61 #[.val (.int x0)] [(.int (1 : Int32))])) _
                refine XS.goto X0.here hx rfl (pc0 := 61) (pc' := 65) rfl (hb hby d1_61) (by decide) (by decide) ?_
                show Steps p.tables e below (s₁.setTop (mkF m 65 #[.val (.int x0)] [(.int (1 : Int32))])) _
                exact kt
              · refine XS.icmpNo X0.here hx rfl (hb hby d1_39) rfl (feq hc39ynyny).1 ?_
                show Steps p.tables e below (s₁.setTop (mkF m 42 #[.val (.int x0)] [])) _
                refine XS.iloadN X0.here hx rfl (hb hby d1_42) rfl ?_
                show Steps p.tables e below (s₁.setTop (mkF m 43 #[.val (.int x0)] [(.int x0)])) _
                refine XS.bipush X0.here hx rfl (hb hby d1_43) ?_
                show Steps p.tables e below (s₁.setTop (mkF m 45 #[.val (.int x0)] [(.int (39 : Int32)), (.int x0)])) _
                by_cases hc45ynynyn : x0 = (39 : Int32)
                · refine XS.icmpYes X0.here hx rfl (pc0 := 45) (pc' := 60) rfl (hb hby d1_45) rfl (teq hc45ynynyn).1 (by decide) (by decide) ?_
                  show Steps p.tables e below (s₁.setTop (mkF m 60 #[.val (.int x0)] [])) _
                  try rw [if_pos hc3] at hy
                  try rw [if_neg hc15y] at hy
                  try rw [if_pos hc21yn] at hy
                  try rw [if_neg hc27yny] at hy
                  try rw [if_pos hc33ynyn] at hy
                  try rw [if_neg hc39ynyny] at hy
                  try rw [if_pos hc45ynynyn] at hy
                  rw [hy] at kt
                  refine XS.iconst X0.here hx rfl (hb hby d1_60) ?_
                  show Steps p.tables e below (s₁.setTop (mkF m 61 #[.val (.int x0)] [(.int (1 : Int32))])) _
                  refine XS.goto X0.here hx rfl (pc0 := 61) (pc' := 65) rfl (hb hby d1_61) (by decide) (by decide) ?_
                  show Steps p.tables e below (s₁.setTop (mkF m 65 #[.val (.int x0)] [(.int (1 : Int32))])) _
                  exact kt
                · refine XS.icmpNo X0.here hx rfl (hb hby d1_45) rfl (feq hc45ynynyn).1 ?_
                  show Steps p.tables e below (s₁.setTop (mkF m 48 #[.val (.int x0)] [])) _
                  refine XS.iloadN X0.here hx rfl (hb hby d1_48) rfl ?_
                  show Steps p.tables e below (s₁.setTop (mkF m 49 #[.val (.int x0)] [(.int x0)])) _
                  refine XS.bipush X0.here hx rfl (hb hby d1_49) ?_
                  show Steps p.tables e below (s₁.setTop (mkF m 51 #[.val (.int x0)] [(.int (46 : Int32)), (.int x0)])) _
                  by_cases hc51ynynynn : x0 = (46 : Int32)
                  · refine XS.icmpYes X0.here hx rfl (pc0 := 51) (pc' := 60) rfl (hb hby d1_51) rfl (teq hc51ynynynn).1 (by decide) (by decide) ?_
                    show Steps p.tables e below (s₁.setTop (mkF m 60 #[.val (.int x0)] [])) _
                    try rw [if_pos hc3] at hy
                    try rw [if_neg hc15y] at hy
                    try rw [if_pos hc21yn] at hy
                    try rw [if_neg hc27yny] at hy
                    try rw [if_pos hc33ynyn] at hy
                    try rw [if_neg hc39ynyny] at hy
                    try rw [if_neg hc45ynynyn] at hy
                    try rw [if_pos hc51ynynynn] at hy
                    rw [hy] at kt
                    refine XS.iconst X0.here hx rfl (hb hby d1_60) ?_
                    show Steps p.tables e below (s₁.setTop (mkF m 61 #[.val (.int x0)] [(.int (1 : Int32))])) _
                    refine XS.goto X0.here hx rfl (pc0 := 61) (pc' := 65) rfl (hb hby d1_61) (by decide) (by decide) ?_
                    show Steps p.tables e below (s₁.setTop (mkF m 65 #[.val (.int x0)] [(.int (1 : Int32))])) _
                    exact kt
                  · refine XS.icmpNo X0.here hx rfl (hb hby d1_51) rfl (feq hc51ynynynn).1 ?_
                    show Steps p.tables e below (s₁.setTop (mkF m 54 #[.val (.int x0)] [])) _
                    refine XS.iloadN X0.here hx rfl (hb hby d1_54) rfl ?_
                    show Steps p.tables e below (s₁.setTop (mkF m 55 #[.val (.int x0)] [(.int x0)])) _
                    refine XS.bipush X0.here hx rfl (hb hby d1_55) ?_
                    show Steps p.tables e below (s₁.setTop (mkF m 57 #[.val (.int x0)] [(.int (45 : Int32)), (.int x0)])) _
                    by_cases hc57ynynynnn : x0 = (45 : Int32)
                    · refine XS.icmpNo X0.here hx rfl (hb hby d1_57) rfl (teq hc57ynynynnn).2 ?_
                      show Steps p.tables e below (s₁.setTop (mkF m 60 #[.val (.int x0)] [])) _
                      try rw [if_pos hc3] at hy
                      try rw [if_neg hc15y] at hy
                      try rw [if_pos hc21yn] at hy
                      try rw [if_neg hc27yny] at hy
                      try rw [if_pos hc33ynyn] at hy
                      try rw [if_neg hc39ynyny] at hy
                      try rw [if_neg hc45ynynyn] at hy
                      try rw [if_neg hc51ynynynn] at hy
                      try rw [if_pos hc57ynynynnn] at hy
                      rw [hy] at kt
                      refine XS.iconst X0.here hx rfl (hb hby d1_60) ?_
                      show Steps p.tables e below (s₁.setTop (mkF m 61 #[.val (.int x0)] [(.int (1 : Int32))])) _
                      refine XS.goto X0.here hx rfl (pc0 := 61) (pc' := 65) rfl (hb hby d1_61) (by decide) (by decide) ?_
                      show Steps p.tables e below (s₁.setTop (mkF m 65 #[.val (.int x0)] [(.int (1 : Int32))])) _
                      exact kt
                    · refine XS.icmpYes X0.here hx rfl (pc0 := 57) (pc' := 64) rfl (hb hby d1_57) rfl (feq hc57ynynynnn).2 (by decide) (by decide) ?_
                      show Steps p.tables e below (s₁.setTop (mkF m 64 #[.val (.int x0)] [])) _
                      try rw [if_pos hc3] at hy
                      try rw [if_neg hc15y] at hy
                      try rw [if_pos hc21yn] at hy
                      try rw [if_neg hc27yny] at hy
                      try rw [if_pos hc33ynyn] at hy
                      try rw [if_neg hc39ynyny] at hy
                      try rw [if_neg hc45ynynyn] at hy
                      try rw [if_neg hc51ynynynn] at hy
                      try rw [if_neg hc57ynynynnn] at hy
                      rw [hy] at kt
                      refine XS.iconst X0.here hx rfl (hb hby d1_64) ?_
                      show Steps p.tables e below (s₁.setTop (mkF m 65 #[.val (.int x0)] [(.int (0 : Int32))])) _
                      exact kt
            · refine XS.icmpYes X0.here hx rfl (pc0 := 33) (pc' := 60) rfl (hb hby d1_33) rfl (flt hc33ynyn).2.2.2 (by decide) (by decide) ?_
              show Steps p.tables e below (s₁.setTop (mkF m 60 #[.val (.int x0)] [])) _
              try rw [if_pos hc3] at hy
              try rw [if_neg hc15y] at hy
              try rw [if_pos hc21yn] at hy
              try rw [if_neg hc27yny] at hy
              try rw [if_neg hc33ynyn] at hy
              rw [hy] at kt
              refine XS.iconst X0.here hx rfl (hb hby d1_60) ?_
              show Steps p.tables e below (s₁.setTop (mkF m 61 #[.val (.int x0)] [(.int (1 : Int32))])) _
              refine XS.goto X0.here hx rfl (pc0 := 61) (pc' := 65) rfl (hb hby d1_61) (by decide) (by decide) ?_
              show Steps p.tables e below (s₁.setTop (mkF m 65 #[.val (.int x0)] [(.int (1 : Int32))])) _
              exact kt
        · refine XS.icmpYes X0.here hx rfl (pc0 := 21) (pc' := 60) rfl (hb hby d1_21) rfl (flt hc21yn).2.2.2 (by decide) (by decide) ?_
          show Steps p.tables e below (s₁.setTop (mkF m 60 #[.val (.int x0)] [])) _
          try rw [if_pos hc3] at hy
          try rw [if_neg hc15y] at hy
          try rw [if_neg hc21yn] at hy
          rw [hy] at kt
          refine XS.iconst X0.here hx rfl (hb hby d1_60) ?_
          show Steps p.tables e below (s₁.setTop (mkF m 61 #[.val (.int x0)] [(.int (1 : Int32))])) _
          refine XS.goto X0.here hx rfl (pc0 := 61) (pc' := 65) rfl (hb hby d1_61) (by decide) (by decide) ?_
          show Steps p.tables e below (s₁.setTop (mkF m 65 #[.val (.int x0)] [(.int (1 : Int32))])) _
          exact kt
    · refine XS.icmpNo X0.here hx rfl (hb hby d1_3) rfl (flt hc3).1 ?_
      show Steps p.tables e below (s₁.setTop (mkF m 6 #[.val (.int x0)] [])) _
      refine XS.iloadN X0.here hx rfl (hb hby d1_6) rfl ?_
      show Steps p.tables e below (s₁.setTop (mkF m 7 #[.val (.int x0)] [(.int x0)])) _
      refine XS.bipush X0.here hx rfl (hb hby d1_7) ?_
      show Steps p.tables e below (s₁.setTop (mkF m 9 #[.val (.int x0)] [(.int (122 : Int32)), (.int x0)])) _
      by_cases hc9n : (122 : Int32) < x0
      · refine XS.icmpNo X0.here hx rfl (hb hby d1_9) rfl (tlt hc9n).2.2.2 ?_
        show Steps p.tables e below (s₁.setTop (mkF m 12 #[.val (.int x0)] [])) _
        refine XS.iloadN X0.here hx rfl (hb hby d1_12) rfl ?_
        show Steps p.tables e below (s₁.setTop (mkF m 13 #[.val (.int x0)] [(.int x0)])) _
        refine XS.bipush X0.here hx rfl (hb hby d1_13) ?_
        show Steps p.tables e below (s₁.setTop (mkF m 15 #[.val (.int x0)] [(.int (65 : Int32)), (.int x0)])) _
        by_cases hc15ny : x0 < (65 : Int32)
        · refine XS.icmpYes X0.here hx rfl (pc0 := 15) (pc' := 24) rfl (hb hby d1_15) rfl (tlt hc15ny).1 (by decide) (by decide) ?_
          show Steps p.tables e below (s₁.setTop (mkF m 24 #[.val (.int x0)] [])) _
          refine XS.iloadN X0.here hx rfl (hb hby d1_24) rfl ?_
          show Steps p.tables e below (s₁.setTop (mkF m 25 #[.val (.int x0)] [(.int x0)])) _
          refine XS.bipush X0.here hx rfl (hb hby d1_25) ?_
          show Steps p.tables e below (s₁.setTop (mkF m 27 #[.val (.int x0)] [(.int (48 : Int32)), (.int x0)])) _
          by_cases hc27nyy : x0 < (48 : Int32)
          · refine XS.icmpYes X0.here hx rfl (pc0 := 27) (pc' := 36) rfl (hb hby d1_27) rfl (tlt hc27nyy).1 (by decide) (by decide) ?_
            show Steps p.tables e below (s₁.setTop (mkF m 36 #[.val (.int x0)] [])) _
            refine XS.iloadN X0.here hx rfl (hb hby d1_36) rfl ?_
            show Steps p.tables e below (s₁.setTop (mkF m 37 #[.val (.int x0)] [(.int x0)])) _
            refine XS.bipush X0.here hx rfl (hb hby d1_37) ?_
            show Steps p.tables e below (s₁.setTop (mkF m 39 #[.val (.int x0)] [(.int (95 : Int32)), (.int x0)])) _
            by_cases hc39nyyy : x0 = (95 : Int32)
            · refine XS.icmpYes X0.here hx rfl (pc0 := 39) (pc' := 60) rfl (hb hby d1_39) rfl (teq hc39nyyy).1 (by decide) (by decide) ?_
              show Steps p.tables e below (s₁.setTop (mkF m 60 #[.val (.int x0)] [])) _
              try rw [if_neg hc3] at hy
              try rw [if_pos hc9n] at hy
              try rw [if_pos hc15ny] at hy
              try rw [if_pos hc27nyy] at hy
              try rw [if_pos hc39nyyy] at hy
              rw [hy] at kt
              refine XS.iconst X0.here hx rfl (hb hby d1_60) ?_
              show Steps p.tables e below (s₁.setTop (mkF m 61 #[.val (.int x0)] [(.int (1 : Int32))])) _
              refine XS.goto X0.here hx rfl (pc0 := 61) (pc' := 65) rfl (hb hby d1_61) (by decide) (by decide) ?_
              show Steps p.tables e below (s₁.setTop (mkF m 65 #[.val (.int x0)] [(.int (1 : Int32))])) _
              exact kt
            · refine XS.icmpNo X0.here hx rfl (hb hby d1_39) rfl (feq hc39nyyy).1 ?_
              show Steps p.tables e below (s₁.setTop (mkF m 42 #[.val (.int x0)] [])) _
              refine XS.iloadN X0.here hx rfl (hb hby d1_42) rfl ?_
              show Steps p.tables e below (s₁.setTop (mkF m 43 #[.val (.int x0)] [(.int x0)])) _
              refine XS.bipush X0.here hx rfl (hb hby d1_43) ?_
              show Steps p.tables e below (s₁.setTop (mkF m 45 #[.val (.int x0)] [(.int (39 : Int32)), (.int x0)])) _
              by_cases hc45nyyyn : x0 = (39 : Int32)
              · refine XS.icmpYes X0.here hx rfl (pc0 := 45) (pc' := 60) rfl (hb hby d1_45) rfl (teq hc45nyyyn).1 (by decide) (by decide) ?_
                show Steps p.tables e below (s₁.setTop (mkF m 60 #[.val (.int x0)] [])) _
                try rw [if_neg hc3] at hy
                try rw [if_pos hc9n] at hy
                try rw [if_pos hc15ny] at hy
                try rw [if_pos hc27nyy] at hy
                try rw [if_neg hc39nyyy] at hy
                try rw [if_pos hc45nyyyn] at hy
                rw [hy] at kt
                refine XS.iconst X0.here hx rfl (hb hby d1_60) ?_
                show Steps p.tables e below (s₁.setTop (mkF m 61 #[.val (.int x0)] [(.int (1 : Int32))])) _
                refine XS.goto X0.here hx rfl (pc0 := 61) (pc' := 65) rfl (hb hby d1_61) (by decide) (by decide) ?_
                show Steps p.tables e below (s₁.setTop (mkF m 65 #[.val (.int x0)] [(.int (1 : Int32))])) _
                exact kt
              · refine XS.icmpNo X0.here hx rfl (hb hby d1_45) rfl (feq hc45nyyyn).1 ?_
                show Steps p.tables e below (s₁.setTop (mkF m 48 #[.val (.int x0)] [])) _
                refine XS.iloadN X0.here hx rfl (hb hby d1_48) rfl ?_
                show Steps p.tables e below (s₁.setTop (mkF m 49 #[.val (.int x0)] [(.int x0)])) _
                refine XS.bipush X0.here hx rfl (hb hby d1_49) ?_
                show Steps p.tables e below (s₁.setTop (mkF m 51 #[.val (.int x0)] [(.int (46 : Int32)), (.int x0)])) _
                by_cases hc51nyyynn : x0 = (46 : Int32)
                · refine XS.icmpYes X0.here hx rfl (pc0 := 51) (pc' := 60) rfl (hb hby d1_51) rfl (teq hc51nyyynn).1 (by decide) (by decide) ?_
                  show Steps p.tables e below (s₁.setTop (mkF m 60 #[.val (.int x0)] [])) _
                  try rw [if_neg hc3] at hy
                  try rw [if_pos hc9n] at hy
                  try rw [if_pos hc15ny] at hy
                  try rw [if_pos hc27nyy] at hy
                  try rw [if_neg hc39nyyy] at hy
                  try rw [if_neg hc45nyyyn] at hy
                  try rw [if_pos hc51nyyynn] at hy
                  rw [hy] at kt
                  refine XS.iconst X0.here hx rfl (hb hby d1_60) ?_
                  show Steps p.tables e below (s₁.setTop (mkF m 61 #[.val (.int x0)] [(.int (1 : Int32))])) _
                  refine XS.goto X0.here hx rfl (pc0 := 61) (pc' := 65) rfl (hb hby d1_61) (by decide) (by decide) ?_
                  show Steps p.tables e below (s₁.setTop (mkF m 65 #[.val (.int x0)] [(.int (1 : Int32))])) _
                  exact kt
                · refine XS.icmpNo X0.here hx rfl (hb hby d1_51) rfl (feq hc51nyyynn).1 ?_
                  show Steps p.tables e below (s₁.setTop (mkF m 54 #[.val (.int x0)] [])) _
                  refine XS.iloadN X0.here hx rfl (hb hby d1_54) rfl ?_
                  show Steps p.tables e below (s₁.setTop (mkF m 55 #[.val (.int x0)] [(.int x0)])) _
                  refine XS.bipush X0.here hx rfl (hb hby d1_55) ?_
                  show Steps p.tables e below (s₁.setTop (mkF m 57 #[.val (.int x0)] [(.int (45 : Int32)), (.int x0)])) _
                  by_cases hc57nyyynnn : x0 = (45 : Int32)
                  · refine XS.icmpNo X0.here hx rfl (hb hby d1_57) rfl (teq hc57nyyynnn).2 ?_
                    show Steps p.tables e below (s₁.setTop (mkF m 60 #[.val (.int x0)] [])) _
                    try rw [if_neg hc3] at hy
                    try rw [if_pos hc9n] at hy
                    try rw [if_pos hc15ny] at hy
                    try rw [if_pos hc27nyy] at hy
                    try rw [if_neg hc39nyyy] at hy
                    try rw [if_neg hc45nyyyn] at hy
                    try rw [if_neg hc51nyyynn] at hy
                    try rw [if_pos hc57nyyynnn] at hy
                    rw [hy] at kt
                    refine XS.iconst X0.here hx rfl (hb hby d1_60) ?_
                    show Steps p.tables e below (s₁.setTop (mkF m 61 #[.val (.int x0)] [(.int (1 : Int32))])) _
                    refine XS.goto X0.here hx rfl (pc0 := 61) (pc' := 65) rfl (hb hby d1_61) (by decide) (by decide) ?_
                    show Steps p.tables e below (s₁.setTop (mkF m 65 #[.val (.int x0)] [(.int (1 : Int32))])) _
                    exact kt
                  · refine XS.icmpYes X0.here hx rfl (pc0 := 57) (pc' := 64) rfl (hb hby d1_57) rfl (feq hc57nyyynnn).2 (by decide) (by decide) ?_
                    show Steps p.tables e below (s₁.setTop (mkF m 64 #[.val (.int x0)] [])) _
                    try rw [if_neg hc3] at hy
                    try rw [if_pos hc9n] at hy
                    try rw [if_pos hc15ny] at hy
                    try rw [if_pos hc27nyy] at hy
                    try rw [if_neg hc39nyyy] at hy
                    try rw [if_neg hc45nyyyn] at hy
                    try rw [if_neg hc51nyyynn] at hy
                    try rw [if_neg hc57nyyynnn] at hy
                    rw [hy] at kt
                    refine XS.iconst X0.here hx rfl (hb hby d1_64) ?_
                    show Steps p.tables e below (s₁.setTop (mkF m 65 #[.val (.int x0)] [(.int (0 : Int32))])) _
                    exact kt
          · refine XS.icmpNo X0.here hx rfl (hb hby d1_27) rfl (flt hc27nyy).1 ?_
            show Steps p.tables e below (s₁.setTop (mkF m 30 #[.val (.int x0)] [])) _
            refine XS.iloadN X0.here hx rfl (hb hby d1_30) rfl ?_
            show Steps p.tables e below (s₁.setTop (mkF m 31 #[.val (.int x0)] [(.int x0)])) _
            refine XS.bipush X0.here hx rfl (hb hby d1_31) ?_
            show Steps p.tables e below (s₁.setTop (mkF m 33 #[.val (.int x0)] [(.int (57 : Int32)), (.int x0)])) _
            by_cases hc33nyyn : (57 : Int32) < x0
            · refine XS.icmpNo X0.here hx rfl (hb hby d1_33) rfl (tlt hc33nyyn).2.2.2 ?_
              show Steps p.tables e below (s₁.setTop (mkF m 36 #[.val (.int x0)] [])) _
              refine XS.iloadN X0.here hx rfl (hb hby d1_36) rfl ?_
              show Steps p.tables e below (s₁.setTop (mkF m 37 #[.val (.int x0)] [(.int x0)])) _
              refine XS.bipush X0.here hx rfl (hb hby d1_37) ?_
              show Steps p.tables e below (s₁.setTop (mkF m 39 #[.val (.int x0)] [(.int (95 : Int32)), (.int x0)])) _
              by_cases hc39nyyny : x0 = (95 : Int32)
              · refine XS.icmpYes X0.here hx rfl (pc0 := 39) (pc' := 60) rfl (hb hby d1_39) rfl (teq hc39nyyny).1 (by decide) (by decide) ?_
                show Steps p.tables e below (s₁.setTop (mkF m 60 #[.val (.int x0)] [])) _
                try rw [if_neg hc3] at hy
                try rw [if_pos hc9n] at hy
                try rw [if_pos hc15ny] at hy
                try rw [if_neg hc27nyy] at hy
                try rw [if_pos hc33nyyn] at hy
                try rw [if_pos hc39nyyny] at hy
                rw [hy] at kt
                refine XS.iconst X0.here hx rfl (hb hby d1_60) ?_
                show Steps p.tables e below (s₁.setTop (mkF m 61 #[.val (.int x0)] [(.int (1 : Int32))])) _
                refine XS.goto X0.here hx rfl (pc0 := 61) (pc' := 65) rfl (hb hby d1_61) (by decide) (by decide) ?_
                show Steps p.tables e below (s₁.setTop (mkF m 65 #[.val (.int x0)] [(.int (1 : Int32))])) _
                exact kt
              · refine XS.icmpNo X0.here hx rfl (hb hby d1_39) rfl (feq hc39nyyny).1 ?_
                show Steps p.tables e below (s₁.setTop (mkF m 42 #[.val (.int x0)] [])) _
                refine XS.iloadN X0.here hx rfl (hb hby d1_42) rfl ?_
                show Steps p.tables e below (s₁.setTop (mkF m 43 #[.val (.int x0)] [(.int x0)])) _
                refine XS.bipush X0.here hx rfl (hb hby d1_43) ?_
                show Steps p.tables e below (s₁.setTop (mkF m 45 #[.val (.int x0)] [(.int (39 : Int32)), (.int x0)])) _
                by_cases hc45nyynyn : x0 = (39 : Int32)
                · refine XS.icmpYes X0.here hx rfl (pc0 := 45) (pc' := 60) rfl (hb hby d1_45) rfl (teq hc45nyynyn).1 (by decide) (by decide) ?_
                  show Steps p.tables e below (s₁.setTop (mkF m 60 #[.val (.int x0)] [])) _
                  try rw [if_neg hc3] at hy
                  try rw [if_pos hc9n] at hy
                  try rw [if_pos hc15ny] at hy
                  try rw [if_neg hc27nyy] at hy
                  try rw [if_pos hc33nyyn] at hy
                  try rw [if_neg hc39nyyny] at hy
                  try rw [if_pos hc45nyynyn] at hy
                  rw [hy] at kt
                  refine XS.iconst X0.here hx rfl (hb hby d1_60) ?_
                  show Steps p.tables e below (s₁.setTop (mkF m 61 #[.val (.int x0)] [(.int (1 : Int32))])) _
                  refine XS.goto X0.here hx rfl (pc0 := 61) (pc' := 65) rfl (hb hby d1_61) (by decide) (by decide) ?_
                  show Steps p.tables e below (s₁.setTop (mkF m 65 #[.val (.int x0)] [(.int (1 : Int32))])) _
                  exact kt
                · refine XS.icmpNo X0.here hx rfl (hb hby d1_45) rfl (feq hc45nyynyn).1 ?_
                  show Steps p.tables e below (s₁.setTop (mkF m 48 #[.val (.int x0)] [])) _
                  refine XS.iloadN X0.here hx rfl (hb hby d1_48) rfl ?_
                  show Steps p.tables e below (s₁.setTop (mkF m 49 #[.val (.int x0)] [(.int x0)])) _
                  refine XS.bipush X0.here hx rfl (hb hby d1_49) ?_
                  show Steps p.tables e below (s₁.setTop (mkF m 51 #[.val (.int x0)] [(.int (46 : Int32)), (.int x0)])) _
                  by_cases hc51nyynynn : x0 = (46 : Int32)
                  · refine XS.icmpYes X0.here hx rfl (pc0 := 51) (pc' := 60) rfl (hb hby d1_51) rfl (teq hc51nyynynn).1 (by decide) (by decide) ?_
                    show Steps p.tables e below (s₁.setTop (mkF m 60 #[.val (.int x0)] [])) _
                    try rw [if_neg hc3] at hy
                    try rw [if_pos hc9n] at hy
                    try rw [if_pos hc15ny] at hy
                    try rw [if_neg hc27nyy] at hy
                    try rw [if_pos hc33nyyn] at hy
                    try rw [if_neg hc39nyyny] at hy
                    try rw [if_neg hc45nyynyn] at hy
                    try rw [if_pos hc51nyynynn] at hy
                    rw [hy] at kt
                    refine XS.iconst X0.here hx rfl (hb hby d1_60) ?_
                    show Steps p.tables e below (s₁.setTop (mkF m 61 #[.val (.int x0)] [(.int (1 : Int32))])) _
                    refine XS.goto X0.here hx rfl (pc0 := 61) (pc' := 65) rfl (hb hby d1_61) (by decide) (by decide) ?_
                    show Steps p.tables e below (s₁.setTop (mkF m 65 #[.val (.int x0)] [(.int (1 : Int32))])) _
                    exact kt
                  · refine XS.icmpNo X0.here hx rfl (hb hby d1_51) rfl (feq hc51nyynynn).1 ?_
                    show Steps p.tables e below (s₁.setTop (mkF m 54 #[.val (.int x0)] [])) _
                    refine XS.iloadN X0.here hx rfl (hb hby d1_54) rfl ?_
                    show Steps p.tables e below (s₁.setTop (mkF m 55 #[.val (.int x0)] [(.int x0)])) _
                    refine XS.bipush X0.here hx rfl (hb hby d1_55) ?_
                    show Steps p.tables e below (s₁.setTop (mkF m 57 #[.val (.int x0)] [(.int (45 : Int32)), (.int x0)])) _
                    by_cases hc57nyynynnn : x0 = (45 : Int32)
                    · refine XS.icmpNo X0.here hx rfl (hb hby d1_57) rfl (teq hc57nyynynnn).2 ?_
                      show Steps p.tables e below (s₁.setTop (mkF m 60 #[.val (.int x0)] [])) _
                      try rw [if_neg hc3] at hy
                      try rw [if_pos hc9n] at hy
                      try rw [if_pos hc15ny] at hy
                      try rw [if_neg hc27nyy] at hy
                      try rw [if_pos hc33nyyn] at hy
                      try rw [if_neg hc39nyyny] at hy
                      try rw [if_neg hc45nyynyn] at hy
                      try rw [if_neg hc51nyynynn] at hy
                      try rw [if_pos hc57nyynynnn] at hy
                      rw [hy] at kt
                      refine XS.iconst X0.here hx rfl (hb hby d1_60) ?_
                      show Steps p.tables e below (s₁.setTop (mkF m 61 #[.val (.int x0)] [(.int (1 : Int32))])) _
                      refine XS.goto X0.here hx rfl (pc0 := 61) (pc' := 65) rfl (hb hby d1_61) (by decide) (by decide) ?_
                      show Steps p.tables e below (s₁.setTop (mkF m 65 #[.val (.int x0)] [(.int (1 : Int32))])) _
                      exact kt
                    · refine XS.icmpYes X0.here hx rfl (pc0 := 57) (pc' := 64) rfl (hb hby d1_57) rfl (feq hc57nyynynnn).2 (by decide) (by decide) ?_
                      show Steps p.tables e below (s₁.setTop (mkF m 64 #[.val (.int x0)] [])) _
                      try rw [if_neg hc3] at hy
                      try rw [if_pos hc9n] at hy
                      try rw [if_pos hc15ny] at hy
                      try rw [if_neg hc27nyy] at hy
                      try rw [if_pos hc33nyyn] at hy
                      try rw [if_neg hc39nyyny] at hy
                      try rw [if_neg hc45nyynyn] at hy
                      try rw [if_neg hc51nyynynn] at hy
                      try rw [if_neg hc57nyynynnn] at hy
                      rw [hy] at kt
                      refine XS.iconst X0.here hx rfl (hb hby d1_64) ?_
                      show Steps p.tables e below (s₁.setTop (mkF m 65 #[.val (.int x0)] [(.int (0 : Int32))])) _
                      exact kt
            · refine XS.icmpYes X0.here hx rfl (pc0 := 33) (pc' := 60) rfl (hb hby d1_33) rfl (flt hc33nyyn).2.2.2 (by decide) (by decide) ?_
              show Steps p.tables e below (s₁.setTop (mkF m 60 #[.val (.int x0)] [])) _
              try rw [if_neg hc3] at hy
              try rw [if_pos hc9n] at hy
              try rw [if_pos hc15ny] at hy
              try rw [if_neg hc27nyy] at hy
              try rw [if_neg hc33nyyn] at hy
              rw [hy] at kt
              refine XS.iconst X0.here hx rfl (hb hby d1_60) ?_
              show Steps p.tables e below (s₁.setTop (mkF m 61 #[.val (.int x0)] [(.int (1 : Int32))])) _
              refine XS.goto X0.here hx rfl (pc0 := 61) (pc' := 65) rfl (hb hby d1_61) (by decide) (by decide) ?_
              show Steps p.tables e below (s₁.setTop (mkF m 65 #[.val (.int x0)] [(.int (1 : Int32))])) _
              exact kt
        · refine XS.icmpNo X0.here hx rfl (hb hby d1_15) rfl (flt hc15ny).1 ?_
          show Steps p.tables e below (s₁.setTop (mkF m 18 #[.val (.int x0)] [])) _
          refine XS.iloadN X0.here hx rfl (hb hby d1_18) rfl ?_
          show Steps p.tables e below (s₁.setTop (mkF m 19 #[.val (.int x0)] [(.int x0)])) _
          refine XS.bipush X0.here hx rfl (hb hby d1_19) ?_
          show Steps p.tables e below (s₁.setTop (mkF m 21 #[.val (.int x0)] [(.int (90 : Int32)), (.int x0)])) _
          by_cases hc21nyn : (90 : Int32) < x0
          · refine XS.icmpNo X0.here hx rfl (hb hby d1_21) rfl (tlt hc21nyn).2.2.2 ?_
            show Steps p.tables e below (s₁.setTop (mkF m 24 #[.val (.int x0)] [])) _
            refine XS.iloadN X0.here hx rfl (hb hby d1_24) rfl ?_
            show Steps p.tables e below (s₁.setTop (mkF m 25 #[.val (.int x0)] [(.int x0)])) _
            refine XS.bipush X0.here hx rfl (hb hby d1_25) ?_
            show Steps p.tables e below (s₁.setTop (mkF m 27 #[.val (.int x0)] [(.int (48 : Int32)), (.int x0)])) _
            by_cases hc27nyny : x0 < (48 : Int32)
            · refine XS.icmpYes X0.here hx rfl (pc0 := 27) (pc' := 36) rfl (hb hby d1_27) rfl (tlt hc27nyny).1 (by decide) (by decide) ?_
              show Steps p.tables e below (s₁.setTop (mkF m 36 #[.val (.int x0)] [])) _
              refine XS.iloadN X0.here hx rfl (hb hby d1_36) rfl ?_
              show Steps p.tables e below (s₁.setTop (mkF m 37 #[.val (.int x0)] [(.int x0)])) _
              refine XS.bipush X0.here hx rfl (hb hby d1_37) ?_
              show Steps p.tables e below (s₁.setTop (mkF m 39 #[.val (.int x0)] [(.int (95 : Int32)), (.int x0)])) _
              by_cases hc39nynyy : x0 = (95 : Int32)
              · refine XS.icmpYes X0.here hx rfl (pc0 := 39) (pc' := 60) rfl (hb hby d1_39) rfl (teq hc39nynyy).1 (by decide) (by decide) ?_
                show Steps p.tables e below (s₁.setTop (mkF m 60 #[.val (.int x0)] [])) _
                try rw [if_neg hc3] at hy
                try rw [if_pos hc9n] at hy
                try rw [if_neg hc15ny] at hy
                try rw [if_pos hc21nyn] at hy
                try rw [if_pos hc27nyny] at hy
                try rw [if_pos hc39nynyy] at hy
                rw [hy] at kt
                refine XS.iconst X0.here hx rfl (hb hby d1_60) ?_
                show Steps p.tables e below (s₁.setTop (mkF m 61 #[.val (.int x0)] [(.int (1 : Int32))])) _
                refine XS.goto X0.here hx rfl (pc0 := 61) (pc' := 65) rfl (hb hby d1_61) (by decide) (by decide) ?_
                show Steps p.tables e below (s₁.setTop (mkF m 65 #[.val (.int x0)] [(.int (1 : Int32))])) _
                exact kt
              · refine XS.icmpNo X0.here hx rfl (hb hby d1_39) rfl (feq hc39nynyy).1 ?_
                show Steps p.tables e below (s₁.setTop (mkF m 42 #[.val (.int x0)] [])) _
                refine XS.iloadN X0.here hx rfl (hb hby d1_42) rfl ?_
                show Steps p.tables e below (s₁.setTop (mkF m 43 #[.val (.int x0)] [(.int x0)])) _
                refine XS.bipush X0.here hx rfl (hb hby d1_43) ?_
                show Steps p.tables e below (s₁.setTop (mkF m 45 #[.val (.int x0)] [(.int (39 : Int32)), (.int x0)])) _
                by_cases hc45nynyyn : x0 = (39 : Int32)
                · refine XS.icmpYes X0.here hx rfl (pc0 := 45) (pc' := 60) rfl (hb hby d1_45) rfl (teq hc45nynyyn).1 (by decide) (by decide) ?_
                  show Steps p.tables e below (s₁.setTop (mkF m 60 #[.val (.int x0)] [])) _
                  try rw [if_neg hc3] at hy
                  try rw [if_pos hc9n] at hy
                  try rw [if_neg hc15ny] at hy
                  try rw [if_pos hc21nyn] at hy
                  try rw [if_pos hc27nyny] at hy
                  try rw [if_neg hc39nynyy] at hy
                  try rw [if_pos hc45nynyyn] at hy
                  rw [hy] at kt
                  refine XS.iconst X0.here hx rfl (hb hby d1_60) ?_
                  show Steps p.tables e below (s₁.setTop (mkF m 61 #[.val (.int x0)] [(.int (1 : Int32))])) _
                  refine XS.goto X0.here hx rfl (pc0 := 61) (pc' := 65) rfl (hb hby d1_61) (by decide) (by decide) ?_
                  show Steps p.tables e below (s₁.setTop (mkF m 65 #[.val (.int x0)] [(.int (1 : Int32))])) _
                  exact kt
                · refine XS.icmpNo X0.here hx rfl (hb hby d1_45) rfl (feq hc45nynyyn).1 ?_
                  show Steps p.tables e below (s₁.setTop (mkF m 48 #[.val (.int x0)] [])) _
                  refine XS.iloadN X0.here hx rfl (hb hby d1_48) rfl ?_
                  show Steps p.tables e below (s₁.setTop (mkF m 49 #[.val (.int x0)] [(.int x0)])) _
                  refine XS.bipush X0.here hx rfl (hb hby d1_49) ?_
                  show Steps p.tables e below (s₁.setTop (mkF m 51 #[.val (.int x0)] [(.int (46 : Int32)), (.int x0)])) _
                  by_cases hc51nynyynn : x0 = (46 : Int32)
                  · refine XS.icmpYes X0.here hx rfl (pc0 := 51) (pc' := 60) rfl (hb hby d1_51) rfl (teq hc51nynyynn).1 (by decide) (by decide) ?_
                    show Steps p.tables e below (s₁.setTop (mkF m 60 #[.val (.int x0)] [])) _
                    try rw [if_neg hc3] at hy
                    try rw [if_pos hc9n] at hy
                    try rw [if_neg hc15ny] at hy
                    try rw [if_pos hc21nyn] at hy
                    try rw [if_pos hc27nyny] at hy
                    try rw [if_neg hc39nynyy] at hy
                    try rw [if_neg hc45nynyyn] at hy
                    try rw [if_pos hc51nynyynn] at hy
                    rw [hy] at kt
                    refine XS.iconst X0.here hx rfl (hb hby d1_60) ?_
                    show Steps p.tables e below (s₁.setTop (mkF m 61 #[.val (.int x0)] [(.int (1 : Int32))])) _
                    refine XS.goto X0.here hx rfl (pc0 := 61) (pc' := 65) rfl (hb hby d1_61) (by decide) (by decide) ?_
                    show Steps p.tables e below (s₁.setTop (mkF m 65 #[.val (.int x0)] [(.int (1 : Int32))])) _
                    exact kt
                  · refine XS.icmpNo X0.here hx rfl (hb hby d1_51) rfl (feq hc51nynyynn).1 ?_
                    show Steps p.tables e below (s₁.setTop (mkF m 54 #[.val (.int x0)] [])) _
                    refine XS.iloadN X0.here hx rfl (hb hby d1_54) rfl ?_
                    show Steps p.tables e below (s₁.setTop (mkF m 55 #[.val (.int x0)] [(.int x0)])) _
                    refine XS.bipush X0.here hx rfl (hb hby d1_55) ?_
                    show Steps p.tables e below (s₁.setTop (mkF m 57 #[.val (.int x0)] [(.int (45 : Int32)), (.int x0)])) _
                    by_cases hc57nynyynnn : x0 = (45 : Int32)
                    · refine XS.icmpNo X0.here hx rfl (hb hby d1_57) rfl (teq hc57nynyynnn).2 ?_
                      show Steps p.tables e below (s₁.setTop (mkF m 60 #[.val (.int x0)] [])) _
                      try rw [if_neg hc3] at hy
                      try rw [if_pos hc9n] at hy
                      try rw [if_neg hc15ny] at hy
                      try rw [if_pos hc21nyn] at hy
                      try rw [if_pos hc27nyny] at hy
                      try rw [if_neg hc39nynyy] at hy
                      try rw [if_neg hc45nynyyn] at hy
                      try rw [if_neg hc51nynyynn] at hy
                      try rw [if_pos hc57nynyynnn] at hy
                      rw [hy] at kt
                      refine XS.iconst X0.here hx rfl (hb hby d1_60) ?_
                      show Steps p.tables e below (s₁.setTop (mkF m 61 #[.val (.int x0)] [(.int (1 : Int32))])) _
                      refine XS.goto X0.here hx rfl (pc0 := 61) (pc' := 65) rfl (hb hby d1_61) (by decide) (by decide) ?_
                      show Steps p.tables e below (s₁.setTop (mkF m 65 #[.val (.int x0)] [(.int (1 : Int32))])) _
                      exact kt
                    · refine XS.icmpYes X0.here hx rfl (pc0 := 57) (pc' := 64) rfl (hb hby d1_57) rfl (feq hc57nynyynnn).2 (by decide) (by decide) ?_
                      show Steps p.tables e below (s₁.setTop (mkF m 64 #[.val (.int x0)] [])) _
                      try rw [if_neg hc3] at hy
                      try rw [if_pos hc9n] at hy
                      try rw [if_neg hc15ny] at hy
                      try rw [if_pos hc21nyn] at hy
                      try rw [if_pos hc27nyny] at hy
                      try rw [if_neg hc39nynyy] at hy
                      try rw [if_neg hc45nynyyn] at hy
                      try rw [if_neg hc51nynyynn] at hy
                      try rw [if_neg hc57nynyynnn] at hy
                      rw [hy] at kt
                      refine XS.iconst X0.here hx rfl (hb hby d1_64) ?_
                      show Steps p.tables e below (s₁.setTop (mkF m 65 #[.val (.int x0)] [(.int (0 : Int32))])) _
                      exact kt
            · refine XS.icmpNo X0.here hx rfl (hb hby d1_27) rfl (flt hc27nyny).1 ?_
              show Steps p.tables e below (s₁.setTop (mkF m 30 #[.val (.int x0)] [])) _
              refine XS.iloadN X0.here hx rfl (hb hby d1_30) rfl ?_
              show Steps p.tables e below (s₁.setTop (mkF m 31 #[.val (.int x0)] [(.int x0)])) _
              refine XS.bipush X0.here hx rfl (hb hby d1_31) ?_
              show Steps p.tables e below (s₁.setTop (mkF m 33 #[.val (.int x0)] [(.int (57 : Int32)), (.int x0)])) _
              by_cases hc33nynyn : (57 : Int32) < x0
              · refine XS.icmpNo X0.here hx rfl (hb hby d1_33) rfl (tlt hc33nynyn).2.2.2 ?_
                show Steps p.tables e below (s₁.setTop (mkF m 36 #[.val (.int x0)] [])) _
                refine XS.iloadN X0.here hx rfl (hb hby d1_36) rfl ?_
                show Steps p.tables e below (s₁.setTop (mkF m 37 #[.val (.int x0)] [(.int x0)])) _
                refine XS.bipush X0.here hx rfl (hb hby d1_37) ?_
                show Steps p.tables e below (s₁.setTop (mkF m 39 #[.val (.int x0)] [(.int (95 : Int32)), (.int x0)])) _
                by_cases hc39nynyny : x0 = (95 : Int32)
                · refine XS.icmpYes X0.here hx rfl (pc0 := 39) (pc' := 60) rfl (hb hby d1_39) rfl (teq hc39nynyny).1 (by decide) (by decide) ?_
                  show Steps p.tables e below (s₁.setTop (mkF m 60 #[.val (.int x0)] [])) _
                  try rw [if_neg hc3] at hy
                  try rw [if_pos hc9n] at hy
                  try rw [if_neg hc15ny] at hy
                  try rw [if_pos hc21nyn] at hy
                  try rw [if_neg hc27nyny] at hy
                  try rw [if_pos hc33nynyn] at hy
                  try rw [if_pos hc39nynyny] at hy
                  rw [hy] at kt
                  refine XS.iconst X0.here hx rfl (hb hby d1_60) ?_
                  show Steps p.tables e below (s₁.setTop (mkF m 61 #[.val (.int x0)] [(.int (1 : Int32))])) _
                  refine XS.goto X0.here hx rfl (pc0 := 61) (pc' := 65) rfl (hb hby d1_61) (by decide) (by decide) ?_
                  show Steps p.tables e below (s₁.setTop (mkF m 65 #[.val (.int x0)] [(.int (1 : Int32))])) _
                  exact kt
                · refine XS.icmpNo X0.here hx rfl (hb hby d1_39) rfl (feq hc39nynyny).1 ?_
                  show Steps p.tables e below (s₁.setTop (mkF m 42 #[.val (.int x0)] [])) _
                  refine XS.iloadN X0.here hx rfl (hb hby d1_42) rfl ?_
                  show Steps p.tables e below (s₁.setTop (mkF m 43 #[.val (.int x0)] [(.int x0)])) _
                  refine XS.bipush X0.here hx rfl (hb hby d1_43) ?_
                  show Steps p.tables e below (s₁.setTop (mkF m 45 #[.val (.int x0)] [(.int (39 : Int32)), (.int x0)])) _
                  by_cases hc45nynynyn : x0 = (39 : Int32)
                  · refine XS.icmpYes X0.here hx rfl (pc0 := 45) (pc' := 60) rfl (hb hby d1_45) rfl (teq hc45nynynyn).1 (by decide) (by decide) ?_
                    show Steps p.tables e below (s₁.setTop (mkF m 60 #[.val (.int x0)] [])) _
                    try rw [if_neg hc3] at hy
                    try rw [if_pos hc9n] at hy
                    try rw [if_neg hc15ny] at hy
                    try rw [if_pos hc21nyn] at hy
                    try rw [if_neg hc27nyny] at hy
                    try rw [if_pos hc33nynyn] at hy
                    try rw [if_neg hc39nynyny] at hy
                    try rw [if_pos hc45nynynyn] at hy
                    rw [hy] at kt
                    refine XS.iconst X0.here hx rfl (hb hby d1_60) ?_
                    show Steps p.tables e below (s₁.setTop (mkF m 61 #[.val (.int x0)] [(.int (1 : Int32))])) _
                    refine XS.goto X0.here hx rfl (pc0 := 61) (pc' := 65) rfl (hb hby d1_61) (by decide) (by decide) ?_
                    show Steps p.tables e below (s₁.setTop (mkF m 65 #[.val (.int x0)] [(.int (1 : Int32))])) _
                    exact kt
                  · refine XS.icmpNo X0.here hx rfl (hb hby d1_45) rfl (feq hc45nynynyn).1 ?_
                    show Steps p.tables e below (s₁.setTop (mkF m 48 #[.val (.int x0)] [])) _
                    refine XS.iloadN X0.here hx rfl (hb hby d1_48) rfl ?_
                    show Steps p.tables e below (s₁.setTop (mkF m 49 #[.val (.int x0)] [(.int x0)])) _
                    refine XS.bipush X0.here hx rfl (hb hby d1_49) ?_
                    show Steps p.tables e below (s₁.setTop (mkF m 51 #[.val (.int x0)] [(.int (46 : Int32)), (.int x0)])) _
                    by_cases hc51nynynynn : x0 = (46 : Int32)
                    · refine XS.icmpYes X0.here hx rfl (pc0 := 51) (pc' := 60) rfl (hb hby d1_51) rfl (teq hc51nynynynn).1 (by decide) (by decide) ?_
                      show Steps p.tables e below (s₁.setTop (mkF m 60 #[.val (.int x0)] [])) _
                      try rw [if_neg hc3] at hy
                      try rw [if_pos hc9n] at hy
                      try rw [if_neg hc15ny] at hy
                      try rw [if_pos hc21nyn] at hy
                      try rw [if_neg hc27nyny] at hy
                      try rw [if_pos hc33nynyn] at hy
                      try rw [if_neg hc39nynyny] at hy
                      try rw [if_neg hc45nynynyn] at hy
                      try rw [if_pos hc51nynynynn] at hy
                      rw [hy] at kt
                      refine XS.iconst X0.here hx rfl (hb hby d1_60) ?_
                      show Steps p.tables e below (s₁.setTop (mkF m 61 #[.val (.int x0)] [(.int (1 : Int32))])) _
                      refine XS.goto X0.here hx rfl (pc0 := 61) (pc' := 65) rfl (hb hby d1_61) (by decide) (by decide) ?_
                      show Steps p.tables e below (s₁.setTop (mkF m 65 #[.val (.int x0)] [(.int (1 : Int32))])) _
                      exact kt
                    · refine XS.icmpNo X0.here hx rfl (hb hby d1_51) rfl (feq hc51nynynynn).1 ?_
                      show Steps p.tables e below (s₁.setTop (mkF m 54 #[.val (.int x0)] [])) _
                      refine XS.iloadN X0.here hx rfl (hb hby d1_54) rfl ?_
                      show Steps p.tables e below (s₁.setTop (mkF m 55 #[.val (.int x0)] [(.int x0)])) _
                      refine XS.bipush X0.here hx rfl (hb hby d1_55) ?_
                      show Steps p.tables e below (s₁.setTop (mkF m 57 #[.val (.int x0)] [(.int (45 : Int32)), (.int x0)])) _
                      by_cases hc57nynynynnn : x0 = (45 : Int32)
                      · refine XS.icmpNo X0.here hx rfl (hb hby d1_57) rfl (teq hc57nynynynnn).2 ?_
                        show Steps p.tables e below (s₁.setTop (mkF m 60 #[.val (.int x0)] [])) _
                        try rw [if_neg hc3] at hy
                        try rw [if_pos hc9n] at hy
                        try rw [if_neg hc15ny] at hy
                        try rw [if_pos hc21nyn] at hy
                        try rw [if_neg hc27nyny] at hy
                        try rw [if_pos hc33nynyn] at hy
                        try rw [if_neg hc39nynyny] at hy
                        try rw [if_neg hc45nynynyn] at hy
                        try rw [if_neg hc51nynynynn] at hy
                        try rw [if_pos hc57nynynynnn] at hy
                        rw [hy] at kt
                        refine XS.iconst X0.here hx rfl (hb hby d1_60) ?_
                        show Steps p.tables e below (s₁.setTop (mkF m 61 #[.val (.int x0)] [(.int (1 : Int32))])) _
                        refine XS.goto X0.here hx rfl (pc0 := 61) (pc' := 65) rfl (hb hby d1_61) (by decide) (by decide) ?_
                        show Steps p.tables e below (s₁.setTop (mkF m 65 #[.val (.int x0)] [(.int (1 : Int32))])) _
                        exact kt
                      · refine XS.icmpYes X0.here hx rfl (pc0 := 57) (pc' := 64) rfl (hb hby d1_57) rfl (feq hc57nynynynnn).2 (by decide) (by decide) ?_
                        show Steps p.tables e below (s₁.setTop (mkF m 64 #[.val (.int x0)] [])) _
                        try rw [if_neg hc3] at hy
                        try rw [if_pos hc9n] at hy
                        try rw [if_neg hc15ny] at hy
                        try rw [if_pos hc21nyn] at hy
                        try rw [if_neg hc27nyny] at hy
                        try rw [if_pos hc33nynyn] at hy
                        try rw [if_neg hc39nynyny] at hy
                        try rw [if_neg hc45nynynyn] at hy
                        try rw [if_neg hc51nynynynn] at hy
                        try rw [if_neg hc57nynynynnn] at hy
                        rw [hy] at kt
                        refine XS.iconst X0.here hx rfl (hb hby d1_64) ?_
                        show Steps p.tables e below (s₁.setTop (mkF m 65 #[.val (.int x0)] [(.int (0 : Int32))])) _
                        exact kt
              · refine XS.icmpYes X0.here hx rfl (pc0 := 33) (pc' := 60) rfl (hb hby d1_33) rfl (flt hc33nynyn).2.2.2 (by decide) (by decide) ?_
                show Steps p.tables e below (s₁.setTop (mkF m 60 #[.val (.int x0)] [])) _
                try rw [if_neg hc3] at hy
                try rw [if_pos hc9n] at hy
                try rw [if_neg hc15ny] at hy
                try rw [if_pos hc21nyn] at hy
                try rw [if_neg hc27nyny] at hy
                try rw [if_neg hc33nynyn] at hy
                rw [hy] at kt
                refine XS.iconst X0.here hx rfl (hb hby d1_60) ?_
                show Steps p.tables e below (s₁.setTop (mkF m 61 #[.val (.int x0)] [(.int (1 : Int32))])) _
                refine XS.goto X0.here hx rfl (pc0 := 61) (pc' := 65) rfl (hb hby d1_61) (by decide) (by decide) ?_
                show Steps p.tables e below (s₁.setTop (mkF m 65 #[.val (.int x0)] [(.int (1 : Int32))])) _
                exact kt
          · refine XS.icmpYes X0.here hx rfl (pc0 := 21) (pc' := 60) rfl (hb hby d1_21) rfl (flt hc21nyn).2.2.2 (by decide) (by decide) ?_
            show Steps p.tables e below (s₁.setTop (mkF m 60 #[.val (.int x0)] [])) _
            try rw [if_neg hc3] at hy
            try rw [if_pos hc9n] at hy
            try rw [if_neg hc15ny] at hy
            try rw [if_neg hc21nyn] at hy
            rw [hy] at kt
            refine XS.iconst X0.here hx rfl (hb hby d1_60) ?_
            show Steps p.tables e below (s₁.setTop (mkF m 61 #[.val (.int x0)] [(.int (1 : Int32))])) _
            refine XS.goto X0.here hx rfl (pc0 := 61) (pc' := 65) rfl (hb hby d1_61) (by decide) (by decide) ?_
            show Steps p.tables e below (s₁.setTop (mkF m 65 #[.val (.int x0)] [(.int (1 : Int32))])) _
            exact kt
      · refine XS.icmpYes X0.here hx rfl (pc0 := 9) (pc' := 60) rfl (hb hby d1_9) rfl (flt hc9n).2.2.2 (by decide) (by decide) ?_
        show Steps p.tables e below (s₁.setTop (mkF m 60 #[.val (.int x0)] [])) _
        try rw [if_neg hc3] at hy
        try rw [if_neg hc9n] at hy
        rw [hy] at kt
        refine XS.iconst X0.here hx rfl (hb hby d1_60) ?_
        show Steps p.tables e below (s₁.setTop (mkF m 61 #[.val (.int x0)] [(.int (1 : Int32))])) _
        refine XS.goto X0.here hx rfl (pc0 := 61) (pc' := 65) rfl (hb hby d1_61) (by decide) (by decide) ?_
        show Steps p.tables e below (s₁.setTop (mkF m 65 #[.val (.int x0)] [(.int (1 : Int32))])) _
        exact kt
  refine RunsTo.retN X0 hx (t := .boolean) Bd.returns (by simp) Bd.notSynchronized (hb hby d1_65) ?_ (by decide) (by decide)
  rw [e0]
  refine ⟨?_, N0, rfl⟩
  have hz : nar .boolean y = own_char x0 := by
    rw [hy]; simp only [own_char, nar, Int32.lt_iff_toInt_lt, ← Int32.toInt_inj, show (0 : Int32).toInt = 0 from rfl, show (1 : Int32).toInt = 1 from rfl, show (65 : Int32).toInt = 65 from rfl, show (90 : Int32).toInt = 90 from rfl, show (97 : Int32).toInt = 97 from rfl, show (122 : Int32).toInt = 122 from rfl, show (95 : Int32).toInt = 95 from rfl, show (48 : Int32).toInt = 48 from rfl, show (57 : Int32).toInt = 57 from rfl, show (39 : Int32).toInt = 39 from rfl, show (46 : Int32).toInt = 46 from rfl, show (45 : Int32).toInt = 45 from rfl, show (9 : Int32).toInt = 9 from rfl]
    generalize x0.toInt = k
    repeat' split
    all_goals first | rfl | (exfalso; omega)
  rw [hz]
theorem d2_0 : decode method_3_code 0 = .ok (.iload_n 0, 1) := by decide +kernel
theorem d2_1 : decode method_3_code 1 = .ok (.bipush 32, 2) := by decide +kernel
theorem d2_3 : decode method_3_code 3 = .ok (.ior, 1) := by decide +kernel
theorem d2_4 : decode method_3_code 4 = .ok (.istore_n 1, 1) := by decide +kernel
theorem d2_5 : decode method_3_code 5 = .ok (.iload_n 1, 1) := by decide +kernel
theorem d2_6 : decode method_3_code 6 = .ok (.bipush 97, 2) := by decide +kernel
theorem d2_8 : decode method_3_code 8 = .ok (.if_icmp .lt 13, 3) := by decide +kernel
theorem d2_21 : decode method_3_code 21 = .ok (.iconst 0, 1) := by decide +kernel
theorem d2_11 : decode method_3_code 11 = .ok (.iload_n 1, 1) := by decide +kernel
theorem d2_12 : decode method_3_code 12 = .ok (.bipush 122, 2) := by decide +kernel
theorem d2_14 : decode method_3_code 14 = .ok (.if_icmp .gt 7, 3) := by decide +kernel
theorem d2_17 : decode method_3_code 17 = .ok (.iconst 1, 1) := by decide +kernel
theorem d2_18 : decode method_3_code 18 = .ok (.goto 4, 3) := by decide +kernel
theorem d2_22 : decode method_3_code 22 = .ok (.istore_n 2, 1) := by decide +kernel
theorem d2_23 : decode method_3_code 23 = .ok (.iload_n 0, 1) := by decide +kernel
theorem d2_24 : decode method_3_code 24 = .ok (.bipush 48, 2) := by decide +kernel
theorem d2_26 : decode method_3_code 26 = .ok (.ixor, 1) := by decide +kernel
theorem d2_27 : decode method_3_code 27 = .ok (.istore_n 3, 1) := by decide +kernel
theorem d2_28 : decode method_3_code 28 = .ok (.iload_n 3, 1) := by decide +kernel
theorem d2_29 : decode method_3_code 29 = .ok (.ifCond .lt 13, 3) := by decide +kernel
theorem d2_42 : decode method_3_code 42 = .ok (.iconst 0, 1) := by decide +kernel
theorem d2_32 : decode method_3_code 32 = .ok (.iload_n 3, 1) := by decide +kernel
theorem d2_33 : decode method_3_code 33 = .ok (.bipush 9, 2) := by decide +kernel
theorem d2_35 : decode method_3_code 35 = .ok (.if_icmp .gt 7, 3) := by decide +kernel
theorem d2_38 : decode method_3_code 38 = .ok (.iconst 1, 1) := by decide +kernel
theorem d2_39 : decode method_3_code 39 = .ok (.goto 4, 3) := by decide +kernel
theorem d2_43 : decode method_3_code 43 = .ok (.istore 4, 2) := by decide +kernel
theorem d2_45 : decode method_3_code 45 = .ok (.iload_n 0, 1) := by decide +kernel
theorem d2_46 : decode method_3_code 46 = .ok (.bipush 95, 2) := by decide +kernel
theorem d2_48 : decode method_3_code 48 = .ok (.if_icmp .eq 21, 3) := by decide +kernel
theorem d2_69 : decode method_3_code 69 = .ok (.iconst 1, 1) := by decide +kernel
theorem d2_70 : decode method_3_code 70 = .ok (.goto 4, 3) := by decide +kernel
theorem d2_51 : decode method_3_code 51 = .ok (.iload_n 0, 1) := by decide +kernel
theorem d2_52 : decode method_3_code 52 = .ok (.bipush 39, 2) := by decide +kernel
theorem d2_54 : decode method_3_code 54 = .ok (.if_icmp .eq 15, 3) := by decide +kernel
theorem d2_57 : decode method_3_code 57 = .ok (.iload_n 0, 1) := by decide +kernel
theorem d2_58 : decode method_3_code 58 = .ok (.bipush 46, 2) := by decide +kernel
theorem d2_60 : decode method_3_code 60 = .ok (.if_icmp .eq 9, 3) := by decide +kernel
theorem d2_63 : decode method_3_code 63 = .ok (.iload_n 0, 1) := by decide +kernel
theorem d2_64 : decode method_3_code 64 = .ok (.bipush 45, 2) := by decide +kernel
theorem d2_66 : decode method_3_code 66 = .ok (.if_icmp .ne 7, 3) := by decide +kernel
theorem d2_73 : decode method_3_code 73 = .ok (.iconst 0, 1) := by decide +kernel
theorem d2_74 : decode method_3_code 74 = .ok (.istore 5, 2) := by decide +kernel
theorem d2_76 : decode method_3_code 76 = .ok (.iload_n 2, 1) := by decide +kernel
theorem d2_77 : decode method_3_code 77 = .ok (.ifCond .ne 13, 3) := by decide +kernel
theorem d2_80 : decode method_3_code 80 = .ok (.iload 4, 2) := by decide +kernel
theorem d2_82 : decode method_3_code 82 = .ok (.ifCond .ne 8, 3) := by decide +kernel
theorem d2_85 : decode method_3_code 85 = .ok (.iload 5, 2) := by decide +kernel
theorem d2_87 : decode method_3_code 87 = .ok (.ifCond .eq 7, 3) := by decide +kernel
theorem d2_94 : decode method_3_code 94 = .ok (.iconst 0, 1) := by decide +kernel
theorem d2_90 : decode method_3_code 90 = .ok (.iconst 1, 1) := by decide +kernel
theorem d2_91 : decode method_3_code 91 = .ok (.goto 4, 3) := by decide +kernel
theorem d2_95 : decode method_3_code 95 = .ok (.ireturn, 1) := by decide +kernel
theorem pn_1 : plainName "com/example/libxducer/libxducer/NamesIsNameCharPinLaw" = true := by first | (simp [plainName, overriddenIn]; done) | decide +kernel
theorem ef_rm2 (m : MethodId) (x0 : Int32) : entryFrame m #[(.int x0)] 6 = mkF m 0 #[.val (.int x0), .unset, .unset, .unset, .unset, .unset] [] := by first | (simp [entryFrame, mkF, argsToLocals, Value.category]; done) | rfl
def Q2 (Z : State) (x0 : Int32) (h0 : Heap) (n0 : Nat) (v : Option Value) (h : Heap) (L : List Loc) : Prop := v = some (.int (own_char x0)) ∧ Fr n0 L ∧ h = h0
set_option maxRecDepth 65536 in
set_option maxHeartbeats 40000000 in
theorem rm2 (l : Launch) (Z : State) (a0 : Array Value) (hw : ∀ d ∈ tables_1, d.before a0 Z = true) (ws : List Jvm.Cond) (x0 : Int32) (h0 : Heap) (n0 : Nat) (Z0 : n0 ≤ h0.size)  :
    MetFree l (⟨"com/example/libxducer/libxducer/NamesIsNameCharPinLaw", "expected", "(I)Z"⟩ : MethodName) (head1 (Jvm.Cond.code (⟨"com/example/libxducer/libxducer/NamesIsNameCharPinLaw", "expected", "(I)Z"⟩ : MethodName) method_3_code 6 (some .boolean) :: ws) ({ frames := 0, cells := 0, slots := 0, locals := 0 } : Room)) (fun as' U => as' = #[(.int x0)] ∧ Z.Warmed39 U.vm ∧ U.heap = h0) (fun _ _ _ _ _ => True) (fun _ U o U' => ∃ v L, o = .returned v ∧ Q2 Z x0 h0 n0 v U'.heap L ∧ FrameEnd U o U' L ({ frames := 0, cells := 0, slots := 0, locals := 0 } : Room).cells ({ frames := 0, cells := 0, slots := 0, locals := 0 } : Room).slots) := by
  refine MetFree.of_bodySF (plainFor_of_name pn_1) hisR ?_
  intro p e s m args below meth c s₁ Bd hml0 hP hK
  obtain ⟨rfl, hZ, hh⟩ := hP
  have hx := Bd.exec
  have hby := Bd.bytes
  have hml : c.maxLocals = 6 := hml0
  have hown : s.vm.findClass "com/example/libxducer/libxducer/NamesIsNameCharPinLaw" = some m.cls := findClass_of_methodNamed Bd.named
  have hnm := (name_of_methodNamed Bd.named Bd.method).1
  have X0 : Stand p l e ({ frames := 0, cells := 0, slots := 0, locals := 0 } : Room) s m #[(.int x0)] below meth c s₁ [] 0 0 := Stand.of_body Bd
  have e0 : s₁.heap = h0 := by rw [← hh, Bd.state]; rfl
  have N0 := Fr.nil n0
  refine RunsTo.start (ef_rm2 m x0) ?_
  show RunsTo p e below s s₁ (mkF m 0 #[.val (.int x0), .unset, .unset, .unset, .unset, .unset] []) (Q2 Z x0 h0 n0) ({ frames := 0, cells := 0, slots := 0, locals := 0 } : Room).cells ({ frames := 0, cells := 0, slots := 0, locals := 0 } : Room).slots
  refine RunsTo.of (T' := s₁) (g' := (mkF m 8 #[.val (.int x0), .val (.int (x0 ||| (32 : Int32))), .unset, .unset, .unset, .unset] [(.int (97 : Int32)), (.int (x0 ||| (32 : Int32)))])) (fun t kt => ?_) ?_
  · refine XS.iloadN X0.here hx rfl (hb hby d2_0) rfl ?_
    show Steps p.tables e below (s₁.setTop (mkF m 1 #[.val (.int x0), .unset, .unset, .unset, .unset, .unset] [(.int x0)])) _
    refine XS.bipush X0.here hx rfl (hb hby d2_1) ?_
    show Steps p.tables e below (s₁.setTop (mkF m 3 #[.val (.int x0), .unset, .unset, .unset, .unset, .unset] [(.int (32 : Int32)), (.int x0)])) _
    refine XS.ior X0.here hx rfl (hb hby d2_3) rfl ?_
    show Steps p.tables e below (s₁.setTop (mkF m 4 #[.val (.int x0), .unset, .unset, .unset, .unset, .unset] [(.int (x0 ||| (32 : Int32)))])) _
    refine XS.istoreN X0.here hx rfl (hb hby d2_4) rfl (l' := #[.val (.int x0), .val (.int (x0 ||| (32 : Int32))), .unset, .unset, .unset, .unset]) rfl ?_
    show Steps p.tables e below (s₁.setTop (mkF m 5 #[.val (.int x0), .val (.int (x0 ||| (32 : Int32))), .unset, .unset, .unset, .unset] [])) _
    refine XS.iloadN X0.here hx rfl (hb hby d2_5) rfl ?_
    show Steps p.tables e below (s₁.setTop (mkF m 6 #[.val (.int x0), .val (.int (x0 ||| (32 : Int32))), .unset, .unset, .unset, .unset] [(.int (x0 ||| (32 : Int32)))])) _
    refine XS.bipush X0.here hx rfl (hb hby d2_6) ?_
    show Steps p.tables e below (s₁.setTop (mkF m 8 #[.val (.int x0), .val (.int (x0 ||| (32 : Int32))), .unset, .unset, .unset, .unset] [(.int (97 : Int32)), (.int (x0 ||| (32 : Int32)))])) _
    exact kt
  obtain ⟨y1, hy1⟩ : ∃ z : Int32, z = (if (x0 ||| (32 : Int32)) < (97 : Int32) then (0 : Int32) else (if (122 : Int32) < (x0 ||| (32 : Int32)) then (0 : Int32) else (1 : Int32))) := ⟨_, rfl⟩
  refine RunsTo.of (T' := s₁) (g' := (mkF m 22 #[.val (.int x0), .val (.int (x0 ||| (32 : Int32))), .unset, .unset, .unset, .unset] [(.int y1)])) (fun t kt => ?_) ?_
  · by_cases hc8 : (x0 ||| (32 : Int32)) < (97 : Int32)
    · refine XS.icmpYes X0.here hx rfl (pc0 := 8) (pc' := 21) rfl (hb hby d2_8) rfl (tlt hc8).1 (by decide) (by decide) ?_
      show Steps p.tables e below (s₁.setTop (mkF m 21 #[.val (.int x0), .val (.int (x0 ||| (32 : Int32))), .unset, .unset, .unset, .unset] [])) _
      try rw [if_pos hc8] at hy1
      rw [hy1] at kt
      refine XS.iconst X0.here hx rfl (hb hby d2_21) ?_
      show Steps p.tables e below (s₁.setTop (mkF m 22 #[.val (.int x0), .val (.int (x0 ||| (32 : Int32))), .unset, .unset, .unset, .unset] [(.int (0 : Int32))])) _
      exact kt
    · refine XS.icmpNo X0.here hx rfl (hb hby d2_8) rfl (flt hc8).1 ?_
      show Steps p.tables e below (s₁.setTop (mkF m 11 #[.val (.int x0), .val (.int (x0 ||| (32 : Int32))), .unset, .unset, .unset, .unset] [])) _
      refine XS.iloadN X0.here hx rfl (hb hby d2_11) rfl ?_
      show Steps p.tables e below (s₁.setTop (mkF m 12 #[.val (.int x0), .val (.int (x0 ||| (32 : Int32))), .unset, .unset, .unset, .unset] [(.int (x0 ||| (32 : Int32)))])) _
      refine XS.bipush X0.here hx rfl (hb hby d2_12) ?_
      show Steps p.tables e below (s₁.setTop (mkF m 14 #[.val (.int x0), .val (.int (x0 ||| (32 : Int32))), .unset, .unset, .unset, .unset] [(.int (122 : Int32)), (.int (x0 ||| (32 : Int32)))])) _
      by_cases hc14n : (122 : Int32) < (x0 ||| (32 : Int32))
      · refine XS.icmpYes X0.here hx rfl (pc0 := 14) (pc' := 21) rfl (hb hby d2_14) rfl (tlt hc14n).2.2.1 (by decide) (by decide) ?_
        show Steps p.tables e below (s₁.setTop (mkF m 21 #[.val (.int x0), .val (.int (x0 ||| (32 : Int32))), .unset, .unset, .unset, .unset] [])) _
        try rw [if_neg hc8] at hy1
        try rw [if_pos hc14n] at hy1
        rw [hy1] at kt
        refine XS.iconst X0.here hx rfl (hb hby d2_21) ?_
        show Steps p.tables e below (s₁.setTop (mkF m 22 #[.val (.int x0), .val (.int (x0 ||| (32 : Int32))), .unset, .unset, .unset, .unset] [(.int (0 : Int32))])) _
        exact kt
      · refine XS.icmpNo X0.here hx rfl (hb hby d2_14) rfl (flt hc14n).2.2.1 ?_
        show Steps p.tables e below (s₁.setTop (mkF m 17 #[.val (.int x0), .val (.int (x0 ||| (32 : Int32))), .unset, .unset, .unset, .unset] [])) _
        try rw [if_neg hc8] at hy1
        try rw [if_neg hc14n] at hy1
        rw [hy1] at kt
        refine XS.iconst X0.here hx rfl (hb hby d2_17) ?_
        show Steps p.tables e below (s₁.setTop (mkF m 18 #[.val (.int x0), .val (.int (x0 ||| (32 : Int32))), .unset, .unset, .unset, .unset] [(.int (1 : Int32))])) _
        refine XS.goto X0.here hx rfl (pc0 := 18) (pc' := 22) rfl (hb hby d2_18) (by decide) (by decide) ?_
        show Steps p.tables e below (s₁.setTop (mkF m 22 #[.val (.int x0), .val (.int (x0 ||| (32 : Int32))), .unset, .unset, .unset, .unset] [(.int (1 : Int32))])) _
        exact kt
  refine RunsTo.of (T' := s₁) (g' := (mkF m 29 #[.val (.int x0), .val (.int (x0 ||| (32 : Int32))), .val (.int y1), .val (.int (x0 ^^^ (48 : Int32))), .unset, .unset] [(.int (x0 ^^^ (48 : Int32)))])) (fun t kt => ?_) ?_
  · refine XS.istoreN X0.here hx rfl (hb hby d2_22) rfl (l' := #[.val (.int x0), .val (.int (x0 ||| (32 : Int32))), .val (.int y1), .unset, .unset, .unset]) rfl ?_
    show Steps p.tables e below (s₁.setTop (mkF m 23 #[.val (.int x0), .val (.int (x0 ||| (32 : Int32))), .val (.int y1), .unset, .unset, .unset] [])) _
    refine XS.iloadN X0.here hx rfl (hb hby d2_23) rfl ?_
    show Steps p.tables e below (s₁.setTop (mkF m 24 #[.val (.int x0), .val (.int (x0 ||| (32 : Int32))), .val (.int y1), .unset, .unset, .unset] [(.int x0)])) _
    refine XS.bipush X0.here hx rfl (hb hby d2_24) ?_
    show Steps p.tables e below (s₁.setTop (mkF m 26 #[.val (.int x0), .val (.int (x0 ||| (32 : Int32))), .val (.int y1), .unset, .unset, .unset] [(.int (48 : Int32)), (.int x0)])) _
    refine XS.ixor X0.here hx rfl (hb hby d2_26) rfl ?_
    show Steps p.tables e below (s₁.setTop (mkF m 27 #[.val (.int x0), .val (.int (x0 ||| (32 : Int32))), .val (.int y1), .unset, .unset, .unset] [(.int (x0 ^^^ (48 : Int32)))])) _
    refine XS.istoreN X0.here hx rfl (hb hby d2_27) rfl (l' := #[.val (.int x0), .val (.int (x0 ||| (32 : Int32))), .val (.int y1), .val (.int (x0 ^^^ (48 : Int32))), .unset, .unset]) rfl ?_
    show Steps p.tables e below (s₁.setTop (mkF m 28 #[.val (.int x0), .val (.int (x0 ||| (32 : Int32))), .val (.int y1), .val (.int (x0 ^^^ (48 : Int32))), .unset, .unset] [])) _
    refine XS.iloadN X0.here hx rfl (hb hby d2_28) rfl ?_
    show Steps p.tables e below (s₁.setTop (mkF m 29 #[.val (.int x0), .val (.int (x0 ||| (32 : Int32))), .val (.int y1), .val (.int (x0 ^^^ (48 : Int32))), .unset, .unset] [(.int (x0 ^^^ (48 : Int32)))])) _
    exact kt
  obtain ⟨y2, hy2⟩ : ∃ z : Int32, z = (if (x0 ^^^ (48 : Int32)) < (0 : Int32) then (0 : Int32) else (if (9 : Int32) < (x0 ^^^ (48 : Int32)) then (0 : Int32) else (1 : Int32))) := ⟨_, rfl⟩
  refine RunsTo.of (T' := s₁) (g' := (mkF m 43 #[.val (.int x0), .val (.int (x0 ||| (32 : Int32))), .val (.int y1), .val (.int (x0 ^^^ (48 : Int32))), .unset, .unset] [(.int y2)])) (fun t kt => ?_) ?_
  · by_cases hc29 : (x0 ^^^ (48 : Int32)) < (0 : Int32)
    · refine XS.ifYes X0.here hx rfl (pc0 := 29) (pc' := 42) rfl (hb hby d2_29) rfl ((if0 _ _).trans (tlt hc29).1) (by decide) (by decide) ?_
      show Steps p.tables e below (s₁.setTop (mkF m 42 #[.val (.int x0), .val (.int (x0 ||| (32 : Int32))), .val (.int y1), .val (.int (x0 ^^^ (48 : Int32))), .unset, .unset] [])) _
      try rw [if_pos hc29] at hy2
      rw [hy2] at kt
      refine XS.iconst X0.here hx rfl (hb hby d2_42) ?_
      show Steps p.tables e below (s₁.setTop (mkF m 43 #[.val (.int x0), .val (.int (x0 ||| (32 : Int32))), .val (.int y1), .val (.int (x0 ^^^ (48 : Int32))), .unset, .unset] [(.int (0 : Int32))])) _
      exact kt
    · refine XS.ifNo X0.here hx rfl (hb hby d2_29) rfl ((if0 _ _).trans (flt hc29).1) ?_
      show Steps p.tables e below (s₁.setTop (mkF m 32 #[.val (.int x0), .val (.int (x0 ||| (32 : Int32))), .val (.int y1), .val (.int (x0 ^^^ (48 : Int32))), .unset, .unset] [])) _
      refine XS.iloadN X0.here hx rfl (hb hby d2_32) rfl ?_
      show Steps p.tables e below (s₁.setTop (mkF m 33 #[.val (.int x0), .val (.int (x0 ||| (32 : Int32))), .val (.int y1), .val (.int (x0 ^^^ (48 : Int32))), .unset, .unset] [(.int (x0 ^^^ (48 : Int32)))])) _
      refine XS.bipush X0.here hx rfl (hb hby d2_33) ?_
      show Steps p.tables e below (s₁.setTop (mkF m 35 #[.val (.int x0), .val (.int (x0 ||| (32 : Int32))), .val (.int y1), .val (.int (x0 ^^^ (48 : Int32))), .unset, .unset] [(.int (9 : Int32)), (.int (x0 ^^^ (48 : Int32)))])) _
      by_cases hc35n : (9 : Int32) < (x0 ^^^ (48 : Int32))
      · refine XS.icmpYes X0.here hx rfl (pc0 := 35) (pc' := 42) rfl (hb hby d2_35) rfl (tlt hc35n).2.2.1 (by decide) (by decide) ?_
        show Steps p.tables e below (s₁.setTop (mkF m 42 #[.val (.int x0), .val (.int (x0 ||| (32 : Int32))), .val (.int y1), .val (.int (x0 ^^^ (48 : Int32))), .unset, .unset] [])) _
        try rw [if_neg hc29] at hy2
        try rw [if_pos hc35n] at hy2
        rw [hy2] at kt
        refine XS.iconst X0.here hx rfl (hb hby d2_42) ?_
        show Steps p.tables e below (s₁.setTop (mkF m 43 #[.val (.int x0), .val (.int (x0 ||| (32 : Int32))), .val (.int y1), .val (.int (x0 ^^^ (48 : Int32))), .unset, .unset] [(.int (0 : Int32))])) _
        exact kt
      · refine XS.icmpNo X0.here hx rfl (hb hby d2_35) rfl (flt hc35n).2.2.1 ?_
        show Steps p.tables e below (s₁.setTop (mkF m 38 #[.val (.int x0), .val (.int (x0 ||| (32 : Int32))), .val (.int y1), .val (.int (x0 ^^^ (48 : Int32))), .unset, .unset] [])) _
        try rw [if_neg hc29] at hy2
        try rw [if_neg hc35n] at hy2
        rw [hy2] at kt
        refine XS.iconst X0.here hx rfl (hb hby d2_38) ?_
        show Steps p.tables e below (s₁.setTop (mkF m 39 #[.val (.int x0), .val (.int (x0 ||| (32 : Int32))), .val (.int y1), .val (.int (x0 ^^^ (48 : Int32))), .unset, .unset] [(.int (1 : Int32))])) _
        refine XS.goto X0.here hx rfl (pc0 := 39) (pc' := 43) rfl (hb hby d2_39) (by decide) (by decide) ?_
        show Steps p.tables e below (s₁.setTop (mkF m 43 #[.val (.int x0), .val (.int (x0 ||| (32 : Int32))), .val (.int y1), .val (.int (x0 ^^^ (48 : Int32))), .unset, .unset] [(.int (1 : Int32))])) _
        exact kt
  refine RunsTo.of (T' := s₁) (g' := (mkF m 48 #[.val (.int x0), .val (.int (x0 ||| (32 : Int32))), .val (.int y1), .val (.int (x0 ^^^ (48 : Int32))), .val (.int y2), .unset] [(.int (95 : Int32)), (.int x0)])) (fun t kt => ?_) ?_
  · refine XS.istore X0.here hx rfl (hb hby d2_43) rfl (l' := #[.val (.int x0), .val (.int (x0 ||| (32 : Int32))), .val (.int y1), .val (.int (x0 ^^^ (48 : Int32))), .val (.int y2), .unset]) rfl ?_
    show Steps p.tables e below (s₁.setTop (mkF m 45 #[.val (.int x0), .val (.int (x0 ||| (32 : Int32))), .val (.int y1), .val (.int (x0 ^^^ (48 : Int32))), .val (.int y2), .unset] [])) _
    refine XS.iloadN X0.here hx rfl (hb hby d2_45) rfl ?_
    show Steps p.tables e below (s₁.setTop (mkF m 46 #[.val (.int x0), .val (.int (x0 ||| (32 : Int32))), .val (.int y1), .val (.int (x0 ^^^ (48 : Int32))), .val (.int y2), .unset] [(.int x0)])) _
    refine XS.bipush X0.here hx rfl (hb hby d2_46) ?_
    show Steps p.tables e below (s₁.setTop (mkF m 48 #[.val (.int x0), .val (.int (x0 ||| (32 : Int32))), .val (.int y1), .val (.int (x0 ^^^ (48 : Int32))), .val (.int y2), .unset] [(.int (95 : Int32)), (.int x0)])) _
    exact kt
  obtain ⟨y3, hy3⟩ : ∃ z : Int32, z = (if x0 = (95 : Int32) then (1 : Int32) else (if x0 = (39 : Int32) then (1 : Int32) else (if x0 = (46 : Int32) then (1 : Int32) else (if x0 = (45 : Int32) then (1 : Int32) else (0 : Int32))))) := ⟨_, rfl⟩
  refine RunsTo.of (T' := s₁) (g' := (mkF m 74 #[.val (.int x0), .val (.int (x0 ||| (32 : Int32))), .val (.int y1), .val (.int (x0 ^^^ (48 : Int32))), .val (.int y2), .unset] [(.int y3)])) (fun t kt => ?_) ?_
  · by_cases hc48 : x0 = (95 : Int32)
    · refine XS.icmpYes X0.here hx rfl (pc0 := 48) (pc' := 69) rfl (hb hby d2_48) rfl (teq hc48).1 (by decide) (by decide) ?_
      show Steps p.tables e below (s₁.setTop (mkF m 69 #[.val (.int x0), .val (.int (x0 ||| (32 : Int32))), .val (.int y1), .val (.int (x0 ^^^ (48 : Int32))), .val (.int y2), .unset] [])) _
      try rw [if_pos hc48] at hy3
      rw [hy3] at kt
      refine XS.iconst X0.here hx rfl (hb hby d2_69) ?_
      show Steps p.tables e below (s₁.setTop (mkF m 70 #[.val (.int x0), .val (.int (x0 ||| (32 : Int32))), .val (.int y1), .val (.int (x0 ^^^ (48 : Int32))), .val (.int y2), .unset] [(.int (1 : Int32))])) _
      refine XS.goto X0.here hx rfl (pc0 := 70) (pc' := 74) rfl (hb hby d2_70) (by decide) (by decide) ?_
      show Steps p.tables e below (s₁.setTop (mkF m 74 #[.val (.int x0), .val (.int (x0 ||| (32 : Int32))), .val (.int y1), .val (.int (x0 ^^^ (48 : Int32))), .val (.int y2), .unset] [(.int (1 : Int32))])) _
      exact kt
    · refine XS.icmpNo X0.here hx rfl (hb hby d2_48) rfl (feq hc48).1 ?_
      show Steps p.tables e below (s₁.setTop (mkF m 51 #[.val (.int x0), .val (.int (x0 ||| (32 : Int32))), .val (.int y1), .val (.int (x0 ^^^ (48 : Int32))), .val (.int y2), .unset] [])) _
      refine XS.iloadN X0.here hx rfl (hb hby d2_51) rfl ?_
      show Steps p.tables e below (s₁.setTop (mkF m 52 #[.val (.int x0), .val (.int (x0 ||| (32 : Int32))), .val (.int y1), .val (.int (x0 ^^^ (48 : Int32))), .val (.int y2), .unset] [(.int x0)])) _
      refine XS.bipush X0.here hx rfl (hb hby d2_52) ?_
      show Steps p.tables e below (s₁.setTop (mkF m 54 #[.val (.int x0), .val (.int (x0 ||| (32 : Int32))), .val (.int y1), .val (.int (x0 ^^^ (48 : Int32))), .val (.int y2), .unset] [(.int (39 : Int32)), (.int x0)])) _
      by_cases hc54n : x0 = (39 : Int32)
      · refine XS.icmpYes X0.here hx rfl (pc0 := 54) (pc' := 69) rfl (hb hby d2_54) rfl (teq hc54n).1 (by decide) (by decide) ?_
        show Steps p.tables e below (s₁.setTop (mkF m 69 #[.val (.int x0), .val (.int (x0 ||| (32 : Int32))), .val (.int y1), .val (.int (x0 ^^^ (48 : Int32))), .val (.int y2), .unset] [])) _
        try rw [if_neg hc48] at hy3
        try rw [if_pos hc54n] at hy3
        rw [hy3] at kt
        refine XS.iconst X0.here hx rfl (hb hby d2_69) ?_
        show Steps p.tables e below (s₁.setTop (mkF m 70 #[.val (.int x0), .val (.int (x0 ||| (32 : Int32))), .val (.int y1), .val (.int (x0 ^^^ (48 : Int32))), .val (.int y2), .unset] [(.int (1 : Int32))])) _
        refine XS.goto X0.here hx rfl (pc0 := 70) (pc' := 74) rfl (hb hby d2_70) (by decide) (by decide) ?_
        show Steps p.tables e below (s₁.setTop (mkF m 74 #[.val (.int x0), .val (.int (x0 ||| (32 : Int32))), .val (.int y1), .val (.int (x0 ^^^ (48 : Int32))), .val (.int y2), .unset] [(.int (1 : Int32))])) _
        exact kt
      · refine XS.icmpNo X0.here hx rfl (hb hby d2_54) rfl (feq hc54n).1 ?_
        show Steps p.tables e below (s₁.setTop (mkF m 57 #[.val (.int x0), .val (.int (x0 ||| (32 : Int32))), .val (.int y1), .val (.int (x0 ^^^ (48 : Int32))), .val (.int y2), .unset] [])) _
        refine XS.iloadN X0.here hx rfl (hb hby d2_57) rfl ?_
        show Steps p.tables e below (s₁.setTop (mkF m 58 #[.val (.int x0), .val (.int (x0 ||| (32 : Int32))), .val (.int y1), .val (.int (x0 ^^^ (48 : Int32))), .val (.int y2), .unset] [(.int x0)])) _
        refine XS.bipush X0.here hx rfl (hb hby d2_58) ?_
        show Steps p.tables e below (s₁.setTop (mkF m 60 #[.val (.int x0), .val (.int (x0 ||| (32 : Int32))), .val (.int y1), .val (.int (x0 ^^^ (48 : Int32))), .val (.int y2), .unset] [(.int (46 : Int32)), (.int x0)])) _
        by_cases hc60nn : x0 = (46 : Int32)
        · refine XS.icmpYes X0.here hx rfl (pc0 := 60) (pc' := 69) rfl (hb hby d2_60) rfl (teq hc60nn).1 (by decide) (by decide) ?_
          show Steps p.tables e below (s₁.setTop (mkF m 69 #[.val (.int x0), .val (.int (x0 ||| (32 : Int32))), .val (.int y1), .val (.int (x0 ^^^ (48 : Int32))), .val (.int y2), .unset] [])) _
          try rw [if_neg hc48] at hy3
          try rw [if_neg hc54n] at hy3
          try rw [if_pos hc60nn] at hy3
          rw [hy3] at kt
          refine XS.iconst X0.here hx rfl (hb hby d2_69) ?_
          show Steps p.tables e below (s₁.setTop (mkF m 70 #[.val (.int x0), .val (.int (x0 ||| (32 : Int32))), .val (.int y1), .val (.int (x0 ^^^ (48 : Int32))), .val (.int y2), .unset] [(.int (1 : Int32))])) _
          refine XS.goto X0.here hx rfl (pc0 := 70) (pc' := 74) rfl (hb hby d2_70) (by decide) (by decide) ?_
          show Steps p.tables e below (s₁.setTop (mkF m 74 #[.val (.int x0), .val (.int (x0 ||| (32 : Int32))), .val (.int y1), .val (.int (x0 ^^^ (48 : Int32))), .val (.int y2), .unset] [(.int (1 : Int32))])) _
          exact kt
        · refine XS.icmpNo X0.here hx rfl (hb hby d2_60) rfl (feq hc60nn).1 ?_
          show Steps p.tables e below (s₁.setTop (mkF m 63 #[.val (.int x0), .val (.int (x0 ||| (32 : Int32))), .val (.int y1), .val (.int (x0 ^^^ (48 : Int32))), .val (.int y2), .unset] [])) _
          refine XS.iloadN X0.here hx rfl (hb hby d2_63) rfl ?_
          show Steps p.tables e below (s₁.setTop (mkF m 64 #[.val (.int x0), .val (.int (x0 ||| (32 : Int32))), .val (.int y1), .val (.int (x0 ^^^ (48 : Int32))), .val (.int y2), .unset] [(.int x0)])) _
          refine XS.bipush X0.here hx rfl (hb hby d2_64) ?_
          show Steps p.tables e below (s₁.setTop (mkF m 66 #[.val (.int x0), .val (.int (x0 ||| (32 : Int32))), .val (.int y1), .val (.int (x0 ^^^ (48 : Int32))), .val (.int y2), .unset] [(.int (45 : Int32)), (.int x0)])) _
          by_cases hc66nnn : x0 = (45 : Int32)
          · refine XS.icmpNo X0.here hx rfl (hb hby d2_66) rfl (teq hc66nnn).2 ?_
            show Steps p.tables e below (s₁.setTop (mkF m 69 #[.val (.int x0), .val (.int (x0 ||| (32 : Int32))), .val (.int y1), .val (.int (x0 ^^^ (48 : Int32))), .val (.int y2), .unset] [])) _
            try rw [if_neg hc48] at hy3
            try rw [if_neg hc54n] at hy3
            try rw [if_neg hc60nn] at hy3
            try rw [if_pos hc66nnn] at hy3
            rw [hy3] at kt
            refine XS.iconst X0.here hx rfl (hb hby d2_69) ?_
            show Steps p.tables e below (s₁.setTop (mkF m 70 #[.val (.int x0), .val (.int (x0 ||| (32 : Int32))), .val (.int y1), .val (.int (x0 ^^^ (48 : Int32))), .val (.int y2), .unset] [(.int (1 : Int32))])) _
            refine XS.goto X0.here hx rfl (pc0 := 70) (pc' := 74) rfl (hb hby d2_70) (by decide) (by decide) ?_
            show Steps p.tables e below (s₁.setTop (mkF m 74 #[.val (.int x0), .val (.int (x0 ||| (32 : Int32))), .val (.int y1), .val (.int (x0 ^^^ (48 : Int32))), .val (.int y2), .unset] [(.int (1 : Int32))])) _
            exact kt
          · refine XS.icmpYes X0.here hx rfl (pc0 := 66) (pc' := 73) rfl (hb hby d2_66) rfl (feq hc66nnn).2 (by decide) (by decide) ?_
            show Steps p.tables e below (s₁.setTop (mkF m 73 #[.val (.int x0), .val (.int (x0 ||| (32 : Int32))), .val (.int y1), .val (.int (x0 ^^^ (48 : Int32))), .val (.int y2), .unset] [])) _
            try rw [if_neg hc48] at hy3
            try rw [if_neg hc54n] at hy3
            try rw [if_neg hc60nn] at hy3
            try rw [if_neg hc66nnn] at hy3
            rw [hy3] at kt
            refine XS.iconst X0.here hx rfl (hb hby d2_73) ?_
            show Steps p.tables e below (s₁.setTop (mkF m 74 #[.val (.int x0), .val (.int (x0 ||| (32 : Int32))), .val (.int y1), .val (.int (x0 ^^^ (48 : Int32))), .val (.int y2), .unset] [(.int (0 : Int32))])) _
            exact kt
  refine RunsTo.of (T' := s₁) (g' := (mkF m 77 #[.val (.int x0), .val (.int (x0 ||| (32 : Int32))), .val (.int y1), .val (.int (x0 ^^^ (48 : Int32))), .val (.int y2), .val (.int y3)] [(.int y1)])) (fun t kt => ?_) ?_
  · refine XS.istore X0.here hx rfl (hb hby d2_74) rfl (l' := #[.val (.int x0), .val (.int (x0 ||| (32 : Int32))), .val (.int y1), .val (.int (x0 ^^^ (48 : Int32))), .val (.int y2), .val (.int y3)]) rfl ?_
    show Steps p.tables e below (s₁.setTop (mkF m 76 #[.val (.int x0), .val (.int (x0 ||| (32 : Int32))), .val (.int y1), .val (.int (x0 ^^^ (48 : Int32))), .val (.int y2), .val (.int y3)] [])) _
    refine XS.iloadN X0.here hx rfl (hb hby d2_76) rfl ?_
    show Steps p.tables e below (s₁.setTop (mkF m 77 #[.val (.int x0), .val (.int (x0 ||| (32 : Int32))), .val (.int y1), .val (.int (x0 ^^^ (48 : Int32))), .val (.int y2), .val (.int y3)] [(.int y1)])) _
    exact kt
  obtain ⟨y4, hy4⟩ : ∃ z : Int32, z = (if y1 = (0 : Int32) then (if y2 = (0 : Int32) then (if y3 = (0 : Int32) then (0 : Int32) else (1 : Int32)) else (1 : Int32)) else (1 : Int32)) := ⟨_, rfl⟩
  refine RunsTo.of (T' := s₁) (g' := (mkF m 95 #[.val (.int x0), .val (.int (x0 ||| (32 : Int32))), .val (.int y1), .val (.int (x0 ^^^ (48 : Int32))), .val (.int y2), .val (.int y3)] [(.int y4)])) (fun t kt => ?_) ?_
  · by_cases hc77 : y1 = (0 : Int32)
    · refine XS.ifNo X0.here hx rfl (hb hby d2_77) rfl ((if0 _ _).trans (teq hc77).2) ?_
      show Steps p.tables e below (s₁.setTop (mkF m 80 #[.val (.int x0), .val (.int (x0 ||| (32 : Int32))), .val (.int y1), .val (.int (x0 ^^^ (48 : Int32))), .val (.int y2), .val (.int y3)] [])) _
      refine XS.iload X0.here hx rfl (hb hby d2_80) rfl ?_
      show Steps p.tables e below (s₁.setTop (mkF m 82 #[.val (.int x0), .val (.int (x0 ||| (32 : Int32))), .val (.int y1), .val (.int (x0 ^^^ (48 : Int32))), .val (.int y2), .val (.int y3)] [(.int y2)])) _
      by_cases hc82y : y2 = (0 : Int32)
      · refine XS.ifNo X0.here hx rfl (hb hby d2_82) rfl ((if0 _ _).trans (teq hc82y).2) ?_
        show Steps p.tables e below (s₁.setTop (mkF m 85 #[.val (.int x0), .val (.int (x0 ||| (32 : Int32))), .val (.int y1), .val (.int (x0 ^^^ (48 : Int32))), .val (.int y2), .val (.int y3)] [])) _
        refine XS.iload X0.here hx rfl (hb hby d2_85) rfl ?_
        show Steps p.tables e below (s₁.setTop (mkF m 87 #[.val (.int x0), .val (.int (x0 ||| (32 : Int32))), .val (.int y1), .val (.int (x0 ^^^ (48 : Int32))), .val (.int y2), .val (.int y3)] [(.int y3)])) _
        by_cases hc87yy : y3 = (0 : Int32)
        · refine XS.ifYes X0.here hx rfl (pc0 := 87) (pc' := 94) rfl (hb hby d2_87) rfl ((if0 _ _).trans (teq hc87yy).1) (by decide) (by decide) ?_
          show Steps p.tables e below (s₁.setTop (mkF m 94 #[.val (.int x0), .val (.int (x0 ||| (32 : Int32))), .val (.int y1), .val (.int (x0 ^^^ (48 : Int32))), .val (.int y2), .val (.int y3)] [])) _
          try rw [if_pos hc77] at hy4
          try rw [if_pos hc82y] at hy4
          try rw [if_pos hc87yy] at hy4
          rw [hy4] at kt
          refine XS.iconst X0.here hx rfl (hb hby d2_94) ?_
          show Steps p.tables e below (s₁.setTop (mkF m 95 #[.val (.int x0), .val (.int (x0 ||| (32 : Int32))), .val (.int y1), .val (.int (x0 ^^^ (48 : Int32))), .val (.int y2), .val (.int y3)] [(.int (0 : Int32))])) _
          exact kt
        · refine XS.ifNo X0.here hx rfl (hb hby d2_87) rfl ((if0 _ _).trans (feq hc87yy).1) ?_
          show Steps p.tables e below (s₁.setTop (mkF m 90 #[.val (.int x0), .val (.int (x0 ||| (32 : Int32))), .val (.int y1), .val (.int (x0 ^^^ (48 : Int32))), .val (.int y2), .val (.int y3)] [])) _
          try rw [if_pos hc77] at hy4
          try rw [if_pos hc82y] at hy4
          try rw [if_neg hc87yy] at hy4
          rw [hy4] at kt
          refine XS.iconst X0.here hx rfl (hb hby d2_90) ?_
          show Steps p.tables e below (s₁.setTop (mkF m 91 #[.val (.int x0), .val (.int (x0 ||| (32 : Int32))), .val (.int y1), .val (.int (x0 ^^^ (48 : Int32))), .val (.int y2), .val (.int y3)] [(.int (1 : Int32))])) _
          refine XS.goto X0.here hx rfl (pc0 := 91) (pc' := 95) rfl (hb hby d2_91) (by decide) (by decide) ?_
          show Steps p.tables e below (s₁.setTop (mkF m 95 #[.val (.int x0), .val (.int (x0 ||| (32 : Int32))), .val (.int y1), .val (.int (x0 ^^^ (48 : Int32))), .val (.int y2), .val (.int y3)] [(.int (1 : Int32))])) _
          exact kt
      · refine XS.ifYes X0.here hx rfl (pc0 := 82) (pc' := 90) rfl (hb hby d2_82) rfl ((if0 _ _).trans (feq hc82y).2) (by decide) (by decide) ?_
        show Steps p.tables e below (s₁.setTop (mkF m 90 #[.val (.int x0), .val (.int (x0 ||| (32 : Int32))), .val (.int y1), .val (.int (x0 ^^^ (48 : Int32))), .val (.int y2), .val (.int y3)] [])) _
        try rw [if_pos hc77] at hy4
        try rw [if_neg hc82y] at hy4
        rw [hy4] at kt
        refine XS.iconst X0.here hx rfl (hb hby d2_90) ?_
        show Steps p.tables e below (s₁.setTop (mkF m 91 #[.val (.int x0), .val (.int (x0 ||| (32 : Int32))), .val (.int y1), .val (.int (x0 ^^^ (48 : Int32))), .val (.int y2), .val (.int y3)] [(.int (1 : Int32))])) _
        refine XS.goto X0.here hx rfl (pc0 := 91) (pc' := 95) rfl (hb hby d2_91) (by decide) (by decide) ?_
        show Steps p.tables e below (s₁.setTop (mkF m 95 #[.val (.int x0), .val (.int (x0 ||| (32 : Int32))), .val (.int y1), .val (.int (x0 ^^^ (48 : Int32))), .val (.int y2), .val (.int y3)] [(.int (1 : Int32))])) _
        exact kt
    · refine XS.ifYes X0.here hx rfl (pc0 := 77) (pc' := 90) rfl (hb hby d2_77) rfl ((if0 _ _).trans (feq hc77).2) (by decide) (by decide) ?_
      show Steps p.tables e below (s₁.setTop (mkF m 90 #[.val (.int x0), .val (.int (x0 ||| (32 : Int32))), .val (.int y1), .val (.int (x0 ^^^ (48 : Int32))), .val (.int y2), .val (.int y3)] [])) _
      try rw [if_neg hc77] at hy4
      rw [hy4] at kt
      refine XS.iconst X0.here hx rfl (hb hby d2_90) ?_
      show Steps p.tables e below (s₁.setTop (mkF m 91 #[.val (.int x0), .val (.int (x0 ||| (32 : Int32))), .val (.int y1), .val (.int (x0 ^^^ (48 : Int32))), .val (.int y2), .val (.int y3)] [(.int (1 : Int32))])) _
      refine XS.goto X0.here hx rfl (pc0 := 91) (pc' := 95) rfl (hb hby d2_91) (by decide) (by decide) ?_
      show Steps p.tables e below (s₁.setTop (mkF m 95 #[.val (.int x0), .val (.int (x0 ||| (32 : Int32))), .val (.int y1), .val (.int (x0 ^^^ (48 : Int32))), .val (.int y2), .val (.int y3)] [(.int (1 : Int32))])) _
      exact kt
  refine RunsTo.retN X0 hx (t := .boolean) Bd.returns (by simp) Bd.notSynchronized (hb hby d2_95) ?_ (by decide) (by decide)
  rw [e0]
  refine ⟨?_, N0, rfl⟩
  have hz : nar .boolean y4 = own_char x0 := by
    have hf := own_or32 x0
    have hd := own_digit x0
    rw [hy4]
    simp only [Int32.lt_iff_toInt_lt, ← Int32.toInt_inj, show (0 : Int32).toInt = 0 from rfl, show (1 : Int32).toInt = 1 from rfl, show (65 : Int32).toInt = 65 from rfl, show (90 : Int32).toInt = 90 from rfl, show (97 : Int32).toInt = 97 from rfl, show (122 : Int32).toInt = 122 from rfl, show (95 : Int32).toInt = 95 from rfl, show (48 : Int32).toInt = 48 from rfl, show (57 : Int32).toInt = 57 from rfl, show (39 : Int32).toInt = 39 from rfl, show (46 : Int32).toInt = 46 from rfl, show (45 : Int32).toInt = 45 from rfl, show (9 : Int32).toInt = 9 from rfl] at hy1 hy2 hy3
    simp only [own_char, nar, Int32.lt_iff_toInt_lt, ← Int32.toInt_inj, show (0 : Int32).toInt = 0 from rfl, show (1 : Int32).toInt = 1 from rfl, show (65 : Int32).toInt = 65 from rfl, show (90 : Int32).toInt = 90 from rfl, show (97 : Int32).toInt = 97 from rfl, show (122 : Int32).toInt = 122 from rfl, show (95 : Int32).toInt = 95 from rfl, show (48 : Int32).toInt = 48 from rfl, show (57 : Int32).toInt = 57 from rfl, show (39 : Int32).toInt = 39 from rfl, show (46 : Int32).toInt = 46 from rfl, show (45 : Int32).toInt = 45 from rfl, show (9 : Int32).toInt = 9 from rfl]
    generalize (x0 ||| 32).toInt = f at *
    generalize (x0 ^^^ 48).toInt = d at *
    generalize x0.toInt = k at *
    have g1 : y1.toInt = 1 ∧ 97 ≤ f ∧ f ≤ 122 ∨ y1.toInt = 0 ∧ ¬ (97 ≤ f ∧ f ≤ 122) := by
      rw [hy1]; (repeat' split) <;> first | (left; exact ⟨rfl, by omega, by omega⟩) | (right; exact ⟨rfl, by omega⟩)
    have g2 : y2.toInt = 1 ∧ 0 ≤ d ∧ d ≤ 9 ∨ y2.toInt = 0 ∧ ¬ (0 ≤ d ∧ d ≤ 9) := by
      rw [hy2]; (repeat' split) <;> first | (left; exact ⟨rfl, by omega, by omega⟩) | (right; exact ⟨rfl, by omega⟩)
    have g3 : y3.toInt = 1 ∧ (k = 95 ∨ k = 39 ∨ k = 46 ∨ k = 45) ∨ y3.toInt = 0 ∧ ¬ (k = 95 ∨ k = 39 ∨ k = 46 ∨ k = 45) := by
      rw [hy3]; (repeat' split) <;> first | (left; exact ⟨rfl, by omega⟩) | (right; exact ⟨rfl, by omega⟩)
    clear hy1 hy2 hy3 hy4
    repeat' split
    all_goals first | rfl | (exfalso; omega)
  rw [hz]
theorem pd_0 : parseMethodDescriptor "(I)Z" = some ⟨[.int], some .boolean⟩ := by decide +kernel
theorem ef_rm0 (m : MethodId) (x0 : Int32) (x1 : Int32) : entryFrame m #[(.int x0), (.int x1)] maxLocals = mkF m 0 #[.val (.int x0), .val (.int x1), .unset, .unset] [] := by first | (simp [entryFrame, mkF, argsToLocals, Value.category, maxLocals]; done) | rfl
def Q0 (Z : State) (x0 : Int32) (x1 : Int32) (h0 : Heap) (n0 : Nat) (v : Option Value) (h : Heap) (L : List Loc) : Prop := v = some (.int 1) ∧ Fr n0 L
set_option maxRecDepth 65536 in
set_option maxHeartbeats 40000000 in
theorem rm0 (l : Launch) (Z : State) (a0 : Array Value) (hw : ∀ d ∈ tables_1, d.before a0 Z = true) (ws : List Jvm.Cond) (x0 : Int32) (x1 : Int32) (h0 : Heap) (n0 : Nat) (Z0 : n0 ≤ h0.size)  :
    MetFree l x (head1 (Jvm.Cond.code x code maxLocals ret :: ws) room_1) (fun as' U => as' = #[(.int x0), (.int x1)] ∧ Z.Warmed39 U.vm ∧ U.heap = h0) (fun _ _ _ _ _ => True) (fun _ U o U' => ∃ v L, o = .returned v ∧ Q0 Z x0 x1 h0 n0 v U'.heap L ∧ FrameEnd U o U' L room_1.cells room_1.slots) := by
  refine MetFree.of_bodySF (plainFor_of_name pn_1) hisR ?_
  intro p e s m args below meth c s₁ Bd hml0 hP hK
  obtain ⟨rfl, hZ, hh⟩ := hP
  have hx := Bd.exec
  have hby := Bd.bytes
  have hml : c.maxLocals = 4 := hml0
  have hown : s.vm.findClass "com/example/libxducer/libxducer/NamesIsNameCharPinLaw" = some m.cls := findClass_of_methodNamed Bd.named
  have hnm := (name_of_methodNamed Bd.named Bd.method).1
  have X0 : Stand p l e room_1 s m #[(.int x0), (.int x1)] below meth c s₁ [] 0 0 := Stand.of_body Bd
  have e0 : s₁.heap = h0 := by rw [← hh, Bd.state]; rfl
  have N0 := Fr.nil n0
  refine RunsTo.start (ef_rm0 m x0 x1) ?_
  show RunsTo p e below s s₁ (mkF m 0 #[.val (.int x0), .val (.int x1), .unset, .unset] []) (Q0 Z x0 x1 h0 n0) room_1.cells room_1.slots
  refine RunsTo.of (T' := s₁) (g' := (mkF m 5 #[.val (.int x0), .val (.int x1), .val (.int (x1 &&& (3 : Int32))), .unset] [(.int (x1 &&& (3 : Int32)))])) (fun t kt => ?_) ?_
  · refine XS.iloadN X0.here hx rfl (hb hby at_0) rfl ?_
    show Steps p.tables e below (s₁.setTop (mkF m 1 #[.val (.int x0), .val (.int x1), .unset, .unset] [(.int x1)])) _
    refine XS.iconst X0.here hx rfl (hb hby at_1) ?_
    show Steps p.tables e below (s₁.setTop (mkF m 2 #[.val (.int x0), .val (.int x1), .unset, .unset] [(.int (3 : Int32)), (.int x1)])) _
    refine XS.iand X0.here hx rfl (hb hby at_2) rfl ?_
    show Steps p.tables e below (s₁.setTop (mkF m 3 #[.val (.int x0), .val (.int x1), .unset, .unset] [(.int (x1 &&& (3 : Int32)))])) _
    refine XS.istoreN X0.here hx rfl (hb hby at_3) rfl (l' := #[.val (.int x0), .val (.int x1), .val (.int (x1 &&& (3 : Int32))), .unset]) rfl ?_
    show Steps p.tables e below (s₁.setTop (mkF m 4 #[.val (.int x0), .val (.int x1), .val (.int (x1 &&& (3 : Int32))), .unset] [])) _
    refine XS.iloadN X0.here hx rfl (hb hby at_4) rfl ?_
    show Steps p.tables e below (s₁.setTop (mkF m 5 #[.val (.int x0), .val (.int x1), .val (.int (x1 &&& (3 : Int32))), .unset] [(.int (x1 &&& (3 : Int32)))])) _
    exact kt
  obtain ⟨y1, hy1⟩ : ∃ z : Int32, z = (if (x1 &&& (3 : Int32)) = (0 : Int32) then x0 else (if (x1 &&& (3 : Int32)) = (1 : Int32) then (x0 &&& (127 : Int32)) else (if (x1 &&& (3 : Int32)) = (2 : Int32) then (x0 &&& (255 : Int32)) else (x0 &&& (2097151 : Int32))))) := ⟨_, rfl⟩
  refine RunsTo.of (T' := s₁) (g' := (mkF m 45 #[.val (.int x0), .val (.int x1), .val (.int (x1 &&& (3 : Int32))), .val (.int y1)] [])) (fun t kt => ?_) ?_
  · by_cases hc5 : (x1 &&& (3 : Int32)) = (0 : Int32)
    · refine XS.ifNo X0.here hx rfl (hb hby at_5) rfl ((if0 _ _).trans (teq hc5).2) ?_
      show Steps p.tables e below (s₁.setTop (mkF m 8 #[.val (.int x0), .val (.int x1), .val (.int (x1 &&& (3 : Int32))), .unset] [])) _
      try rw [if_pos hc5] at hy1
      rw [hy1] at kt
      refine XS.iloadN X0.here hx rfl (hb hby at_8) rfl ?_
      show Steps p.tables e below (s₁.setTop (mkF m 9 #[.val (.int x0), .val (.int x1), .val (.int (x1 &&& (3 : Int32))), .unset] [(.int x0)])) _
      refine XS.istoreN X0.here hx rfl (hb hby at_9) rfl (l' := #[.val (.int x0), .val (.int x1), .val (.int (x1 &&& (3 : Int32))), .val (.int x0)]) rfl ?_
      show Steps p.tables e below (s₁.setTop (mkF m 10 #[.val (.int x0), .val (.int x1), .val (.int (x1 &&& (3 : Int32))), .val (.int x0)] [])) _
      refine XS.goto X0.here hx rfl (pc0 := 10) (pc' := 45) rfl (hb hby at_10) (by decide) (by decide) ?_
      show Steps p.tables e below (s₁.setTop (mkF m 45 #[.val (.int x0), .val (.int x1), .val (.int (x1 &&& (3 : Int32))), .val (.int x0)] [])) _
      exact kt
    · refine XS.ifYes X0.here hx rfl (pc0 := 5) (pc' := 13) rfl (hb hby at_5) rfl ((if0 _ _).trans (feq hc5).2) (by decide) (by decide) ?_
      show Steps p.tables e below (s₁.setTop (mkF m 13 #[.val (.int x0), .val (.int x1), .val (.int (x1 &&& (3 : Int32))), .unset] [])) _
      refine XS.iloadN X0.here hx rfl (hb hby at_13) rfl ?_
      show Steps p.tables e below (s₁.setTop (mkF m 14 #[.val (.int x0), .val (.int x1), .val (.int (x1 &&& (3 : Int32))), .unset] [(.int (x1 &&& (3 : Int32)))])) _
      refine XS.iconst X0.here hx rfl (hb hby at_14) ?_
      show Steps p.tables e below (s₁.setTop (mkF m 15 #[.val (.int x0), .val (.int x1), .val (.int (x1 &&& (3 : Int32))), .unset] [(.int (1 : Int32)), (.int (x1 &&& (3 : Int32)))])) _
      by_cases hc15n : (x1 &&& (3 : Int32)) = (1 : Int32)
      · refine XS.icmpNo X0.here hx rfl (hb hby at_15) rfl (teq hc15n).2 ?_
        show Steps p.tables e below (s₁.setTop (mkF m 18 #[.val (.int x0), .val (.int x1), .val (.int (x1 &&& (3 : Int32))), .unset] [])) _
        try rw [if_neg hc5] at hy1
        try rw [if_pos hc15n] at hy1
        rw [hy1] at kt
        refine XS.iloadN X0.here hx rfl (hb hby at_18) rfl ?_
        show Steps p.tables e below (s₁.setTop (mkF m 19 #[.val (.int x0), .val (.int x1), .val (.int (x1 &&& (3 : Int32))), .unset] [(.int x0)])) _
        refine XS.bipush X0.here hx rfl (hb hby at_19) ?_
        show Steps p.tables e below (s₁.setTop (mkF m 21 #[.val (.int x0), .val (.int x1), .val (.int (x1 &&& (3 : Int32))), .unset] [(.int (127 : Int32)), (.int x0)])) _
        refine XS.iand X0.here hx rfl (hb hby at_21) rfl ?_
        show Steps p.tables e below (s₁.setTop (mkF m 22 #[.val (.int x0), .val (.int x1), .val (.int (x1 &&& (3 : Int32))), .unset] [(.int (x0 &&& (127 : Int32)))])) _
        refine XS.istoreN X0.here hx rfl (hb hby at_22) rfl (l' := #[.val (.int x0), .val (.int x1), .val (.int (x1 &&& (3 : Int32))), .val (.int (x0 &&& (127 : Int32)))]) rfl ?_
        show Steps p.tables e below (s₁.setTop (mkF m 23 #[.val (.int x0), .val (.int x1), .val (.int (x1 &&& (3 : Int32))), .val (.int (x0 &&& (127 : Int32)))] [])) _
        refine XS.goto X0.here hx rfl (pc0 := 23) (pc' := 45) rfl (hb hby at_23) (by decide) (by decide) ?_
        show Steps p.tables e below (s₁.setTop (mkF m 45 #[.val (.int x0), .val (.int x1), .val (.int (x1 &&& (3 : Int32))), .val (.int (x0 &&& (127 : Int32)))] [])) _
        exact kt
      · refine XS.icmpYes X0.here hx rfl (pc0 := 15) (pc' := 26) rfl (hb hby at_15) rfl (feq hc15n).2 (by decide) (by decide) ?_
        show Steps p.tables e below (s₁.setTop (mkF m 26 #[.val (.int x0), .val (.int x1), .val (.int (x1 &&& (3 : Int32))), .unset] [])) _
        refine XS.iloadN X0.here hx rfl (hb hby at_26) rfl ?_
        show Steps p.tables e below (s₁.setTop (mkF m 27 #[.val (.int x0), .val (.int x1), .val (.int (x1 &&& (3 : Int32))), .unset] [(.int (x1 &&& (3 : Int32)))])) _
        refine XS.iconst X0.here hx rfl (hb hby at_27) ?_
        show Steps p.tables e below (s₁.setTop (mkF m 28 #[.val (.int x0), .val (.int x1), .val (.int (x1 &&& (3 : Int32))), .unset] [(.int (2 : Int32)), (.int (x1 &&& (3 : Int32)))])) _
        by_cases hc28nn : (x1 &&& (3 : Int32)) = (2 : Int32)
        · refine XS.icmpNo X0.here hx rfl (hb hby at_28) rfl (teq hc28nn).2 ?_
          show Steps p.tables e below (s₁.setTop (mkF m 31 #[.val (.int x0), .val (.int x1), .val (.int (x1 &&& (3 : Int32))), .unset] [])) _
          try rw [if_neg hc5] at hy1
          try rw [if_neg hc15n] at hy1
          try rw [if_pos hc28nn] at hy1
          rw [hy1] at kt
          refine XS.iloadN X0.here hx rfl (hb hby at_31) rfl ?_
          show Steps p.tables e below (s₁.setTop (mkF m 32 #[.val (.int x0), .val (.int x1), .val (.int (x1 &&& (3 : Int32))), .unset] [(.int x0)])) _
          refine XS.sipush X0.here hx rfl (hb hby at_32) ?_
          show Steps p.tables e below (s₁.setTop (mkF m 35 #[.val (.int x0), .val (.int x1), .val (.int (x1 &&& (3 : Int32))), .unset] [(.int (255 : Int32)), (.int x0)])) _
          refine XS.iand X0.here hx rfl (hb hby at_35) rfl ?_
          show Steps p.tables e below (s₁.setTop (mkF m 36 #[.val (.int x0), .val (.int x1), .val (.int (x1 &&& (3 : Int32))), .unset] [(.int (x0 &&& (255 : Int32)))])) _
          refine XS.istoreN X0.here hx rfl (hb hby at_36) rfl (l' := #[.val (.int x0), .val (.int x1), .val (.int (x1 &&& (3 : Int32))), .val (.int (x0 &&& (255 : Int32)))]) rfl ?_
          show Steps p.tables e below (s₁.setTop (mkF m 37 #[.val (.int x0), .val (.int x1), .val (.int (x1 &&& (3 : Int32))), .val (.int (x0 &&& (255 : Int32)))] [])) _
          refine XS.goto X0.here hx rfl (pc0 := 37) (pc' := 45) rfl (hb hby at_37) (by decide) (by decide) ?_
          show Steps p.tables e below (s₁.setTop (mkF m 45 #[.val (.int x0), .val (.int x1), .val (.int (x1 &&& (3 : Int32))), .val (.int (x0 &&& (255 : Int32)))] [])) _
          exact kt
        · refine XS.icmpYes X0.here hx rfl (pc0 := 28) (pc' := 40) rfl (hb hby at_28) rfl (feq hc28nn).2 (by decide) (by decide) ?_
          show Steps p.tables e below (s₁.setTop (mkF m 40 #[.val (.int x0), .val (.int x1), .val (.int (x1 &&& (3 : Int32))), .unset] [])) _
          try rw [if_neg hc5] at hy1
          try rw [if_neg hc15n] at hy1
          try rw [if_neg hc28nn] at hy1
          rw [hy1] at kt
          refine XS.iloadN X0.here hx rfl (hb hby at_40) rfl ?_
          show Steps p.tables e below (s₁.setTop (mkF m 41 #[.val (.int x0), .val (.int x1), .val (.int (x1 &&& (3 : Int32))), .unset] [(.int x0)])) _
          refine X0.ldcInt hx hown (mvT hZ (hw _ (List.mem_of_getElem? (i := 0) rfl))) (g := (mkF m 41 #[.val (.int x0), .val (.int x1), .val (.int (x1 &&& (3 : Int32))), .unset] [(.int x0)])) rfl (hb hby at_41) _ ?_
          show Steps p.tables e below (s₁.setTop (mkF m 43 #[.val (.int x0), .val (.int x1), .val (.int (x1 &&& (3 : Int32))), .unset] [(.int (2097151 : Int32)), (.int x0)])) _
          refine XS.iand X0.here hx rfl (hb hby at_43) rfl ?_
          show Steps p.tables e below (s₁.setTop (mkF m 44 #[.val (.int x0), .val (.int x1), .val (.int (x1 &&& (3 : Int32))), .unset] [(.int (x0 &&& (2097151 : Int32)))])) _
          refine XS.istoreN X0.here hx rfl (hb hby at_44) rfl (l' := #[.val (.int x0), .val (.int x1), .val (.int (x1 &&& (3 : Int32))), .val (.int (x0 &&& (2097151 : Int32)))]) rfl ?_
          show Steps p.tables e below (s₁.setTop (mkF m 45 #[.val (.int x0), .val (.int x1), .val (.int (x1 &&& (3 : Int32))), .val (.int (x0 &&& (2097151 : Int32)))] [])) _
          exact kt
  refine RunsTo.of (T' := s₁) (g' := (mkF m 46 #[.val (.int x0), .val (.int x1), .val (.int (x1 &&& (3 : Int32))), .val (.int y1)] [(.int y1)])) (fun t kt => ?_) ?_
  · refine XS.iloadN X0.here hx rfl (hb hby at_45) rfl ?_
    show Steps p.tables e below (s₁.setTop (mkF m 46 #[.val (.int x0), .val (.int x1), .val (.int (x1 &&& (3 : Int32))), .val (.int y1)] [(.int y1)])) _
    exact kt
  obtain ⟨_, _, ⟨T1, L1, k1, n1⟩, -, X1, ⟨Lc1, hQ1, l1, y1, z1⟩, st1⟩ := Jvm.LawKit.callS X0 hx (y := (⟨"com/example/libxducer/libxducer/Names", "isNameChar", "(I)Z"⟩ : MethodName)) hown (mvT hZ (hw _ (List.mem_of_getElem? (i := 1) rfl))) (mvT hZ (hw _ (List.mem_of_getElem? (i := 2) rfl))) (mvT hZ (hw _ (List.mem_of_getElem? (i := 3) rfl))) (mvT hZ (hw _ (List.mem_of_getElem? (i := 4) rfl))) (by decide) (backOf (W := 0) (rm1 l Z a0 hw [] y1 h0 n0 Z0 ) hZ (hw _ (List.mem_of_getElem? (i := 4) rfl)) (hw _ (List.mem_of_getElem? (i := 3) rfl)) (by decide) (by decide)) (g := (mkF m 46 #[.val (.int x0), .val (.int x1), .val (.int (x1 &&& (3 : Int32))), .val (.int y1)] [(.int y1)])) rfl (by rw [hml]; rfl) (argsL := [(.int y1)]) (rest := []) (lenOf pd_0 rfl) rfl (by show 2 * 0 + _ ≤ _; exact Nat.le_of_eq rfl) (hb hby at_46) (fun _ _ => ⟨rfl, e0, (by decide : 0 + 0 ≤ _), (by decide : 0 + 0 ≤ _)⟩)
  dsimp only [Pt.U, Pt.locs, Pt.cells, Pt.slots] at X1 l1 y1 z1 st1 hQ1
  subst l1 y1 z1
  obtain ⟨rfl, N1q, e1⟩ := hQ1
  have N1 := Fr.app N0 N1q
  refine RunsTo.of (T' := T1) (g' := (mkF m 49 #[.val (.int x0), .val (.int x1), .val (.int (x1 &&& (3 : Int32))), .val (.int y1)] [(.int (own_char y1))])) st1 ?_
  refine RunsTo.of (T' := T1) (g' := (mkF m 50 #[.val (.int x0), .val (.int x1), .val (.int (x1 &&& (3 : Int32))), .val (.int y1)] [(.int y1), (.int (own_char y1))])) (fun t kt => ?_) ?_
  · refine XS.iloadN X1.here hx rfl (hb hby at_49) rfl ?_
    show Steps p.tables e below (T1.setTop (mkF m 50 #[.val (.int x0), .val (.int x1), .val (.int (x1 &&& (3 : Int32))), .val (.int y1)] [(.int y1), (.int (own_char y1))])) _
    exact kt
  obtain ⟨_, _, ⟨T2, L2, k2, n2⟩, -, X2, ⟨Lc2, hQ2, l2, y2, z2⟩, st2⟩ := Jvm.LawKit.callS X1 hx (y := (⟨"com/example/libxducer/libxducer/NamesIsNameCharPinLaw", "expected", "(I)Z"⟩ : MethodName)) hown (mvT hZ (hw _ (List.mem_of_getElem? (i := 5) rfl))) (mvT hZ (hw _ (List.mem_of_getElem? (i := 6) rfl))) (mvT hZ (hw _ (List.mem_of_getElem? (i := 7) rfl))) (mvT hZ (hw _ (List.mem_of_getElem? (i := 8) rfl))) (by decide) (backOf (W := 1) (rm2 l Z a0 hw [] y1 h0 n0 Z0 ) hZ (hw _ (List.mem_of_getElem? (i := 8) rfl)) (hw _ (List.mem_of_getElem? (i := 7) rfl)) (by decide) (by decide)) (g := (mkF m 50 #[.val (.int x0), .val (.int x1), .val (.int (x1 &&& (3 : Int32))), .val (.int y1)] [(.int y1), (.int (own_char y1))])) rfl (by rw [hml]; rfl) (argsL := [(.int y1)]) (rest := [(.int (own_char y1))]) (lenOf pd_0 rfl) rfl (by show 2 * 0 + _ ≤ _; exact Nat.le_of_eq rfl) (hb hby at_50) (fun _ _ => ⟨rfl, e1, (by decide : 0 + 0 ≤ _), (by decide : 0 + 0 ≤ _)⟩)
  dsimp only [Pt.U, Pt.locs, Pt.cells, Pt.slots] at X2 l2 y2 z2 st2 hQ2
  subst l2 y2 z2
  obtain ⟨rfl, N2q, e2⟩ := hQ2
  have N2 := Fr.app N1 N2q
  refine RunsTo.of (T' := T2) (g' := (mkF m 53 #[.val (.int x0), .val (.int x1), .val (.int (x1 &&& (3 : Int32))), .val (.int y1)] [(.int (own_char y1)), (.int (own_char y1))])) st2 ?_
  refine RunsTo.of (T' := T2) (g' := (mkF m 61 #[.val (.int x0), .val (.int x1), .val (.int (x1 &&& (3 : Int32))), .val (.int y1)] [(.int (1 : Int32))])) (fun t kt => ?_) ?_
  · refine XS.icmpNo X2.here hx rfl (hb hby at_53) rfl (teq rfl).2 ?_
    show Steps p.tables e below (T2.setTop (mkF m 56 #[.val (.int x0), .val (.int x1), .val (.int (x1 &&& (3 : Int32))), .val (.int y1)] [])) _
    refine XS.iconst X2.here hx rfl (hb hby at_56) ?_
    show Steps p.tables e below (T2.setTop (mkF m 57 #[.val (.int x0), .val (.int x1), .val (.int (x1 &&& (3 : Int32))), .val (.int y1)] [(.int (1 : Int32))])) _
    refine XS.goto X2.here hx rfl (pc0 := 57) (pc' := 61) rfl (hb hby at_57) (by decide) (by decide) ?_
    show Steps p.tables e below (T2.setTop (mkF m 61 #[.val (.int x0), .val (.int x1), .val (.int (x1 &&& (3 : Int32))), .val (.int y1)] [(.int (1 : Int32))])) _
    exact kt
  refine RunsTo.retN X2 hx (t := .boolean) Bd.returns (by simp) Bd.notSynchronized (hb hby at_61) ?_ (by decide) (by decide)
  rw [e2]
  exact ⟨rfl, N2⟩
set_option maxRecDepth 65536 in
set_option maxHeartbeats 40000000 in
theorem comes_1 {Post : Tables → Env → Array Value → State → Outcome → State → Prop} (hpost : ∀ tb e args s v u, (limb_1_1.after args s (.returned v) u = true ∧ limb_1_2.after args s (.returned v) u = true ∧ True) → FrameEnd s (.returned v) u (Jvm.fieldLocs frame_1_writes args s ++ Jvm.arrayLocs frame_1_arrays args s ++ Jvm.staticLocs frame_1_statics s) 0 0 → Post tb e args s (.returned v) u) :
    ArmFor flags0 classFile x code maxLocals ret World_1 tables_1 room_1 Calls_1 rest_1 Pre_1 Post := by
  intro l hfl _ _ p e ha hc hk s m args below hf hA hF happ hP
  obtain ⟨hcalls, hrest, hpre⟩ := hP
  obtain ⟨-, -, -, hnamed, -, -, -, hat⟩ := (Spec.applies_iff hf).mp happ
  obtain ⟨hg, hn⟩ := and_e (Cond.before_iff.mp (show (Jvm.Cond.and given_1 narrow_1).before args s = true from hpre))
  obtain ⟨hcnt, hg0⟩ := and_e hg
  obtain ⟨ha0, hg1⟩ := and_e hg0
  have ha1 := hg1
  obtain ⟨w0, w1, rfl⟩ : ∃ w0 w1 : Value, args = #[w0, w1] := by
    have hs : args.size = 2 := by simpa [Cond.value, given_1] using hcnt
    obtain ⟨L⟩ := args
    match L, hs with
    | [w0, w1], _ => exact ⟨w0, w1, rfl⟩
  have hw := fun d (hd : d ∈ tables_1) => atoms_spec (ws := Jvm.Cond.code x code maxLocals ret :: tables_1) hat d (List.mem_cons_of_mem _ hd)
  have hfit : Fit s := fun {y c} hc i hi => by
    obtain ⟨ha, rfl⟩ := Array.getElem?_eq_some_iff.mp hc
    have q := List.all_eq_true.mp ((Array.all_eq_true_iff_forall_mem.mp hF) _ (Array.getElem_mem ha)) i (List.mem_range.mpr hi)
    simpa [Array.getElem?_eq_getElem hi] using q
  obtain ⟨i0, ei0⟩ := is_v ha0
  obtain rfl : w0 = (.int i0) := Option.some.inj ei0
  obtain ⟨i1, ei1⟩ := is_v ha1
  obtain rfl : w1 = (.int i1) := Option.some.inj ei1
  obtain ⟨n, o, h1, h2, h3, _, L, rfl, ⟨rfl, N⟩, hq⟩ := rm0 l s _ hw tables_1 i0 i1 s.heap s.heap.size (Nat.le_refl _)  p e ha hc hk s m _ below hf ((Spec.applies_iff_loose hf).mp happ).1 ⟨rfl, State.Warmed39.refl s, rfl⟩ trivial
  refine ⟨n, _, h1, h2, h3, hpost _ _ _ _ _ _ ⟨Cond.after_iff.mpr rfl, Cond.after_iff.mpr (eq_i res_at (Term.int_eval (1)) rfl), trivial⟩ ⟨hq.1, hq.2.1, (hq.2.2.sift fun y hy => Or.inr (N y hy)).mono (by decide) (by decide)⟩⟩
theorem main_1_1 : Claimed_1_1 := comes_1 fun _ _ _ _ _ _ h hF => ⟨h.1, hF⟩
theorem main_1_2 : Claimed_1_2 := comes_1 fun _ _ _ _ _ _ h hF => ⟨h.2.1, hF⟩
end Jvm.Pilot.@@N@@
namespace Jvm.Pilot.@@N@@
open Jvm Jvm.ClassFile Sem Op Lib Jvm.Free Jvm.Stand Jvm.Pilot.@@N@@.Jvm.D
/-! MADE BY PROGRAM (witnessworld.py) out of the Statement's table words and the real class files: 9 classes; the members and pool entries that the words name. The judged class is class 1, her method 1. -/
namespace start1
open Jvm.ClassFile
def u (s : String) : CpInfo := .utf8 (stringToUtf16 s)
/-- a pool by its gaps: so many unusable entries, then the entry; so many at the end -/
def gap : Nat → List CpInfo → List CpInfo
  | 0, r => r
  | n + 1, r => .unusable :: gap n r
def poolList (es : List (Nat × CpInfo)) (last : Nat) : List CpInfo := es.foldr (fun e r => gap e.1 (e.2 :: r)) (gap last [])
def pool (es : List (Nat × CpInfo)) (last : Nat) : Array CpInfo := ⟨poolList es last⟩
def fileOf (pool : Array CpInfo) (this : Nat) (attrs : Array Attribute := #[]) (ms : Array MethodInfo := #[]) (fl : Nat := 33) (sup : Nat := 0) (ifs : Array Nat := #[]) (fds : Array FieldInfo := #[]) : ClassFile where
  minorVersion := 0
  majorVersion := 65
  constantPool := pool
  accessFlags := fl
  thisClass := this
  superClass := sup
  interfaces := ifs
  fields := fds
  methods := ms
  attributes := attrs
def plain (name : String) (sup : Option ClassId) : Class where
  name := name
  kind := .ordinary
  loader := none
  accessFlags := 33
  super := sup
  interfaces := #[]
  cf := none
  fields := #[]
  methods := #[]
  instanceTypes := #[]
  staticTypes := #[]
  resolved := #[]
  callSites := []
  init := .initialized
  statics := none
  mirror := none

def pool0 : Array CpInfo := pool [(5, u "<init>"), (0, u "()V"), (1, .class_ 10), (1, u "java/lang/Object")] 113

def k0m0 : Method := { name := "<init>", desc := "()V", sig := { parameters := [], returnType := none }, accessFlags := 1, code := none }
/-- java/lang/Object -/
def k0 : Class := { plain "java/lang/Object" none with
  accessFlags := 33
  interfaces := #[]
  cf := some (fileOf pool0 8 #[] #[{ accessFlags := 1, nameIndex := 5, descriptorIndex := 6, attributes := #[] }] 33 0 #[] #[])
  fields := #[]
  methods := #[k0m0]
  instanceTypes := #[]
  staticTypes := #[]
  resolved := Array.replicate 124 none
  statics := none }

def pool1 : Array CpInfo := pool [(2, .class_ 4), (1, u "java/lang/Object"), (0, u "<init>"), (0, u "()V"), (0, .integer 2097151), (0, .methodref 9 10), (0, .class_ 11), (0, .nameAndType 12 13), (0, u "com/example/libxducer/libxducer/Names"), (0, u "isNameChar"), (0, u "(I)Z"), (0, .methodref 15 16), (0, .class_ 17), (0, .nameAndType 18 13), (0, u "com/example/libxducer/libxducer/NamesIsNameCharPinLaw"), (0, u "expected"), (2, u "law"), (0, u "(II)Z")] 3

def k1m0 : Method := { name := "<init>", desc := "()V", sig := { parameters := [], returnType := none }, accessFlags := 1, code := none }
def k1c1 : Code := { maxStack := 2, maxLocals := 4, code := code, exceptionTable := #[], attributes := #[] }
def k1m1 : Method := { name := "law", desc := "(II)Z", sig := { parameters := [.int, .int], returnType := some .boolean }, accessFlags := 9, code := some k1c1 }
def k1c2 : Code := { maxStack := 2, maxLocals := 6, code := method_3_code, exceptionTable := #[], attributes := #[] }
def k1m2 : Method := { name := "expected", desc := "(I)Z", sig := { parameters := [.int], returnType := some .boolean }, accessFlags := 10, code := some k1c2 }
/-- com/example/libxducer/libxducer/NamesIsNameCharPinLaw -/
def k1 : Class := { plain "com/example/libxducer/libxducer/NamesIsNameCharPinLaw" (some 0) with
  accessFlags := 49
  interfaces := #[]
  cf := some (fileOf pool1 15 #[] #[{ accessFlags := 1, nameIndex := 5, descriptorIndex := 6, attributes := #[] }, { accessFlags := 9, nameIndex := 21, descriptorIndex := 22, attributes := #[] }, { accessFlags := 10, nameIndex := 18, descriptorIndex := 13, attributes := #[] }] 49 2 #[] #[])
  fields := #[]
  methods := #[k1m0, k1m1, k1m2]
  instanceTypes := #[]
  staticTypes := #[]
  resolved := Array.replicate 26 none
  statics := none }

def pool2 : Array CpInfo := pool [(2, .class_ 4), (1, u "java/lang/Object"), (0, u "<init>"), (0, u "()V"), (11, .class_ 20), (1, u "com/example/libxducer/libxducer/Names"), (0, u "isNameChar"), (0, u "(I)Z"), (88, .class_ 113), (1, u "com/example/libxducer/libxducer/Names$ErrorAt"), (18, .class_ 133), (0, u "com/example/libxducer/libxducer/Names$Scanned")] 70

def k2m0 : Method := { name := "<init>", desc := "()V", sig := { parameters := [], returnType := none }, accessFlags := 2, code := none }
def k2c1 : Code := { maxStack := 2, maxLocals := 1, code := prog_39_method_2_code, exceptionTable := #[], attributes := #[] }
def k2m1 : Method := { name := "isNameChar", desc := "(I)Z", sig := { parameters := [.int], returnType := some .boolean }, accessFlags := 9, code := some k2c1 }
/-- com/example/libxducer/libxducer/Names -/
def k2 : Class := { plain "com/example/libxducer/libxducer/Names" (some 0) with
  accessFlags := 49
  interfaces := #[]
  cf := some (fileOf pool2 18 #[.nestMembers #[132, 111]] #[{ accessFlags := 2, nameIndex := 5, descriptorIndex := 6, attributes := #[] }, { accessFlags := 9, nameIndex := 21, descriptorIndex := 22, attributes := #[] }] 49 2 #[] #[])
  fields := #[]
  methods := #[k2m0, k2m1]
  instanceTypes := #[]
  staticTypes := #[]
  resolved := Array.replicate 204 none
  statics := none }

def pool3 : Array CpInfo := pool [(1, u "java/lang/Cloneable"), (0, .class_ 1), (0, u "java/lang/Object"), (0, .class_ 3)] 3

/-- java/lang/Cloneable -/
def k3 : Class := { plain "java/lang/Cloneable" (some 0) with
  accessFlags := 1537
  interfaces := #[]
  cf := some (fileOf pool3 2 #[] #[] 1537 4 #[] #[])
  fields := #[]
  methods := #[]
  instanceTypes := #[]
  staticTypes := #[]
  resolved := Array.replicate 8 none
  statics := none }

def pool4 : Array CpInfo := pool [(1, u "java/io/Serializable"), (0, .class_ 1), (0, u "java/lang/Object"), (0, .class_ 3)] 3

/-- java/io/Serializable -/
def k4 : Class := { plain "java/io/Serializable" (some 0) with
  accessFlags := 1537
  interfaces := #[]
  cf := some (fileOf pool4 2 #[] #[] 1537 4 #[] #[])
  fields := #[]
  methods := #[]
  instanceTypes := #[]
  staticTypes := #[]
  resolved := Array.replicate 8 none
  statics := none }

/-- the primitive byte -/
def k5 : Class := { plain "byte" none with kind := .primitive 'B', accessFlags := 0x411 }
/-- [B -/
def k6 : Class := { plain "[B" (some 0) with kind := .array 5 .byte, interfaces := #[3, 4], accessFlags := 1041 }

/-- the primitive int -/
def k7 : Class := { plain "int" none with kind := .primitive 'I', accessFlags := 0x411 }
/-- [I -/
def k8 : Class := { plain "[I" (some 0) with kind := .array 7 .int, interfaces := #[3, 4], accessFlags := 1041 }

def heap : Heap := #[]
def classes : Array Class := #[k0, k1, k2, k3, k4, k5, k6, k7, k8]
def interned : List (Array UInt16 × Addr) := []
def slotsUsed : Nat := 0
def theMethod : MethodId := ⟨1, 1⟩
def args0 : Array Value := #[.int 7, .int 1]
def aboutOver (below : List Frame) : State where
  vm := { classes := classes, interned := interned.toArray }
  heap := heap
  slotsUsed := slotsUsed
  threads := #[{ frames := .invoking theMethod args0 :: below }]
def below0 : List Frame := [.native { method := ⟨0, 0⟩, args := #[] }]
def about1 : State := aboutOver below0
def p0 : Program := .bare "" "" ""
def e0 : Env := launch0.env 0 0 0
theorem w_frames : about1.frames = Frame.invoking theMethod args0 :: below0 := rfl
set_option maxRecDepth 65536 in
theorem w_args : argsFit about1.vm theMethod args0 = true := by decide +kernel
set_option maxRecDepth 65536 in
theorem w_heap : heapFits about1 = true := by decide +kernel
set_option maxRecDepth 65536 in
theorem w_runnable : about1.curStatus? = some .runnable := by decide +kernel
set_option maxRecDepth 65536 in
theorem w_alone : about1.alone = true := by decide +kernel
set_option maxRecDepth 65536 in
theorem w_named : about1.methodNamed? x = some theMethod := by decide +kernel
set_option maxRecDepth 65536 in
theorem w_hears : about1.hears theMethod below0 = true := by decide +kernel
set_option maxRecDepth 65536 in
theorem w_ripe : about1.ripe theMethod args0 below0 = true := by decide +kernel
theorem w_running : about1.status = .running := rfl
set_option maxRecDepth 65536 in
theorem w_room : about1.hasRoom e0.platform room_1 = true :=
  launch0.hasRoom_least _ room_1 (by decide +kernel) (by decide +kernel) (by decide +kernel) (by decide +kernel) (by decide +kernel) (by decide +kernel)
theorem allAtoms_all (ts : List Jvm.Cond) (a : Array Jvm.Value) (st : Jvm.State) : (allAtoms ts).before a st = ts.all (fun c => c.before a st) := by
  induction ts with
  | nil => rfl
  | cons c t ih =>
    show (Jvm.Cond.and c (allAtoms t)).before a st = _
    rw [Jvm.Cond.before_and, ih, List.all_cons]
def words1 : List Jvm.Cond := Jvm.Cond.code x code maxLocals ret :: tables_1
/-- a 'code' word, met by the world's own term for the bytes: nothing is compared byte by byte -/
theorem code_word {y : MethodName} {bytes : ByteArray} {mx : Nat} {rt : Option FieldType} {a : Array Value} {s : State} {m : MethodId} {meth : Method} {c : Code} (h1 : s.methodNamed? y = some m) (h2 : s.vm.method? m = some meth) (h3 : meth.code = some c) (h4 : c.code = bytes)
    (h5 : (c.maxLocals == mx && c.exceptionTable.isEmpty && decide (c.maxStack ≤ mostOperands) && decide (meth.sig.returnType = rt) && !meth.locks && decide (parseMethodDescriptor y.desc = some meth.sig)) = true) : (Jvm.Cond.code y bytes mx rt).before a s = true := by
  simp only [Bool.and_eq_true, beq_iff_eq, Bool.not_eq_true', decide_eq_true_eq] at h5
  obtain ⟨⟨⟨⟨⟨g1, g2⟩, g3⟩, g4⟩, g5⟩, g6⟩ := h5
  simp [Cond.before, Cond.holds, Cond.value, h1, h2, h3, h4, g1, g2, g3, g4, g5, g6]
def isCode : Jvm.Cond → Bool
  | .code _ _ _ _ => true
  | _ => false
theorem all_split {L : List Jvm.Cond} {P : Jvm.Cond → Bool} (h1 : L.all (fun c => isCode c || P c) = true) (h2 : ∀ c ∈ L.filter isCode, P c = true) : L.all P = true := by
  refine List.all_eq_true.mpr fun c hc => ?_
  have h := List.all_eq_true.mp h1 c hc
  rcases Bool.eq_false_or_eq_true (isCode c) with hi | hi
  · exact h2 c (List.mem_filter.mpr ⟨hc, hi⟩)
  · simpa [hi] using h
set_option maxRecDepth 65536 in
theorem w_c0 : (Jvm.Cond.code x code maxLocals ret).before args0 about1 = true := code_word (m := ⟨1, 1⟩) (meth := k1m1) (c := k1c1) (by decide +kernel) rfl rfl rfl (by decide +kernel)
set_option maxRecDepth 65536 in
theorem w_c1 : (Jvm.Cond.code ({ cls := "com/example/libxducer/libxducer/Names", name := "isNameChar", desc := "(I)Z" } : Jvm.MethodName) prog_39_method_2_code (1 : Nat) (Option.some Jvm.ClassFile.FieldType.boolean)).before args0 about1 = true := code_word (m := ⟨2, 1⟩) (meth := k2m1) (c := k2c1) (by decide +kernel) rfl rfl rfl (by decide +kernel)
set_option maxRecDepth 65536 in
theorem w_c2 : (Jvm.Cond.code ({ cls := "com/example/libxducer/libxducer/NamesIsNameCharPinLaw", name := "expected", desc := "(I)Z" } : Jvm.MethodName) method_3_code (6 : Nat) (Option.some Jvm.ClassFile.FieldType.boolean)).before args0 about1 = true := code_word (m := ⟨1, 2⟩) (meth := k1m2) (c := k1c2) (by decide +kernel) rfl rfl rfl (by decide +kernel)
def codes1 : List Jvm.Cond := [Jvm.Cond.code x code maxLocals ret, Jvm.Cond.code ({ cls := "com/example/libxducer/libxducer/Names", name := "isNameChar", desc := "(I)Z" } : Jvm.MethodName) prog_39_method_2_code (1 : Nat) (Option.some Jvm.ClassFile.FieldType.boolean), Jvm.Cond.code ({ cls := "com/example/libxducer/libxducer/NamesIsNameCharPinLaw", name := "expected", desc := "(I)Z" } : Jvm.MethodName) method_3_code (6 : Nat) (Option.some Jvm.ClassFile.FieldType.boolean)]
set_option maxRecDepth 65536 in
theorem codes_eq : words1.filter isCode = codes1 := rfl
theorem w_codes : ∀ c ∈ words1.filter isCode, c.before args0 about1 = true := by
  rw [codes_eq]
  intro c hc
  simp only [codes1, List.mem_cons, List.not_mem_nil, or_false] at hc
  rcases hc with rfl | rfl | rfl
  · exact w_c0
  · exact w_c1
  · exact w_c2
set_option maxRecDepth 65536 in
theorem w_t1 : words1.all (fun c => isCode c || c.before args0 about1) = true := by decide +kernel
theorem w_tables : (allAtoms (Jvm.Cond.code x code maxLocals ret :: tables_1)).before args0 about1 = true := by
  rw [allAtoms_all]
  show words1.all (fun c => c.before args0 about1) = true
  refine all_split ?_ w_codes
  rw [w_t1]
set_option maxRecDepth 65536 in
theorem w_case : (Jvm.Cond.and given_1 narrow_1).before args0 about1 = true := by decide +kernel
theorem w_applies : (headSpec (Jvm.Cond.code x code maxLocals ret :: tables_1) room_1).applies x e0.platform about1 = true :=
  (Spec.applies_iff w_frames).mpr ⟨w_running, w_runnable, w_alone, w_named, w_hears, w_ripe, w_room, w_tables⟩
theorem atStart : AtStart classFile x code maxLocals ret World_1 tables_1 room_1 Calls_1 rest_1 Pre_1 launch0 p0 e0 about1 theMethod args0 below0 :=
  ⟨lists_1, trivial, launch0.admits_env _ _ _, launch0.least_env, fairChoices_fair.cas, fairChoices_fair.clock, w_frames, w_args, w_heap, w_applies, trivial, trivial, w_case⟩
end start1
theorem witness_1 : WitnessClaimed_1 := ⟨start1.p0, start1.e0, start1.about1, start1.theMethod, start1.args0, start1.below0, start1.atStart⟩
end Jvm.Pilot.@@N@@
