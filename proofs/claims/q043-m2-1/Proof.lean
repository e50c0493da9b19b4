import JvmDerived
import JvmDerived.Pilot.@@N@@Statement
import JvmDerived.Pilot.@@N@@Code
set_option linter.unusedVariables false
set_option linter.unusedSimpArgs false
namespace Jvm.RoadKit
open Sem ClassFile Op Lib Jvm.Stand Jvm.Free Jvm.LawKit
section OwnEnds
variable {p : Program} {l : Launch} {e : Env} {R : Room} {s : State} {m : MethodId} {args : Array Value} {below : List Frame} {meth : Method} {c : Code} {T T' : State} {locs : List Loc} {cells slots : Nat} {g g' : JFrame} {Q : Option Value → Heap → List Loc → Prop} {C N : Nat}
/-- from here (the state T, the frame g on top) the run ends, and what it leaves is Q -/
def RunsTo (p : Program) (e : Env) (below : List Frame) (s T : State) (g : JFrame) (Q : Option Value → Heap → List Loc → Prop) (C N : Nat) : Prop :=
  ∃ U o, Steps p.tables e below (T.setTop g) U ∧ U.status = .running ∧ Ended U below o ∧ ∃ v L, o = .returned v ∧ Q v U.heap L ∧ FrameEnd s o U L C N
theorem RunsTo.of (k : ∀ t, Steps p.tables e below (T'.setTop g') t → Steps p.tables e below (T.setTop g) t) (h : RunsTo p e below s T' g' Q C N) : RunsTo p e below s T g Q C N := by
  obtain ⟨U, o, k1, r⟩ := h
  exact ⟨U, o, k U k1, r⟩
theorem RunsTo.start (q : g = g') (h : RunsTo p e below s T g' Q C N) : ∃ U o, Steps p.tables e below (T.setTop g) U ∧ U.status = .running ∧ Ended U below o ∧ ∃ v L, o = .returned v ∧ Q v U.heap L ∧ FrameEnd s o U L C N := by
  subst q; exact h
theorem RunsTo.leave (X : Stand p l e R s m args below meth c T locs cells slots) {v : Option Value} (hv : meth.sig.returnType = none → v = none) (hlocks : meth.locks = false) (hq : Q v T.heap locs) (hC : cells ≤ C) (hN : slots ≤ N)
    (k : ∀ fs, (∀ (f : JFrame) (acts : List Action), f.method = m → f.locked = none → f.entered = [] → (doReturn e (T.setTop f) acts v).1 = T.setFrames fs) → Steps p.tables e below (T.setTop g) (T.setFrames fs)) : RunsTo p e below s T g Q C N := by
  obtain ⟨fs, hr, hrun, hended, hW, hsame⟩ := X.leave (v := v) hv hlocks
  exact ⟨_, _, k fs hr, hrun, hended, v, _, rfl, hq, ⟨_, rfl⟩, hW, hsame.mono hC hN⟩
theorem RunsTo.retI (X : Stand p l e R s m args below meth c T locs cells slots) (hx : p.tables.exec = Jvm.exec) {pc : Nat} {Ls : Array Slot} {z : Int32} {rest : List Value} (hret : meth.sig.returnType = some .int) (hlocks : meth.locks = false) (hd : decode c.code pc = .ok (.ireturn, 1)) (hq : Q (some (.int z)) T.heap locs) (hC : cells ≤ C) (hN : slots ≤ N) :
    RunsTo p e below s T (mkF m pc Ls (.int z :: rest)) Q C N := by
  refine RunsTo.leave X (fun h => by rw [hret] at h; cases h) hlocks hq hC hN fun fs hl => ?_
  have hm' : T.vm.method? m = some meth := X.method'
  have hn : narrow .int (.int z) = .int z := rfl
  show Steps p.tables e below (T.setTop { method := m, pc := pc, locals := Ls, stack := _ :: rest, locked := none }) _
  jvm_step X.here [X.here.top, hx, hd, hm', hret, hn]
  first | (intro acts; rw [hl _ acts rfl rfl rfl]) | rw [hl _ _ rfl rfl rfl]
  exact Steps.refl _
theorem RunsTo.retJ (X : Stand p l e R s m args below meth c T locs cells slots) (hx : p.tables.exec = Jvm.exec) {pc : Nat} {Ls : Array Slot} {z : Int64} {rest : List Value} (hret : meth.sig.returnType = some .long) (hlocks : meth.locks = false) (hd : decode c.code pc = .ok (.lreturn, 1)) (hq : Q (some (.long z)) T.heap locs) (hC : cells ≤ C) (hN : slots ≤ N) :
    RunsTo p e below s T (mkF m pc Ls (.long z :: rest)) Q C N := by
  refine RunsTo.leave X (fun h => by rw [hret] at h; cases h) hlocks hq hC hN fun fs hl => ?_
  have hm' : T.vm.method? m = some meth := X.method'
  show Steps p.tables e below (T.setTop { method := m, pc := pc, locals := Ls, stack := _ :: rest, locked := none }) _
  jvm_step X.here [X.here.top, hx, hd, hm', hret, narrow]
  first | (intro acts; rw [hl _ acts rfl rfl rfl]) | rw [hl _ _ rfl rfl rfl]
  exact Steps.refl _
theorem RunsTo.retA (X : Stand p l e R s m args below meth c T locs cells slots) (hx : p.tables.exec = Jvm.exec) {pc : Nat} {Ls : Array Slot} {z : Value} {ty : FieldType} (hret : meth.sig.returnType = some ty) (hty : ty.isReference = true) (hz : z.isRef = true) (hlocks : meth.locks = false) (hd : decode c.code pc = .ok (.areturn, 1)) (hq : Q (some z) T.heap locs) (hC : cells ≤ C) (hN : slots ≤ N) :
    RunsTo p e below s T (mkF m pc Ls [z]) Q C N :=
  RunsTo.leave X (fun h => by rw [hret] at h; cases h) hlocks hq hC hN fun fs hl => X.areturnOut hx hz hret hty hd hl
theorem RunsTo.retN (X : Stand p l e R s m args below meth c T locs cells slots) (hx : p.tables.exec = Jvm.exec) {pc : Nat} {Ls : Array Slot} {z : Int32} {t : FieldType} {rest : List Value} (hret : meth.sig.returnType = some t) (ht : t = .boolean ∨ t = .byte ∨ t = .char ∨ t = .short) (hlocks : meth.locks = false) (hd : decode c.code pc = .ok (.ireturn, 1)) (hq : Q (some (.int (nar t z))) T.heap locs) (hC : cells ≤ C) (hN : slots ≤ N) :
    RunsTo p e below s T (mkF m pc Ls (.int z :: rest)) Q C N :=
  RunsTo.leave X (fun h => by rw [hret] at h; cases h) hlocks hq hC hN fun fs hl => Jvm.RoadKit.retN X hx hret ht hd hl
theorem RunsTo.retV (X : Stand p l e R s m args below meth c T locs cells slots) (hx : p.tables.exec = Jvm.exec) {pc : Nat} {Ls : Array Slot} (hret : meth.sig.returnType = none) (hlocks : meth.locks = false) (hd : decode c.code pc = .ok (.return_, 1)) (hq : Q none T.heap locs) (hC : cells ≤ C) (hN : slots ≤ N) :
    RunsTo p e below s T (mkF m pc Ls []) Q C N :=
  RunsTo.leave X (fun _ => rfl) hlocks hq hC hN fun fs hl => X.returnOut hx hret hd hl
end OwnEnds
section OwnArf
variable {Z : State} {h h' : Heap} {a b : Addr} {c : Cell} {k : ClassId} {ty : FieldType} {z j : Int32} {f f' : Nat → Value} {v : Value} {sl : Nat} {ws : List Addr}
/-- an array: its kind, its length z, and what each place holds -/
def Arf (Z : State) (h : Heap) (a : Addr) (ty : FieldType) (z : Int32) (f : Nat → Value) : Prop := ∃ c : Cell, Arr Z h a c ty ∧ c.slots.size = z.toNatClampNeg ∧ ¬ z < 0 ∧ ∀ j, j < c.slots.size → c.slots[j]? = some (f j)
theorem Arf.lt (F : Arf Z h a ty z f) : a < h.size := by obtain ⟨c, A, -⟩ := F; exact A.lt
theorem Arf.ext (F : Arf Z h a ty z f) (E : Ext h h') : Arf Z h' a ty z f := by obtain ⟨c, A, r⟩ := F; exact ⟨c, A.ext E, r⟩
theorem Arf.other (F : Arf Z h b ty z f) (W : Wr h h' a sl v) (q : b ≠ a) : Arf Z h' b ty z f := by obtain ⟨c, A, r⟩ := F; exact ⟨c, A.other W q, r⟩
theorem Arf.keep (F : Arf Z h a ty z f) (K : Keep h h' ws) (q : a ∉ ws) : Arf Z h' a ty z f := by obtain ⟨c, A, r⟩ := F; exact ⟨c, ⟨K.2.1 a c A.1 q, A.2⟩, r⟩
theorem Arf.new (A : Arr Z h a (newA k ty z) ty) (q : ¬ z < 0) : Arf Z h a ty z (fun _ => defaultValue ty) := ⟨_, A, sz_new _ _ _, q, fun i hi => by rw [sz_new] at hi; simp [newA, hi]⟩
theorem Arf.congr (F : Arf Z h a ty z f) (q : ∀ i, i < z.toNatClampNeg → f i = f' i) : Arf Z h a ty z f' := by
  obtain ⟨c, A, S, M, H⟩ := F
  exact ⟨c, A, S, M, fun i hi => by rw [← q i (S ▸ hi)]; exact H i hi⟩
theorem Arf.set (A : Arr Z h a c ty) (S : c.slots.size = z.toNatClampNeg) (M : ¬ z < 0) (H : ∀ i, i < c.slots.size → c.slots[i]? = some (f i)) (W : Wr h h' a j.toNatClampNeg v) : Arf Z h' a ty z (fun i => if i = j.toNatClampNeg then v else f i) := by
  refine ⟨_, A.same W, by rw [sz_set]; exact S, M, fun i hi => ?_⟩
  rw [sz_set] at hi
  by_cases u : i = j.toNatClampNeg
  · subst u
    simp [Cell.setSlot, hi]
  · have : (c.setSlot j.toNatClampNeg v).slots[i]? = c.slots[i]? := by
      simp only [Cell.setSlot]; exact Array.getElem?_setIfInBounds_ne (Ne.symm u)
    rw [this]; show _ = some (if i = j.toNatClampNeg then v else f i); rw [if_neg u]; exact H i hi
end OwnArf
end Jvm.RoadKit
namespace Jvm.Pilot.@@N@@
open Jvm Jvm.ClassFile Sem Op Lib Jvm.Free Jvm.Stand Jvm.LawKit Jvm.RoadKit Bundle Jvm.Pilot.@@N@@.Jvm.D
/-! the plain law -/
def own_sr (x k : Int32) : Int32 := (x.toUInt32 >>> (k &&& 31).toUInt32).toInt32
def own_mix (x : Int32) : Int32 :=
  let a := (x ^^^ own_sr x 16) * (-2048144789)
  let b := (a ^^^ own_sr a 13) * (-1028477387)
  b ^^^ own_sr b 16
def own_unmix (r : Int32) : Int32 :=
  let s2 := r ^^^ own_sr r 16
  let t := s2 * 2127672349
  let s1 := (t ^^^ own_sr t 13) ^^^ own_sr t 26
  let u := s1 * (-1513385405)
  u ^^^ own_sr u 16
theorem own_sr_bv (x k : Int32) (n : Nat) (hk : ((k &&& 31).toUInt32).toBitVec = BitVec.ofNat 32 n) (hn : n < 32) : (own_sr x k).toBitVec = x.toBitVec >>> n := by
  show x.toUInt32.toBitVec >>> (((k &&& 31).toUInt32).toBitVec % 32) = _
  rw [hk]
  have h1 : (BitVec.ofNat 32 n % 32) = BitVec.ofNat 32 n := by
    apply BitVec.eq_of_toNat_eq
    rw [BitVec.toNat_umod]; simp; omega
  rw [h1]
  show x.toBitVec >>> BitVec.ofNat 32 n = _
  apply BitVec.eq_of_toNat_eq
  simp [Nat.mod_eq_of_lt (show n < 2 ^ 32 by omega)]
theorem own_x16 (x : Int32) : (x ^^^ own_sr x 16) ^^^ own_sr (x ^^^ own_sr x 16) 16 = x := by
  apply Int32.toBitVec_inj.mp
  rw [Int32.toBitVec_xor, own_sr_bv _ 16 16 (by decide) (by decide), Int32.toBitVec_xor, own_sr_bv _ 16 16 (by decide) (by decide)]
  ext i hi
  simp only [BitVec.getElem_xor, BitVec.getElem_ushiftRight, BitVec.getLsbD_xor, BitVec.getLsbD_ushiftRight]
  rw [BitVec.getLsbD_of_ge x.toBitVec (16 + (16 + i)) (by omega)]
  cases x.toBitVec[i] <;> cases x.toBitVec.getLsbD (16 + i) <;> rfl
theorem own_x13 (x : Int32) : ((x ^^^ own_sr x 13) ^^^ own_sr (x ^^^ own_sr x 13) 13) ^^^ own_sr (x ^^^ own_sr x 13) 26 = x := by
  apply Int32.toBitVec_inj.mp
  rw [Int32.toBitVec_xor, Int32.toBitVec_xor, own_sr_bv _ 13 13 (by decide) (by decide), own_sr_bv _ 26 26 (by decide) (by decide), Int32.toBitVec_xor, own_sr_bv _ 13 13 (by decide) (by decide)]
  ext i hi
  simp only [BitVec.getElem_xor, BitVec.getElem_ushiftRight, BitVec.getLsbD_xor, BitVec.getLsbD_ushiftRight]
  rw [BitVec.getLsbD_of_ge x.toBitVec (13 + (26 + i)) (by omega), show 13 + (13 + i) = 26 + i by omega]
  cases x.toBitVec[i] <;> cases x.toBitVec.getLsbD (13 + i) <;> cases x.toBitVec.getLsbD (26 + i) <;> rfl
theorem own_m1 (x : Int32) : x * (-2048144789) * (-1513385405) = x := by rw [Int32.mul_assoc, show (-2048144789 : Int32) * (-1513385405) = 1 by decide, Int32.mul_one]
theorem own_m2 (x : Int32) : x * (-1028477387) * 2127672349 = x := by rw [Int32.mul_assoc, show (-1028477387 : Int32) * 2127672349 = 1 by decide, Int32.mul_one]
theorem own_law (x : Int32) : own_unmix (own_mix x) = x := by
  simp only [own_unmix, own_mix]
  rw [own_x16, own_m2, own_x13, own_m1, own_x16]
theorem d1_0 : decode prog_29_method_2_code 0 = .ok (.iload_n 0, 1) := by decide +kernel
theorem d1_1 : decode prog_29_method_2_code 1 = .ok (.iload_n 0, 1) := by decide +kernel
theorem d1_2 : decode prog_29_method_2_code 2 = .ok (.bipush 16, 2) := by decide +kernel
theorem d1_4 : decode prog_29_method_2_code 4 = .ok (.iushr, 1) := by decide +kernel
theorem d1_5 : decode prog_29_method_2_code 5 = .ok (.ixor, 1) := by decide +kernel
theorem d1_6 : decode prog_29_method_2_code 6 = .ok (.ldc 7, 2) := by decide +kernel
theorem d1_8 : decode prog_29_method_2_code 8 = .ok (.imul, 1) := by decide +kernel
theorem d1_9 : decode prog_29_method_2_code 9 = .ok (.istore_n 1, 1) := by decide +kernel
theorem d1_10 : decode prog_29_method_2_code 10 = .ok (.iload_n 1, 1) := by decide +kernel
theorem d1_11 : decode prog_29_method_2_code 11 = .ok (.iload_n 1, 1) := by decide +kernel
theorem d1_12 : decode prog_29_method_2_code 12 = .ok (.bipush 13, 2) := by decide +kernel
theorem d1_14 : decode prog_29_method_2_code 14 = .ok (.iushr, 1) := by decide +kernel
theorem d1_15 : decode prog_29_method_2_code 15 = .ok (.ixor, 1) := by decide +kernel
theorem d1_16 : decode prog_29_method_2_code 16 = .ok (.ldc 8, 2) := by decide +kernel
theorem d1_18 : decode prog_29_method_2_code 18 = .ok (.imul, 1) := by decide +kernel
theorem d1_19 : decode prog_29_method_2_code 19 = .ok (.istore_n 1, 1) := by decide +kernel
theorem d1_20 : decode prog_29_method_2_code 20 = .ok (.iload_n 1, 1) := by decide +kernel
theorem d1_21 : decode prog_29_method_2_code 21 = .ok (.iload_n 1, 1) := by decide +kernel
theorem d1_22 : decode prog_29_method_2_code 22 = .ok (.bipush 16, 2) := by decide +kernel
theorem d1_24 : decode prog_29_method_2_code 24 = .ok (.iushr, 1) := by decide +kernel
theorem d1_25 : decode prog_29_method_2_code 25 = .ok (.ixor, 1) := by decide +kernel
theorem d1_26 : decode prog_29_method_2_code 26 = .ok (.ireturn, 1) := by decide +kernel
theorem pn_0 : plainName "com/example/libxducer/libxducer/Hashes" = true := by first | (simp [plainName, overriddenIn]; done) | decide +kernel
theorem ef_rm1 (m : MethodId) (x0 : Int32) : entryFrame m #[(.int x0)] 2 = mkF m 0 #[.val (.int x0), .unset] [] := by first | (simp [entryFrame, mkF, argsToLocals, Value.category]; done) | rfl
def Q1 (Z : State) (x0 : Int32) (h0 : Heap) (n0 : Nat) (v : Option Value) (h : Heap) (L : List Loc) : Prop := v = some (.int (own_mix x0)) ∧ Fr n0 L ∧ h = h0
set_option maxRecDepth 65536 in
set_option maxHeartbeats 40000000 in
theorem rm1 (l : Launch) (Z : State) (a0 : Array Value) (hw : ∀ d ∈ tables_1, d.before a0 Z = true) (ws : List Jvm.Cond) (x0 : Int32) (h0 : Heap) (n0 : Nat) (Z0 : n0 ≤ h0.size)  :
    MetFree l (⟨"com/example/libxducer/libxducer/Hashes", "mixed", "(I)I"⟩ : MethodName) (head1 (Jvm.Cond.code (⟨"com/example/libxducer/libxducer/Hashes", "mixed", "(I)I"⟩ : MethodName) prog_29_method_2_code 2 (some .int) :: ws) ({ frames := 0, cells := 0, slots := 0, locals := 0 } : Room)) (fun a U => a = #[(.int x0)] ∧ Z.Warmed39 U.vm ∧ U.heap = h0) (fun _ _ _ _ _ => True) (fun _ U o U' => ∃ v L, o = .returned v ∧ Q1 Z x0 h0 n0 v U'.heap L ∧ FrameEnd U o U' L ({ frames := 0, cells := 0, slots := 0, locals := 0 } : Room).cells ({ frames := 0, cells := 0, slots := 0, locals := 0 } : Room).slots) := by
  refine MetFree.of_bodySF (plainFor_of_name pn_0) hisR ?_
  intro p e s m args below meth c s₁ Bd hml0 hP hK
  obtain ⟨rfl, hZ, hh⟩ := hP
  have hx := Bd.exec
  have hby := Bd.bytes
  have hml : c.maxLocals = 2 := hml0
  have hown : s.vm.findClass "com/example/libxducer/libxducer/Hashes" = some m.cls := findClass_of_methodNamed Bd.named
  have hnm := (name_of_methodNamed Bd.named Bd.method).1
  have X0 : Stand p l e ({ frames := 0, cells := 0, slots := 0, locals := 0 } : Room) s m #[(.int x0)] below meth c s₁ [] 0 0 := Stand.of_body Bd
  have e0 : s₁.heap = h0 := by rw [← hh, Bd.state]; rfl
  have N0 := Fr.nil n0
  refine RunsTo.start (ef_rm1 m x0) ?_
  show RunsTo p e below s s₁ (mkF m 0 #[.val (.int x0), .unset] []) (Q1 Z x0 h0 n0) ({ frames := 0, cells := 0, slots := 0, locals := 0 } : Room).cells ({ frames := 0, cells := 0, slots := 0, locals := 0 } : Room).slots
  refine RunsTo.of (T' := s₁) (g' := (mkF m 26 #[.val (.int x0), .val (.int ((((x0 ^^^ ((x0.toUInt32 >>> ((16 : Int32) &&& 31).toUInt32).toInt32)) * (-2048144789 : Int32)) ^^^ ((((x0 ^^^ ((x0.toUInt32 >>> ((16 : Int32) &&& 31).toUInt32).toInt32)) * (-2048144789 : Int32)).toUInt32 >>> ((13 : Int32) &&& 31).toUInt32).toInt32)) * (-1028477387 : Int32)))] [(.int (((((x0 ^^^ ((x0.toUInt32 >>> ((16 : Int32) &&& 31).toUInt32).toInt32)) * (-2048144789 : Int32)) ^^^ ((((x0 ^^^ ((x0.toUInt32 >>> ((16 : Int32) &&& 31).toUInt32).toInt32)) * (-2048144789 : Int32)).toUInt32 >>> ((13 : Int32) &&& 31).toUInt32).toInt32)) * (-1028477387 : Int32)) ^^^ ((((((x0 ^^^ ((x0.toUInt32 >>> ((16 : Int32) &&& 31).toUInt32).toInt32)) * (-2048144789 : Int32)) ^^^ ((((x0 ^^^ ((x0.toUInt32 >>> ((16 : Int32) &&& 31).toUInt32).toInt32)) * (-2048144789 : Int32)).toUInt32 >>> ((13 : Int32) &&& 31).toUInt32).toInt32)) * (-1028477387 : Int32)).toUInt32 >>> ((16 : Int32) &&& 31).toUInt32).toInt32)))])) (fun t kt => ?_) ?_
  · refine XS.iloadN X0.here hx rfl (hb hby d1_0) rfl ?_
    show Steps p.tables e below (s₁.setTop (mkF m 1 #[.val (.int x0), .unset] [(.int x0)])) _
    refine XS.iloadN X0.here hx rfl (hb hby d1_1) rfl ?_
    show Steps p.tables e below (s₁.setTop (mkF m 2 #[.val (.int x0), .unset] [(.int x0), (.int x0)])) _
    refine XS.bipush X0.here hx rfl (hb hby d1_2) ?_
    show Steps p.tables e below (s₁.setTop (mkF m 4 #[.val (.int x0), .unset] [(.int (16 : Int32)), (.int x0), (.int x0)])) _
    refine XS.iushr X0.here hx rfl (hb hby d1_4) rfl ?_
    show Steps p.tables e below (s₁.setTop (mkF m 5 #[.val (.int x0), .unset] [(.int ((x0.toUInt32 >>> ((16 : Int32) &&& 31).toUInt32).toInt32)), (.int x0)])) _
    refine XS.ixor X0.here hx rfl (hb hby d1_5) rfl ?_
    show Steps p.tables e below (s₁.setTop (mkF m 6 #[.val (.int x0), .unset] [(.int (x0 ^^^ ((x0.toUInt32 >>> ((16 : Int32) &&& 31).toUInt32).toInt32)))])) _
    refine X0.ldcInt hx hown (mvT hZ (hw _ (List.mem_of_getElem? (i := 4) rfl))) (g := (mkF m 6 #[.val (.int x0), .unset] [(.int (x0 ^^^ ((x0.toUInt32 >>> ((16 : Int32) &&& 31).toUInt32).toInt32)))])) rfl (hb hby d1_6) _ ?_
    show Steps p.tables e below (s₁.setTop (mkF m 8 #[.val (.int x0), .unset] [(.int (-2048144789 : Int32)), (.int (x0 ^^^ ((x0.toUInt32 >>> ((16 : Int32) &&& 31).toUInt32).toInt32)))])) _
    refine XS.imul X0.here hx rfl (hb hby d1_8) rfl ?_
    show Steps p.tables e below (s₁.setTop (mkF m 9 #[.val (.int x0), .unset] [(.int ((x0 ^^^ ((x0.toUInt32 >>> ((16 : Int32) &&& 31).toUInt32).toInt32)) * (-2048144789 : Int32)))])) _
    refine XS.istoreN X0.here hx rfl (hb hby d1_9) rfl (l' := #[.val (.int x0), .val (.int ((x0 ^^^ ((x0.toUInt32 >>> ((16 : Int32) &&& 31).toUInt32).toInt32)) * (-2048144789 : Int32)))]) rfl ?_
    show Steps p.tables e below (s₁.setTop (mkF m 10 #[.val (.int x0), .val (.int ((x0 ^^^ ((x0.toUInt32 >>> ((16 : Int32) &&& 31).toUInt32).toInt32)) * (-2048144789 : Int32)))] [])) _
    refine XS.iloadN X0.here hx rfl (hb hby d1_10) rfl ?_
    show Steps p.tables e below (s₁.setTop (mkF m 11 #[.val (.int x0), .val (.int ((x0 ^^^ ((x0.toUInt32 >>> ((16 : Int32) &&& 31).toUInt32).toInt32)) * (-2048144789 : Int32)))] [(.int ((x0 ^^^ ((x0.toUInt32 >>> ((16 : Int32) &&& 31).toUInt32).toInt32)) * (-2048144789 : Int32)))])) _
    refine XS.iloadN X0.here hx rfl (hb hby d1_11) rfl ?_
    show Steps p.tables e below (s₁.setTop (mkF m 12 #[.val (.int x0), .val (.int ((x0 ^^^ ((x0.toUInt32 >>> ((16 : Int32) &&& 31).toUInt32).toInt32)) * (-2048144789 : Int32)))] [(.int ((x0 ^^^ ((x0.toUInt32 >>> ((16 : Int32) &&& 31).toUInt32).toInt32)) * (-2048144789 : Int32))), (.int ((x0 ^^^ ((x0.toUInt32 >>> ((16 : Int32) &&& 31).toUInt32).toInt32)) * (-2048144789 : Int32)))])) _
    refine XS.bipush X0.here hx rfl (hb hby d1_12) ?_
    show Steps p.tables e below (s₁.setTop (mkF m 14 #[.val (.int x0), .val (.int ((x0 ^^^ ((x0.toUInt32 >>> ((16 : Int32) &&& 31).toUInt32).toInt32)) * (-2048144789 : Int32)))] [(.int (13 : Int32)), (.int ((x0 ^^^ ((x0.toUInt32 >>> ((16 : Int32) &&& 31).toUInt32).toInt32)) * (-2048144789 : Int32))), (.int ((x0 ^^^ ((x0.toUInt32 >>> ((16 : Int32) &&& 31).toUInt32).toInt32)) * (-2048144789 : Int32)))])) _
    refine XS.iushr X0.here hx rfl (hb hby d1_14) rfl ?_
    show Steps p.tables e below (s₁.setTop (mkF m 15 #[.val (.int x0), .val (.int ((x0 ^^^ ((x0.toUInt32 >>> ((16 : Int32) &&& 31).toUInt32).toInt32)) * (-2048144789 : Int32)))] [(.int ((((x0 ^^^ ((x0.toUInt32 >>> ((16 : Int32) &&& 31).toUInt32).toInt32)) * (-2048144789 : Int32)).toUInt32 >>> ((13 : Int32) &&& 31).toUInt32).toInt32)), (.int ((x0 ^^^ ((x0.toUInt32 >>> ((16 : Int32) &&& 31).toUInt32).toInt32)) * (-2048144789 : Int32)))])) _
    refine XS.ixor X0.here hx rfl (hb hby d1_15) rfl ?_
    show Steps p.tables e below (s₁.setTop (mkF m 16 #[.val (.int x0), .val (.int ((x0 ^^^ ((x0.toUInt32 >>> ((16 : Int32) &&& 31).toUInt32).toInt32)) * (-2048144789 : Int32)))] [(.int (((x0 ^^^ ((x0.toUInt32 >>> ((16 : Int32) &&& 31).toUInt32).toInt32)) * (-2048144789 : Int32)) ^^^ ((((x0 ^^^ ((x0.toUInt32 >>> ((16 : Int32) &&& 31).toUInt32).toInt32)) * (-2048144789 : Int32)).toUInt32 >>> ((13 : Int32) &&& 31).toUInt32).toInt32)))])) _
    refine X0.ldcInt hx hown (mvT hZ (hw _ (List.mem_of_getElem? (i := 5) rfl))) (g := (mkF m 16 #[.val (.int x0), .val (.int ((x0 ^^^ ((x0.toUInt32 >>> ((16 : Int32) &&& 31).toUInt32).toInt32)) * (-2048144789 : Int32)))] [(.int (((x0 ^^^ ((x0.toUInt32 >>> ((16 : Int32) &&& 31).toUInt32).toInt32)) * (-2048144789 : Int32)) ^^^ ((((x0 ^^^ ((x0.toUInt32 >>> ((16 : Int32) &&& 31).toUInt32).toInt32)) * (-2048144789 : Int32)).toUInt32 >>> ((13 : Int32) &&& 31).toUInt32).toInt32)))])) rfl (hb hby d1_16) _ ?_
    show Steps p.tables e below (s₁.setTop (mkF m 18 #[.val (.int x0), .val (.int ((x0 ^^^ ((x0.toUInt32 >>> ((16 : Int32) &&& 31).toUInt32).toInt32)) * (-2048144789 : Int32)))] [(.int (-1028477387 : Int32)), (.int (((x0 ^^^ ((x0.toUInt32 >>> ((16 : Int32) &&& 31).toUInt32).toInt32)) * (-2048144789 : Int32)) ^^^ ((((x0 ^^^ ((x0.toUInt32 >>> ((16 : Int32) &&& 31).toUInt32).toInt32)) * (-2048144789 : Int32)).toUInt32 >>> ((13 : Int32) &&& 31).toUInt32).toInt32)))])) _
    refine XS.imul X0.here hx rfl (hb hby d1_18) rfl ?_
    show Steps p.tables e below (s₁.setTop (mkF m 19 #[.val (.int x0), .val (.int ((x0 ^^^ ((x0.toUInt32 >>> ((16 : Int32) &&& 31).toUInt32).toInt32)) * (-2048144789 : Int32)))] [(.int ((((x0 ^^^ ((x0.toUInt32 >>> ((16 : Int32) &&& 31).toUInt32).toInt32)) * (-2048144789 : Int32)) ^^^ ((((x0 ^^^ ((x0.toUInt32 >>> ((16 : Int32) &&& 31).toUInt32).toInt32)) * (-2048144789 : Int32)).toUInt32 >>> ((13 : Int32) &&& 31).toUInt32).toInt32)) * (-1028477387 : Int32)))])) _
    refine XS.istoreN X0.here hx rfl (hb hby d1_19) rfl (l' := #[.val (.int x0), .val (.int ((((x0 ^^^ ((x0.toUInt32 >>> ((16 : Int32) &&& 31).toUInt32).toInt32)) * (-2048144789 : Int32)) ^^^ ((((x0 ^^^ ((x0.toUInt32 >>> ((16 : Int32) &&& 31).toUInt32).toInt32)) * (-2048144789 : Int32)).toUInt32 >>> ((13 : Int32) &&& 31).toUInt32).toInt32)) * (-1028477387 : Int32)))]) rfl ?_
    show Steps p.tables e below (s₁.setTop (mkF m 20 #[.val (.int x0), .val (.int ((((x0 ^^^ ((x0.toUInt32 >>> ((16 : Int32) &&& 31).toUInt32).toInt32)) * (-2048144789 : Int32)) ^^^ ((((x0 ^^^ ((x0.toUInt32 >>> ((16 : Int32) &&& 31).toUInt32).toInt32)) * (-2048144789 : Int32)).toUInt32 >>> ((13 : Int32) &&& 31).toUInt32).toInt32)) * (-1028477387 : Int32)))] [])) _
    refine XS.iloadN X0.here hx rfl (hb hby d1_20) rfl ?_
    show Steps p.tables e below (s₁.setTop (mkF m 21 #[.val (.int x0), .val (.int ((((x0 ^^^ ((x0.toUInt32 >>> ((16 : Int32) &&& 31).toUInt32).toInt32)) * (-2048144789 : Int32)) ^^^ ((((x0 ^^^ ((x0.toUInt32 >>> ((16 : Int32) &&& 31).toUInt32).toInt32)) * (-2048144789 : Int32)).toUInt32 >>> ((13 : Int32) &&& 31).toUInt32).toInt32)) * (-1028477387 : Int32)))] [(.int ((((x0 ^^^ ((x0.toUInt32 >>> ((16 : Int32) &&& 31).toUInt32).toInt32)) * (-2048144789 : Int32)) ^^^ ((((x0 ^^^ ((x0.toUInt32 >>> ((16 : Int32) &&& 31).toUInt32).toInt32)) * (-2048144789 : Int32)).toUInt32 >>> ((13 : Int32) &&& 31).toUInt32).toInt32)) * (-1028477387 : Int32)))])) _
    refine XS.iloadN X0.here hx rfl (hb hby d1_21) rfl ?_
    show Steps p.tables e below (s₁.setTop (mkF m 22 #[.val (.int x0), .val (.int ((((x0 ^^^ ((x0.toUInt32 >>> ((16 : Int32) &&& 31).toUInt32).toInt32)) * (-2048144789 : Int32)) ^^^ ((((x0 ^^^ ((x0.toUInt32 >>> ((16 : Int32) &&& 31).toUInt32).toInt32)) * (-2048144789 : Int32)).toUInt32 >>> ((13 : Int32) &&& 31).toUInt32).toInt32)) * (-1028477387 : Int32)))] [(.int ((((x0 ^^^ ((x0.toUInt32 >>> ((16 : Int32) &&& 31).toUInt32).toInt32)) * (-2048144789 : Int32)) ^^^ ((((x0 ^^^ ((x0.toUInt32 >>> ((16 : Int32) &&& 31).toUInt32).toInt32)) * (-2048144789 : Int32)).toUInt32 >>> ((13 : Int32) &&& 31).toUInt32).toInt32)) * (-1028477387 : Int32))), (.int ((((x0 ^^^ ((x0.toUInt32 >>> ((16 : Int32) &&& 31).toUInt32).toInt32)) * (-2048144789 : Int32)) ^^^ ((((x0 ^^^ ((x0.toUInt32 >>> ((16 : Int32) &&& 31).toUInt32).toInt32)) * (-2048144789 : Int32)).toUInt32 >>> ((13 : Int32) &&& 31).toUInt32).toInt32)) * (-1028477387 : Int32)))])) _
    refine XS.bipush X0.here hx rfl (hb hby d1_22) ?_
    show Steps p.tables e below (s₁.setTop (mkF m 24 #[.val (.int x0), .val (.int ((((x0 ^^^ ((x0.toUInt32 >>> ((16 : Int32) &&& 31).toUInt32).toInt32)) * (-2048144789 : Int32)) ^^^ ((((x0 ^^^ ((x0.toUInt32 >>> ((16 : Int32) &&& 31).toUInt32).toInt32)) * (-2048144789 : Int32)).toUInt32 >>> ((13 : Int32) &&& 31).toUInt32).toInt32)) * (-1028477387 : Int32)))] [(.int (16 : Int32)), (.int ((((x0 ^^^ ((x0.toUInt32 >>> ((16 : Int32) &&& 31).toUInt32).toInt32)) * (-2048144789 : Int32)) ^^^ ((((x0 ^^^ ((x0.toUInt32 >>> ((16 : Int32) &&& 31).toUInt32).toInt32)) * (-2048144789 : Int32)).toUInt32 >>> ((13 : Int32) &&& 31).toUInt32).toInt32)) * (-1028477387 : Int32))), (.int ((((x0 ^^^ ((x0.toUInt32 >>> ((16 : Int32) &&& 31).toUInt32).toInt32)) * (-2048144789 : Int32)) ^^^ ((((x0 ^^^ ((x0.toUInt32 >>> ((16 : Int32) &&& 31).toUInt32).toInt32)) * (-2048144789 : Int32)).toUInt32 >>> ((13 : Int32) &&& 31).toUInt32).toInt32)) * (-1028477387 : Int32)))])) _
    refine XS.iushr X0.here hx rfl (hb hby d1_24) rfl ?_
    show Steps p.tables e below (s₁.setTop (mkF m 25 #[.val (.int x0), .val (.int ((((x0 ^^^ ((x0.toUInt32 >>> ((16 : Int32) &&& 31).toUInt32).toInt32)) * (-2048144789 : Int32)) ^^^ ((((x0 ^^^ ((x0.toUInt32 >>> ((16 : Int32) &&& 31).toUInt32).toInt32)) * (-2048144789 : Int32)).toUInt32 >>> ((13 : Int32) &&& 31).toUInt32).toInt32)) * (-1028477387 : Int32)))] [(.int ((((((x0 ^^^ ((x0.toUInt32 >>> ((16 : Int32) &&& 31).toUInt32).toInt32)) * (-2048144789 : Int32)) ^^^ ((((x0 ^^^ ((x0.toUInt32 >>> ((16 : Int32) &&& 31).toUInt32).toInt32)) * (-2048144789 : Int32)).toUInt32 >>> ((13 : Int32) &&& 31).toUInt32).toInt32)) * (-1028477387 : Int32)).toUInt32 >>> ((16 : Int32) &&& 31).toUInt32).toInt32)), (.int ((((x0 ^^^ ((x0.toUInt32 >>> ((16 : Int32) &&& 31).toUInt32).toInt32)) * (-2048144789 : Int32)) ^^^ ((((x0 ^^^ ((x0.toUInt32 >>> ((16 : Int32) &&& 31).toUInt32).toInt32)) * (-2048144789 : Int32)).toUInt32 >>> ((13 : Int32) &&& 31).toUInt32).toInt32)) * (-1028477387 : Int32)))])) _
    refine XS.ixor X0.here hx rfl (hb hby d1_25) rfl ?_
    show Steps p.tables e below (s₁.setTop (mkF m 26 #[.val (.int x0), .val (.int ((((x0 ^^^ ((x0.toUInt32 >>> ((16 : Int32) &&& 31).toUInt32).toInt32)) * (-2048144789 : Int32)) ^^^ ((((x0 ^^^ ((x0.toUInt32 >>> ((16 : Int32) &&& 31).toUInt32).toInt32)) * (-2048144789 : Int32)).toUInt32 >>> ((13 : Int32) &&& 31).toUInt32).toInt32)) * (-1028477387 : Int32)))] [(.int (((((x0 ^^^ ((x0.toUInt32 >>> ((16 : Int32) &&& 31).toUInt32).toInt32)) * (-2048144789 : Int32)) ^^^ ((((x0 ^^^ ((x0.toUInt32 >>> ((16 : Int32) &&& 31).toUInt32).toInt32)) * (-2048144789 : Int32)).toUInt32 >>> ((13 : Int32) &&& 31).toUInt32).toInt32)) * (-1028477387 : Int32)) ^^^ ((((((x0 ^^^ ((x0.toUInt32 >>> ((16 : Int32) &&& 31).toUInt32).toInt32)) * (-2048144789 : Int32)) ^^^ ((((x0 ^^^ ((x0.toUInt32 >>> ((16 : Int32) &&& 31).toUInt32).toInt32)) * (-2048144789 : Int32)).toUInt32 >>> ((13 : Int32) &&& 31).toUInt32).toInt32)) * (-1028477387 : Int32)).toUInt32 >>> ((16 : Int32) &&& 31).toUInt32).toInt32)))])) _
    exact kt
  refine RunsTo.retI X0 hx Bd.returns Bd.notSynchronized (hb hby d1_26) ?_ (by decide) (by decide)
  rw [e0]
  exact ⟨rfl, N0, rfl⟩
theorem d2_0 : decode method_2_code 0 = .ok (.iload_n 0, 1) := by decide +kernel
theorem d2_1 : decode method_2_code 1 = .ok (.iload_n 0, 1) := by decide +kernel
theorem d2_2 : decode method_2_code 2 = .ok (.bipush 16, 2) := by decide +kernel
theorem d2_4 : decode method_2_code 4 = .ok (.iushr, 1) := by decide +kernel
theorem d2_5 : decode method_2_code 5 = .ok (.ixor, 1) := by decide +kernel
theorem d2_6 : decode method_2_code 6 = .ok (.istore_n 1, 1) := by decide +kernel
theorem d2_7 : decode method_2_code 7 = .ok (.iload_n 1, 1) := by decide +kernel
theorem d2_8 : decode method_2_code 8 = .ok (.ldc 7, 2) := by decide +kernel
theorem d2_10 : decode method_2_code 10 = .ok (.imul, 1) := by decide +kernel
theorem d2_11 : decode method_2_code 11 = .ok (.istore_n 2, 1) := by decide +kernel
theorem d2_12 : decode method_2_code 12 = .ok (.iload_n 2, 1) := by decide +kernel
theorem d2_13 : decode method_2_code 13 = .ok (.iload_n 2, 1) := by decide +kernel
theorem d2_14 : decode method_2_code 14 = .ok (.bipush 13, 2) := by decide +kernel
theorem d2_16 : decode method_2_code 16 = .ok (.iushr, 1) := by decide +kernel
theorem d2_17 : decode method_2_code 17 = .ok (.ixor, 1) := by decide +kernel
theorem d2_18 : decode method_2_code 18 = .ok (.iload_n 2, 1) := by decide +kernel
theorem d2_19 : decode method_2_code 19 = .ok (.bipush 26, 2) := by decide +kernel
theorem d2_21 : decode method_2_code 21 = .ok (.iushr, 1) := by decide +kernel
theorem d2_22 : decode method_2_code 22 = .ok (.ixor, 1) := by decide +kernel
theorem d2_23 : decode method_2_code 23 = .ok (.istore_n 3, 1) := by decide +kernel
theorem d2_24 : decode method_2_code 24 = .ok (.iload_n 3, 1) := by decide +kernel
theorem d2_25 : decode method_2_code 25 = .ok (.ldc 8, 2) := by decide +kernel
theorem d2_27 : decode method_2_code 27 = .ok (.imul, 1) := by decide +kernel
theorem d2_28 : decode method_2_code 28 = .ok (.istore 4, 2) := by decide +kernel
theorem d2_30 : decode method_2_code 30 = .ok (.iload 4, 2) := by decide +kernel
theorem d2_32 : decode method_2_code 32 = .ok (.iload 4, 2) := by decide +kernel
theorem d2_34 : decode method_2_code 34 = .ok (.bipush 16, 2) := by decide +kernel
theorem d2_36 : decode method_2_code 36 = .ok (.iushr, 1) := by decide +kernel
theorem d2_37 : decode method_2_code 37 = .ok (.ixor, 1) := by decide +kernel
theorem d2_38 : decode method_2_code 38 = .ok (.ireturn, 1) := by decide +kernel
theorem pn_1 : plainName "com/example/libxducer/libxducer/HashesMixedPinLaw" = true := by first | (simp [plainName, overriddenIn]; done) | decide +kernel
theorem ef_rm2 (m : MethodId) (x0 : Int32) : entryFrame m #[(.int x0)] 5 = mkF m 0 #[.val (.int x0), .unset, .unset, .unset, .unset] [] := by first | (simp [entryFrame, mkF, argsToLocals, Value.category]; done) | rfl
def Q2 (Z : State) (x0 : Int32) (h0 : Heap) (n0 : Nat) (v : Option Value) (h : Heap) (L : List Loc) : Prop := v = some (.int (own_unmix x0)) ∧ Fr n0 L ∧ h = h0
set_option maxRecDepth 65536 in
set_option maxHeartbeats 40000000 in
theorem rm2 (l : Launch) (Z : State) (a0 : Array Value) (hw : ∀ d ∈ tables_1, d.before a0 Z = true) (ws : List Jvm.Cond) (x0 : Int32) (h0 : Heap) (n0 : Nat) (Z0 : n0 ≤ h0.size)  :
    MetFree l (⟨"com/example/libxducer/libxducer/HashesMixedPinLaw", "unmixed", "(I)I"⟩ : MethodName) (head1 (Jvm.Cond.code (⟨"com/example/libxducer/libxducer/HashesMixedPinLaw", "unmixed", "(I)I"⟩ : MethodName) method_2_code 5 (some .int) :: ws) ({ frames := 0, cells := 0, slots := 0, locals := 0 } : Room)) (fun a U => a = #[(.int x0)] ∧ Z.Warmed39 U.vm ∧ U.heap = h0) (fun _ _ _ _ _ => True) (fun _ U o U' => ∃ v L, o = .returned v ∧ Q2 Z x0 h0 n0 v U'.heap L ∧ FrameEnd U o U' L ({ frames := 0, cells := 0, slots := 0, locals := 0 } : Room).cells ({ frames := 0, cells := 0, slots := 0, locals := 0 } : Room).slots) := by
  refine MetFree.of_bodySF (plainFor_of_name pn_1) hisR ?_
  intro p e s m args below meth c s₁ Bd hml0 hP hK
  obtain ⟨rfl, hZ, hh⟩ := hP
  have hx := Bd.exec
  have hby := Bd.bytes
  have hml : c.maxLocals = 5 := hml0
  have hown : s.vm.findClass "com/example/libxducer/libxducer/HashesMixedPinLaw" = some m.cls := findClass_of_methodNamed Bd.named
  have hnm := (name_of_methodNamed Bd.named Bd.method).1
  have X0 : Stand p l e ({ frames := 0, cells := 0, slots := 0, locals := 0 } : Room) s m #[(.int x0)] below meth c s₁ [] 0 0 := Stand.of_body Bd
  have e0 : s₁.heap = h0 := by rw [← hh, Bd.state]; rfl
  have N0 := Fr.nil n0
  refine RunsTo.start (ef_rm2 m x0) ?_
  show RunsTo p e below s s₁ (mkF m 0 #[.val (.int x0), .unset, .unset, .unset, .unset] []) (Q2 Z x0 h0 n0) ({ frames := 0, cells := 0, slots := 0, locals := 0 } : Room).cells ({ frames := 0, cells := 0, slots := 0, locals := 0 } : Room).slots
  refine RunsTo.of (T' := s₁) (g' := (mkF m 38 #[.val (.int x0), .val (.int (x0 ^^^ ((x0.toUInt32 >>> ((16 : Int32) &&& 31).toUInt32).toInt32))), .val (.int ((x0 ^^^ ((x0.toUInt32 >>> ((16 : Int32) &&& 31).toUInt32).toInt32)) * (2127672349 : Int32))), .val (.int ((((x0 ^^^ ((x0.toUInt32 >>> ((16 : Int32) &&& 31).toUInt32).toInt32)) * (2127672349 : Int32)) ^^^ ((((x0 ^^^ ((x0.toUInt32 >>> ((16 : Int32) &&& 31).toUInt32).toInt32)) * (2127672349 : Int32)).toUInt32 >>> ((13 : Int32) &&& 31).toUInt32).toInt32)) ^^^ ((((x0 ^^^ ((x0.toUInt32 >>> ((16 : Int32) &&& 31).toUInt32).toInt32)) * (2127672349 : Int32)).toUInt32 >>> ((26 : Int32) &&& 31).toUInt32).toInt32))), .val (.int (((((x0 ^^^ ((x0.toUInt32 >>> ((16 : Int32) &&& 31).toUInt32).toInt32)) * (2127672349 : Int32)) ^^^ ((((x0 ^^^ ((x0.toUInt32 >>> ((16 : Int32) &&& 31).toUInt32).toInt32)) * (2127672349 : Int32)).toUInt32 >>> ((13 : Int32) &&& 31).toUInt32).toInt32)) ^^^ ((((x0 ^^^ ((x0.toUInt32 >>> ((16 : Int32) &&& 31).toUInt32).toInt32)) * (2127672349 : Int32)).toUInt32 >>> ((26 : Int32) &&& 31).toUInt32).toInt32)) * (-1513385405 : Int32)))] [(.int ((((((x0 ^^^ ((x0.toUInt32 >>> ((16 : Int32) &&& 31).toUInt32).toInt32)) * (2127672349 : Int32)) ^^^ ((((x0 ^^^ ((x0.toUInt32 >>> ((16 : Int32) &&& 31).toUInt32).toInt32)) * (2127672349 : Int32)).toUInt32 >>> ((13 : Int32) &&& 31).toUInt32).toInt32)) ^^^ ((((x0 ^^^ ((x0.toUInt32 >>> ((16 : Int32) &&& 31).toUInt32).toInt32)) * (2127672349 : Int32)).toUInt32 >>> ((26 : Int32) &&& 31).toUInt32).toInt32)) * (-1513385405 : Int32)) ^^^ (((((((x0 ^^^ ((x0.toUInt32 >>> ((16 : Int32) &&& 31).toUInt32).toInt32)) * (2127672349 : Int32)) ^^^ ((((x0 ^^^ ((x0.toUInt32 >>> ((16 : Int32) &&& 31).toUInt32).toInt32)) * (2127672349 : Int32)).toUInt32 >>> ((13 : Int32) &&& 31).toUInt32).toInt32)) ^^^ ((((x0 ^^^ ((x0.toUInt32 >>> ((16 : Int32) &&& 31).toUInt32).toInt32)) * (2127672349 : Int32)).toUInt32 >>> ((26 : Int32) &&& 31).toUInt32).toInt32)) * (-1513385405 : Int32)).toUInt32 >>> ((16 : Int32) &&& 31).toUInt32).toInt32)))])) (fun t kt => ?_) ?_
  · refine XS.iloadN X0.here hx rfl (hb hby d2_0) rfl ?_
    show Steps p.tables e below (s₁.setTop (mkF m 1 #[.val (.int x0), .unset, .unset, .unset, .unset] [(.int x0)])) _
    refine XS.iloadN X0.here hx rfl (hb hby d2_1) rfl ?_
    show Steps p.tables e below (s₁.setTop (mkF m 2 #[.val (.int x0), .unset, .unset, .unset, .unset] [(.int x0), (.int x0)])) _
    refine XS.bipush X0.here hx rfl (hb hby d2_2) ?_
    show Steps p.tables e below (s₁.setTop (mkF m 4 #[.val (.int x0), .unset, .unset, .unset, .unset] [(.int (16 : Int32)), (.int x0), (.int x0)])) _
    refine XS.iushr X0.here hx rfl (hb hby d2_4) rfl ?_
    show Steps p.tables e below (s₁.setTop (mkF m 5 #[.val (.int x0), .unset, .unset, .unset, .unset] [(.int ((x0.toUInt32 >>> ((16 : Int32) &&& 31).toUInt32).toInt32)), (.int x0)])) _
    refine XS.ixor X0.here hx rfl (hb hby d2_5) rfl ?_
    show Steps p.tables e below (s₁.setTop (mkF m 6 #[.val (.int x0), .unset, .unset, .unset, .unset] [(.int (x0 ^^^ ((x0.toUInt32 >>> ((16 : Int32) &&& 31).toUInt32).toInt32)))])) _
    refine XS.istoreN X0.here hx rfl (hb hby d2_6) rfl (l' := #[.val (.int x0), .val (.int (x0 ^^^ ((x0.toUInt32 >>> ((16 : Int32) &&& 31).toUInt32).toInt32))), .unset, .unset, .unset]) rfl ?_
    show Steps p.tables e below (s₁.setTop (mkF m 7 #[.val (.int x0), .val (.int (x0 ^^^ ((x0.toUInt32 >>> ((16 : Int32) &&& 31).toUInt32).toInt32))), .unset, .unset, .unset] [])) _
    refine XS.iloadN X0.here hx rfl (hb hby d2_7) rfl ?_
    show Steps p.tables e below (s₁.setTop (mkF m 8 #[.val (.int x0), .val (.int (x0 ^^^ ((x0.toUInt32 >>> ((16 : Int32) &&& 31).toUInt32).toInt32))), .unset, .unset, .unset] [(.int (x0 ^^^ ((x0.toUInt32 >>> ((16 : Int32) &&& 31).toUInt32).toInt32)))])) _
    refine X0.ldcInt hx hown (mvT hZ (hw _ (List.mem_of_getElem? (i := 10) rfl))) (g := (mkF m 8 #[.val (.int x0), .val (.int (x0 ^^^ ((x0.toUInt32 >>> ((16 : Int32) &&& 31).toUInt32).toInt32))), .unset, .unset, .unset] [(.int (x0 ^^^ ((x0.toUInt32 >>> ((16 : Int32) &&& 31).toUInt32).toInt32)))])) rfl (hb hby d2_8) _ ?_
    show Steps p.tables e below (s₁.setTop (mkF m 10 #[.val (.int x0), .val (.int (x0 ^^^ ((x0.toUInt32 >>> ((16 : Int32) &&& 31).toUInt32).toInt32))), .unset, .unset, .unset] [(.int (2127672349 : Int32)), (.int (x0 ^^^ ((x0.toUInt32 >>> ((16 : Int32) &&& 31).toUInt32).toInt32)))])) _
    refine XS.imul X0.here hx rfl (hb hby d2_10) rfl ?_
    show Steps p.tables e below (s₁.setTop (mkF m 11 #[.val (.int x0), .val (.int (x0 ^^^ ((x0.toUInt32 >>> ((16 : Int32) &&& 31).toUInt32).toInt32))), .unset, .unset, .unset] [(.int ((x0 ^^^ ((x0.toUInt32 >>> ((16 : Int32) &&& 31).toUInt32).toInt32)) * (2127672349 : Int32)))])) _
    refine XS.istoreN X0.here hx rfl (hb hby d2_11) rfl (l' := #[.val (.int x0), .val (.int (x0 ^^^ ((x0.toUInt32 >>> ((16 : Int32) &&& 31).toUInt32).toInt32))), .val (.int ((x0 ^^^ ((x0.toUInt32 >>> ((16 : Int32) &&& 31).toUInt32).toInt32)) * (2127672349 : Int32))), .unset, .unset]) rfl ?_
    show Steps p.tables e below (s₁.setTop (mkF m 12 #[.val (.int x0), .val (.int (x0 ^^^ ((x0.toUInt32 >>> ((16 : Int32) &&& 31).toUInt32).toInt32))), .val (.int ((x0 ^^^ ((x0.toUInt32 >>> ((16 : Int32) &&& 31).toUInt32).toInt32)) * (2127672349 : Int32))), .unset, .unset] [])) _
    refine XS.iloadN X0.here hx rfl (hb hby d2_12) rfl ?_
    show Steps p.tables e below (s₁.setTop (mkF m 13 #[.val (.int x0), .val (.int (x0 ^^^ ((x0.toUInt32 >>> ((16 : Int32) &&& 31).toUInt32).toInt32))), .val (.int ((x0 ^^^ ((x0.toUInt32 >>> ((16 : Int32) &&& 31).toUInt32).toInt32)) * (2127672349 : Int32))), .unset, .unset] [(.int ((x0 ^^^ ((x0.toUInt32 >>> ((16 : Int32) &&& 31).toUInt32).toInt32)) * (2127672349 : Int32)))])) _
    refine XS.iloadN X0.here hx rfl (hb hby d2_13) rfl ?_
    show Steps p.tables e below (s₁.setTop (mkF m 14 #[.val (.int x0), .val (.int (x0 ^^^ ((x0.toUInt32 >>> ((16 : Int32) &&& 31).toUInt32).toInt32))), .val (.int ((x0 ^^^ ((x0.toUInt32 >>> ((16 : Int32) &&& 31).toUInt32).toInt32)) * (2127672349 : Int32))), .unset, .unset] [(.int ((x0 ^^^ ((x0.toUInt32 >>> ((16 : Int32) &&& 31).toUInt32).toInt32)) * (2127672349 : Int32))), (.int ((x0 ^^^ ((x0.toUInt32 >>> ((16 : Int32) &&& 31).toUInt32).toInt32)) * (2127672349 : Int32)))])) _
    refine XS.bipush X0.here hx rfl (hb hby d2_14) ?_
    show Steps p.tables e below (s₁.setTop (mkF m 16 #[.val (.int x0), .val (.int (x0 ^^^ ((x0.toUInt32 >>> ((16 : Int32) &&& 31).toUInt32).toInt32))), .val (.int ((x0 ^^^ ((x0.toUInt32 >>> ((16 : Int32) &&& 31).toUInt32).toInt32)) * (2127672349 : Int32))), .unset, .unset] [(.int (13 : Int32)), (.int ((x0 ^^^ ((x0.toUInt32 >>> ((16 : Int32) &&& 31).toUInt32).toInt32)) * (2127672349 : Int32))), (.int ((x0 ^^^ ((x0.toUInt32 >>> ((16 : Int32) &&& 31).toUInt32).toInt32)) * (2127672349 : Int32)))])) _
    refine XS.iushr X0.here hx rfl (hb hby d2_16) rfl ?_
    show Steps p.tables e below (s₁.setTop (mkF m 17 #[.val (.int x0), .val (.int (x0 ^^^ ((x0.toUInt32 >>> ((16 : Int32) &&& 31).toUInt32).toInt32))), .val (.int ((x0 ^^^ ((x0.toUInt32 >>> ((16 : Int32) &&& 31).toUInt32).toInt32)) * (2127672349 : Int32))), .unset, .unset] [(.int ((((x0 ^^^ ((x0.toUInt32 >>> ((16 : Int32) &&& 31).toUInt32).toInt32)) * (2127672349 : Int32)).toUInt32 >>> ((13 : Int32) &&& 31).toUInt32).toInt32)), (.int ((x0 ^^^ ((x0.toUInt32 >>> ((16 : Int32) &&& 31).toUInt32).toInt32)) * (2127672349 : Int32)))])) _
    refine XS.ixor X0.here hx rfl (hb hby d2_17) rfl ?_
    show Steps p.tables e below (s₁.setTop (mkF m 18 #[.val (.int x0), .val (.int (x0 ^^^ ((x0.toUInt32 >>> ((16 : Int32) &&& 31).toUInt32).toInt32))), .val (.int ((x0 ^^^ ((x0.toUInt32 >>> ((16 : Int32) &&& 31).toUInt32).toInt32)) * (2127672349 : Int32))), .unset, .unset] [(.int (((x0 ^^^ ((x0.toUInt32 >>> ((16 : Int32) &&& 31).toUInt32).toInt32)) * (2127672349 : Int32)) ^^^ ((((x0 ^^^ ((x0.toUInt32 >>> ((16 : Int32) &&& 31).toUInt32).toInt32)) * (2127672349 : Int32)).toUInt32 >>> ((13 : Int32) &&& 31).toUInt32).toInt32)))])) _
    refine XS.iloadN X0.here hx rfl (hb hby d2_18) rfl ?_
    show Steps p.tables e below (s₁.setTop (mkF m 19 #[.val (.int x0), .val (.int (x0 ^^^ ((x0.toUInt32 >>> ((16 : Int32) &&& 31).toUInt32).toInt32))), .val (.int ((x0 ^^^ ((x0.toUInt32 >>> ((16 : Int32) &&& 31).toUInt32).toInt32)) * (2127672349 : Int32))), .unset, .unset] [(.int ((x0 ^^^ ((x0.toUInt32 >>> ((16 : Int32) &&& 31).toUInt32).toInt32)) * (2127672349 : Int32))), (.int (((x0 ^^^ ((x0.toUInt32 >>> ((16 : Int32) &&& 31).toUInt32).toInt32)) * (2127672349 : Int32)) ^^^ ((((x0 ^^^ ((x0.toUInt32 >>> ((16 : Int32) &&& 31).toUInt32).toInt32)) * (2127672349 : Int32)).toUInt32 >>> ((13 : Int32) &&& 31).toUInt32).toInt32)))])) _
    refine XS.bipush X0.here hx rfl (hb hby d2_19) ?_
    show Steps p.tables e below (s₁.setTop (mkF m 21 #[.val (.int x0), .val (.int (x0 ^^^ ((x0.toUInt32 >>> ((16 : Int32) &&& 31).toUInt32).toInt32))), .val (.int ((x0 ^^^ ((x0.toUInt32 >>> ((16 : Int32) &&& 31).toUInt32).toInt32)) * (2127672349 : Int32))), .unset, .unset] [(.int (26 : Int32)), (.int ((x0 ^^^ ((x0.toUInt32 >>> ((16 : Int32) &&& 31).toUInt32).toInt32)) * (2127672349 : Int32))), (.int (((x0 ^^^ ((x0.toUInt32 >>> ((16 : Int32) &&& 31).toUInt32).toInt32)) * (2127672349 : Int32)) ^^^ ((((x0 ^^^ ((x0.toUInt32 >>> ((16 : Int32) &&& 31).toUInt32).toInt32)) * (2127672349 : Int32)).toUInt32 >>> ((13 : Int32) &&& 31).toUInt32).toInt32)))])) _
    refine XS.iushr X0.here hx rfl (hb hby d2_21) rfl ?_
    show Steps p.tables e below (s₁.setTop (mkF m 22 #[.val (.int x0), .val (.int (x0 ^^^ ((x0.toUInt32 >>> ((16 : Int32) &&& 31).toUInt32).toInt32))), .val (.int ((x0 ^^^ ((x0.toUInt32 >>> ((16 : Int32) &&& 31).toUInt32).toInt32)) * (2127672349 : Int32))), .unset, .unset] [(.int ((((x0 ^^^ ((x0.toUInt32 >>> ((16 : Int32) &&& 31).toUInt32).toInt32)) * (2127672349 : Int32)).toUInt32 >>> ((26 : Int32) &&& 31).toUInt32).toInt32)), (.int (((x0 ^^^ ((x0.toUInt32 >>> ((16 : Int32) &&& 31).toUInt32).toInt32)) * (2127672349 : Int32)) ^^^ ((((x0 ^^^ ((x0.toUInt32 >>> ((16 : Int32) &&& 31).toUInt32).toInt32)) * (2127672349 : Int32)).toUInt32 >>> ((13 : Int32) &&& 31).toUInt32).toInt32)))])) _
    refine XS.ixor X0.here hx rfl (hb hby d2_22) rfl ?_
    show Steps p.tables e below (s₁.setTop (mkF m 23 #[.val (.int x0), .val (.int (x0 ^^^ ((x0.toUInt32 >>> ((16 : Int32) &&& 31).toUInt32).toInt32))), .val (.int ((x0 ^^^ ((x0.toUInt32 >>> ((16 : Int32) &&& 31).toUInt32).toInt32)) * (2127672349 : Int32))), .unset, .unset] [(.int ((((x0 ^^^ ((x0.toUInt32 >>> ((16 : Int32) &&& 31).toUInt32).toInt32)) * (2127672349 : Int32)) ^^^ ((((x0 ^^^ ((x0.toUInt32 >>> ((16 : Int32) &&& 31).toUInt32).toInt32)) * (2127672349 : Int32)).toUInt32 >>> ((13 : Int32) &&& 31).toUInt32).toInt32)) ^^^ ((((x0 ^^^ ((x0.toUInt32 >>> ((16 : Int32) &&& 31).toUInt32).toInt32)) * (2127672349 : Int32)).toUInt32 >>> ((26 : Int32) &&& 31).toUInt32).toInt32)))])) _
    refine XS.istoreN X0.here hx rfl (hb hby d2_23) rfl (l' := #[.val (.int x0), .val (.int (x0 ^^^ ((x0.toUInt32 >>> ((16 : Int32) &&& 31).toUInt32).toInt32))), .val (.int ((x0 ^^^ ((x0.toUInt32 >>> ((16 : Int32) &&& 31).toUInt32).toInt32)) * (2127672349 : Int32))), .val (.int ((((x0 ^^^ ((x0.toUInt32 >>> ((16 : Int32) &&& 31).toUInt32).toInt32)) * (2127672349 : Int32)) ^^^ ((((x0 ^^^ ((x0.toUInt32 >>> ((16 : Int32) &&& 31).toUInt32).toInt32)) * (2127672349 : Int32)).toUInt32 >>> ((13 : Int32) &&& 31).toUInt32).toInt32)) ^^^ ((((x0 ^^^ ((x0.toUInt32 >>> ((16 : Int32) &&& 31).toUInt32).toInt32)) * (2127672349 : Int32)).toUInt32 >>> ((26 : Int32) &&& 31).toUInt32).toInt32))), .unset]) rfl ?_
    show Steps p.tables e below (s₁.setTop (mkF m 24 #[.val (.int x0), .val (.int (x0 ^^^ ((x0.toUInt32 >>> ((16 : Int32) &&& 31).toUInt32).toInt32))), .val (.int ((x0 ^^^ ((x0.toUInt32 >>> ((16 : Int32) &&& 31).toUInt32).toInt32)) * (2127672349 : Int32))), .val (.int ((((x0 ^^^ ((x0.toUInt32 >>> ((16 : Int32) &&& 31).toUInt32).toInt32)) * (2127672349 : Int32)) ^^^ ((((x0 ^^^ ((x0.toUInt32 >>> ((16 : Int32) &&& 31).toUInt32).toInt32)) * (2127672349 : Int32)).toUInt32 >>> ((13 : Int32) &&& 31).toUInt32).toInt32)) ^^^ ((((x0 ^^^ ((x0.toUInt32 >>> ((16 : Int32) &&& 31).toUInt32).toInt32)) * (2127672349 : Int32)).toUInt32 >>> ((26 : Int32) &&& 31).toUInt32).toInt32))), .unset] [])) _
    refine XS.iloadN X0.here hx rfl (hb hby d2_24) rfl ?_
    show Steps p.tables e below (s₁.setTop (mkF m 25 #[.val (.int x0), .val (.int (x0 ^^^ ((x0.toUInt32 >>> ((16 : Int32) &&& 31).toUInt32).toInt32))), .val (.int ((x0 ^^^ ((x0.toUInt32 >>> ((16 : Int32) &&& 31).toUInt32).toInt32)) * (2127672349 : Int32))), .val (.int ((((x0 ^^^ ((x0.toUInt32 >>> ((16 : Int32) &&& 31).toUInt32).toInt32)) * (2127672349 : Int32)) ^^^ ((((x0 ^^^ ((x0.toUInt32 >>> ((16 : Int32) &&& 31).toUInt32).toInt32)) * (2127672349 : Int32)).toUInt32 >>> ((13 : Int32) &&& 31).toUInt32).toInt32)) ^^^ ((((x0 ^^^ ((x0.toUInt32 >>> ((16 : Int32) &&& 31).toUInt32).toInt32)) * (2127672349 : Int32)).toUInt32 >>> ((26 : Int32) &&& 31).toUInt32).toInt32))), .unset] [(.int ((((x0 ^^^ ((x0.toUInt32 >>> ((16 : Int32) &&& 31).toUInt32).toInt32)) * (2127672349 : Int32)) ^^^ ((((x0 ^^^ ((x0.toUInt32 >>> ((16 : Int32) &&& 31).toUInt32).toInt32)) * (2127672349 : Int32)).toUInt32 >>> ((13 : Int32) &&& 31).toUInt32).toInt32)) ^^^ ((((x0 ^^^ ((x0.toUInt32 >>> ((16 : Int32) &&& 31).toUInt32).toInt32)) * (2127672349 : Int32)).toUInt32 >>> ((26 : Int32) &&& 31).toUInt32).toInt32)))])) _
    refine X0.ldcInt hx hown (mvT hZ (hw _ (List.mem_of_getElem? (i := 11) rfl))) (g := (mkF m 25 #[.val (.int x0), .val (.int (x0 ^^^ ((x0.toUInt32 >>> ((16 : Int32) &&& 31).toUInt32).toInt32))), .val (.int ((x0 ^^^ ((x0.toUInt32 >>> ((16 : Int32) &&& 31).toUInt32).toInt32)) * (2127672349 : Int32))), .val (.int ((((x0 ^^^ ((x0.toUInt32 >>> ((16 : Int32) &&& 31).toUInt32).toInt32)) * (2127672349 : Int32)) ^^^ ((((x0 ^^^ ((x0.toUInt32 >>> ((16 : Int32) &&& 31).toUInt32).toInt32)) * (2127672349 : Int32)).toUInt32 >>> ((13 : Int32) &&& 31).toUInt32).toInt32)) ^^^ ((((x0 ^^^ ((x0.toUInt32 >>> ((16 : Int32) &&& 31).toUInt32).toInt32)) * (2127672349 : Int32)).toUInt32 >>> ((26 : Int32) &&& 31).toUInt32).toInt32))), .unset] [(.int ((((x0 ^^^ ((x0.toUInt32 >>> ((16 : Int32) &&& 31).toUInt32).toInt32)) * (2127672349 : Int32)) ^^^ ((((x0 ^^^ ((x0.toUInt32 >>> ((16 : Int32) &&& 31).toUInt32).toInt32)) * (2127672349 : Int32)).toUInt32 >>> ((13 : Int32) &&& 31).toUInt32).toInt32)) ^^^ ((((x0 ^^^ ((x0.toUInt32 >>> ((16 : Int32) &&& 31).toUInt32).toInt32)) * (2127672349 : Int32)).toUInt32 >>> ((26 : Int32) &&& 31).toUInt32).toInt32)))])) rfl (hb hby d2_25) _ ?_
    show Steps p.tables e below (s₁.setTop (mkF m 27 #[.val (.int x0), .val (.int (x0 ^^^ ((x0.toUInt32 >>> ((16 : Int32) &&& 31).toUInt32).toInt32))), .val (.int ((x0 ^^^ ((x0.toUInt32 >>> ((16 : Int32) &&& 31).toUInt32).toInt32)) * (2127672349 : Int32))), .val (.int ((((x0 ^^^ ((x0.toUInt32 >>> ((16 : Int32) &&& 31).toUInt32).toInt32)) * (2127672349 : Int32)) ^^^ ((((x0 ^^^ ((x0.toUInt32 >>> ((16 : Int32) &&& 31).toUInt32).toInt32)) * (2127672349 : Int32)).toUInt32 >>> ((13 : Int32) &&& 31).toUInt32).toInt32)) ^^^ ((((x0 ^^^ ((x0.toUInt32 >>> ((16 : Int32) &&& 31).toUInt32).toInt32)) * (2127672349 : Int32)).toUInt32 >>> ((26 : Int32) &&& 31).toUInt32).toInt32))), .unset] [(.int (-1513385405 : Int32)), (.int ((((x0 ^^^ ((x0.toUInt32 >>> ((16 : Int32) &&& 31).toUInt32).toInt32)) * (2127672349 : Int32)) ^^^ ((((x0 ^^^ ((x0.toUInt32 >>> ((16 : Int32) &&& 31).toUInt32).toInt32)) * (2127672349 : Int32)).toUInt32 >>> ((13 : Int32) &&& 31).toUInt32).toInt32)) ^^^ ((((x0 ^^^ ((x0.toUInt32 >>> ((16 : Int32) &&& 31).toUInt32).toInt32)) * (2127672349 : Int32)).toUInt32 >>> ((26 : Int32) &&& 31).toUInt32).toInt32)))])) _
    refine XS.imul X0.here hx rfl (hb hby d2_27) rfl ?_
    show Steps p.tables e below (s₁.setTop (mkF m 28 #[.val (.int x0), .val (.int (x0 ^^^ ((x0.toUInt32 >>> ((16 : Int32) &&& 31).toUInt32).toInt32))), .val (.int ((x0 ^^^ ((x0.toUInt32 >>> ((16 : Int32) &&& 31).toUInt32).toInt32)) * (2127672349 : Int32))), .val (.int ((((x0 ^^^ ((x0.toUInt32 >>> ((16 : Int32) &&& 31).toUInt32).toInt32)) * (2127672349 : Int32)) ^^^ ((((x0 ^^^ ((x0.toUInt32 >>> ((16 : Int32) &&& 31).toUInt32).toInt32)) * (2127672349 : Int32)).toUInt32 >>> ((13 : Int32) &&& 31).toUInt32).toInt32)) ^^^ ((((x0 ^^^ ((x0.toUInt32 >>> ((16 : Int32) &&& 31).toUInt32).toInt32)) * (2127672349 : Int32)).toUInt32 >>> ((26 : Int32) &&& 31).toUInt32).toInt32))), .unset] [(.int (((((x0 ^^^ ((x0.toUInt32 >>> ((16 : Int32) &&& 31).toUInt32).toInt32)) * (2127672349 : Int32)) ^^^ ((((x0 ^^^ ((x0.toUInt32 >>> ((16 : Int32) &&& 31).toUInt32).toInt32)) * (2127672349 : Int32)).toUInt32 >>> ((13 : Int32) &&& 31).toUInt32).toInt32)) ^^^ ((((x0 ^^^ ((x0.toUInt32 >>> ((16 : Int32) &&& 31).toUInt32).toInt32)) * (2127672349 : Int32)).toUInt32 >>> ((26 : Int32) &&& 31).toUInt32).toInt32)) * (-1513385405 : Int32)))])) _
    refine XS.istore X0.here hx rfl (hb hby d2_28) rfl (l' := #[.val (.int x0), .val (.int (x0 ^^^ ((x0.toUInt32 >>> ((16 : Int32) &&& 31).toUInt32).toInt32))), .val (.int ((x0 ^^^ ((x0.toUInt32 >>> ((16 : Int32) &&& 31).toUInt32).toInt32)) * (2127672349 : Int32))), .val (.int ((((x0 ^^^ ((x0.toUInt32 >>> ((16 : Int32) &&& 31).toUInt32).toInt32)) * (2127672349 : Int32)) ^^^ ((((x0 ^^^ ((x0.toUInt32 >>> ((16 : Int32) &&& 31).toUInt32).toInt32)) * (2127672349 : Int32)).toUInt32 >>> ((13 : Int32) &&& 31).toUInt32).toInt32)) ^^^ ((((x0 ^^^ ((x0.toUInt32 >>> ((16 : Int32) &&& 31).toUInt32).toInt32)) * (2127672349 : Int32)).toUInt32 >>> ((26 : Int32) &&& 31).toUInt32).toInt32))), .val (.int (((((x0 ^^^ ((x0.toUInt32 >>> ((16 : Int32) &&& 31).toUInt32).toInt32)) * (2127672349 : Int32)) ^^^ ((((x0 ^^^ ((x0.toUInt32 >>> ((16 : Int32) &&& 31).toUInt32).toInt32)) * (2127672349 : Int32)).toUInt32 >>> ((13 : Int32) &&& 31).toUInt32).toInt32)) ^^^ ((((x0 ^^^ ((x0.toUInt32 >>> ((16 : Int32) &&& 31).toUInt32).toInt32)) * (2127672349 : Int32)).toUInt32 >>> ((26 : Int32) &&& 31).toUInt32).toInt32)) * (-1513385405 : Int32)))]) rfl ?_
    show Steps p.tables e below (s₁.setTop (mkF m 30 #[.val (.int x0), .val (.int (x0 ^^^ ((x0.toUInt32 >>> ((16 : Int32) &&& 31).toUInt32).toInt32))), .val (.int ((x0 ^^^ ((x0.toUInt32 >>> ((16 : Int32) &&& 31).toUInt32).toInt32)) * (2127672349 : Int32))), .val (.int ((((x0 ^^^ ((x0.toUInt32 >>> ((16 : Int32) &&& 31).toUInt32).toInt32)) * (2127672349 : Int32)) ^^^ ((((x0 ^^^ ((x0.toUInt32 >>> ((16 : Int32) &&& 31).toUInt32).toInt32)) * (2127672349 : Int32)).toUInt32 >>> ((13 : Int32) &&& 31).toUInt32).toInt32)) ^^^ ((((x0 ^^^ ((x0.toUInt32 >>> ((16 : Int32) &&& 31).toUInt32).toInt32)) * (2127672349 : Int32)).toUInt32 >>> ((26 : Int32) &&& 31).toUInt32).toInt32))), .val (.int (((((x0 ^^^ ((x0.toUInt32 >>> ((16 : Int32) &&& 31).toUInt32).toInt32)) * (2127672349 : Int32)) ^^^ ((((x0 ^^^ ((x0.toUInt32 >>> ((16 : Int32) &&& 31).toUInt32).toInt32)) * (2127672349 : Int32)).toUInt32 >>> ((13 : Int32) &&& 31).toUInt32).toInt32)) ^^^ ((((x0 ^^^ ((x0.toUInt32 >>> ((16 : Int32) &&& 31).toUInt32).toInt32)) * (2127672349 : Int32)).toUInt32 >>> ((26 : Int32) &&& 31).toUInt32).toInt32)) * (-1513385405 : Int32)))] [])) _
    refine XS.iload X0.here hx rfl (hb hby d2_30) rfl ?_
    show Steps p.tables e below (s₁.setTop (mkF m 32 #[.val (.int x0), .val (.int (x0 ^^^ ((x0.toUInt32 >>> ((16 : Int32) &&& 31).toUInt32).toInt32))), .val (.int ((x0 ^^^ ((x0.toUInt32 >>> ((16 : Int32) &&& 31).toUInt32).toInt32)) * (2127672349 : Int32))), .val (.int ((((x0 ^^^ ((x0.toUInt32 >>> ((16 : Int32) &&& 31).toUInt32).toInt32)) * (2127672349 : Int32)) ^^^ ((((x0 ^^^ ((x0.toUInt32 >>> ((16 : Int32) &&& 31).toUInt32).toInt32)) * (2127672349 : Int32)).toUInt32 >>> ((13 : Int32) &&& 31).toUInt32).toInt32)) ^^^ ((((x0 ^^^ ((x0.toUInt32 >>> ((16 : Int32) &&& 31).toUInt32).toInt32)) * (2127672349 : Int32)).toUInt32 >>> ((26 : Int32) &&& 31).toUInt32).toInt32))), .val (.int (((((x0 ^^^ ((x0.toUInt32 >>> ((16 : Int32) &&& 31).toUInt32).toInt32)) * (2127672349 : Int32)) ^^^ ((((x0 ^^^ ((x0.toUInt32 >>> ((16 : Int32) &&& 31).toUInt32).toInt32)) * (2127672349 : Int32)).toUInt32 >>> ((13 : Int32) &&& 31).toUInt32).toInt32)) ^^^ ((((x0 ^^^ ((x0.toUInt32 >>> ((16 : Int32) &&& 31).toUInt32).toInt32)) * (2127672349 : Int32)).toUInt32 >>> ((26 : Int32) &&& 31).toUInt32).toInt32)) * (-1513385405 : Int32)))] [(.int (((((x0 ^^^ ((x0.toUInt32 >>> ((16 : Int32) &&& 31).toUInt32).toInt32)) * (2127672349 : Int32)) ^^^ ((((x0 ^^^ ((x0.toUInt32 >>> ((16 : Int32) &&& 31).toUInt32).toInt32)) * (2127672349 : Int32)).toUInt32 >>> ((13 : Int32) &&& 31).toUInt32).toInt32)) ^^^ ((((x0 ^^^ ((x0.toUInt32 >>> ((16 : Int32) &&& 31).toUInt32).toInt32)) * (2127672349 : Int32)).toUInt32 >>> ((26 : Int32) &&& 31).toUInt32).toInt32)) * (-1513385405 : Int32)))])) _
    refine XS.iload X0.here hx rfl (hb hby d2_32) rfl ?_
    show Steps p.tables e below (s₁.setTop (mkF m 34 #[.val (.int x0), .val (.int (x0 ^^^ ((x0.toUInt32 >>> ((16 : Int32) &&& 31).toUInt32).toInt32))), .val (.int ((x0 ^^^ ((x0.toUInt32 >>> ((16 : Int32) &&& 31).toUInt32).toInt32)) * (2127672349 : Int32))), .val (.int ((((x0 ^^^ ((x0.toUInt32 >>> ((16 : Int32) &&& 31).toUInt32).toInt32)) * (2127672349 : Int32)) ^^^ ((((x0 ^^^ ((x0.toUInt32 >>> ((16 : Int32) &&& 31).toUInt32).toInt32)) * (2127672349 : Int32)).toUInt32 >>> ((13 : Int32) &&& 31).toUInt32).toInt32)) ^^^ ((((x0 ^^^ ((x0.toUInt32 >>> ((16 : Int32) &&& 31).toUInt32).toInt32)) * (2127672349 : Int32)).toUInt32 >>> ((26 : Int32) &&& 31).toUInt32).toInt32))), .val (.int (((((x0 ^^^ ((x0.toUInt32 >>> ((16 : Int32) &&& 31).toUInt32).toInt32)) * (2127672349 : Int32)) ^^^ ((((x0 ^^^ ((x0.toUInt32 >>> ((16 : Int32) &&& 31).toUInt32).toInt32)) * (2127672349 : Int32)).toUInt32 >>> ((13 : Int32) &&& 31).toUInt32).toInt32)) ^^^ ((((x0 ^^^ ((x0.toUInt32 >>> ((16 : Int32) &&& 31).toUInt32).toInt32)) * (2127672349 : Int32)).toUInt32 >>> ((26 : Int32) &&& 31).toUInt32).toInt32)) * (-1513385405 : Int32)))] [(.int (((((x0 ^^^ ((x0.toUInt32 >>> ((16 : Int32) &&& 31).toUInt32).toInt32)) * (2127672349 : Int32)) ^^^ ((((x0 ^^^ ((x0.toUInt32 >>> ((16 : Int32) &&& 31).toUInt32).toInt32)) * (2127672349 : Int32)).toUInt32 >>> ((13 : Int32) &&& 31).toUInt32).toInt32)) ^^^ ((((x0 ^^^ ((x0.toUInt32 >>> ((16 : Int32) &&& 31).toUInt32).toInt32)) * (2127672349 : Int32)).toUInt32 >>> ((26 : Int32) &&& 31).toUInt32).toInt32)) * (-1513385405 : Int32))), (.int (((((x0 ^^^ ((x0.toUInt32 >>> ((16 : Int32) &&& 31).toUInt32).toInt32)) * (2127672349 : Int32)) ^^^ ((((x0 ^^^ ((x0.toUInt32 >>> ((16 : Int32) &&& 31).toUInt32).toInt32)) * (2127672349 : Int32)).toUInt32 >>> ((13 : Int32) &&& 31).toUInt32).toInt32)) ^^^ ((((x0 ^^^ ((x0.toUInt32 >>> ((16 : Int32) &&& 31).toUInt32).toInt32)) * (2127672349 : Int32)).toUInt32 >>> ((26 : Int32) &&& 31).toUInt32).toInt32)) * (-1513385405 : Int32)))])) _
    refine XS.bipush X0.here hx rfl (hb hby d2_34) ?_
    show Steps p.tables e below (s₁.setTop (mkF m 36 #[.val (.int x0), .val (.int (x0 ^^^ ((x0.toUInt32 >>> ((16 : Int32) &&& 31).toUInt32).toInt32))), .val (.int ((x0 ^^^ ((x0.toUInt32 >>> ((16 : Int32) &&& 31).toUInt32).toInt32)) * (2127672349 : Int32))), .val (.int ((((x0 ^^^ ((x0.toUInt32 >>> ((16 : Int32) &&& 31).toUInt32).toInt32)) * (2127672349 : Int32)) ^^^ ((((x0 ^^^ ((x0.toUInt32 >>> ((16 : Int32) &&& 31).toUInt32).toInt32)) * (2127672349 : Int32)).toUInt32 >>> ((13 : Int32) &&& 31).toUInt32).toInt32)) ^^^ ((((x0 ^^^ ((x0.toUInt32 >>> ((16 : Int32) &&& 31).toUInt32).toInt32)) * (2127672349 : Int32)).toUInt32 >>> ((26 : Int32) &&& 31).toUInt32).toInt32))), .val (.int (((((x0 ^^^ ((x0.toUInt32 >>> ((16 : Int32) &&& 31).toUInt32).toInt32)) * (2127672349 : Int32)) ^^^ ((((x0 ^^^ ((x0.toUInt32 >>> ((16 : Int32) &&& 31).toUInt32).toInt32)) * (2127672349 : Int32)).toUInt32 >>> ((13 : Int32) &&& 31).toUInt32).toInt32)) ^^^ ((((x0 ^^^ ((x0.toUInt32 >>> ((16 : Int32) &&& 31).toUInt32).toInt32)) * (2127672349 : Int32)).toUInt32 >>> ((26 : Int32) &&& 31).toUInt32).toInt32)) * (-1513385405 : Int32)))] [(.int (16 : Int32)), (.int (((((x0 ^^^ ((x0.toUInt32 >>> ((16 : Int32) &&& 31).toUInt32).toInt32)) * (2127672349 : Int32)) ^^^ ((((x0 ^^^ ((x0.toUInt32 >>> ((16 : Int32) &&& 31).toUInt32).toInt32)) * (2127672349 : Int32)).toUInt32 >>> ((13 : Int32) &&& 31).toUInt32).toInt32)) ^^^ ((((x0 ^^^ ((x0.toUInt32 >>> ((16 : Int32) &&& 31).toUInt32).toInt32)) * (2127672349 : Int32)).toUInt32 >>> ((26 : Int32) &&& 31).toUInt32).toInt32)) * (-1513385405 : Int32))), (.int (((((x0 ^^^ ((x0.toUInt32 >>> ((16 : Int32) &&& 31).toUInt32).toInt32)) * (2127672349 : Int32)) ^^^ ((((x0 ^^^ ((x0.toUInt32 >>> ((16 : Int32) &&& 31).toUInt32).toInt32)) * (2127672349 : Int32)).toUInt32 >>> ((13 : Int32) &&& 31).toUInt32).toInt32)) ^^^ ((((x0 ^^^ ((x0.toUInt32 >>> ((16 : Int32) &&& 31).toUInt32).toInt32)) * (2127672349 : Int32)).toUInt32 >>> ((26 : Int32) &&& 31).toUInt32).toInt32)) * (-1513385405 : Int32)))])) _
    refine XS.iushr X0.here hx rfl (hb hby d2_36) rfl ?_
    show Steps p.tables e below (s₁.setTop (mkF m 37 #[.val (.int x0), .val (.int (x0 ^^^ ((x0.toUInt32 >>> ((16 : Int32) &&& 31).toUInt32).toInt32))), .val (.int ((x0 ^^^ ((x0.toUInt32 >>> ((16 : Int32) &&& 31).toUInt32).toInt32)) * (2127672349 : Int32))), .val (.int ((((x0 ^^^ ((x0.toUInt32 >>> ((16 : Int32) &&& 31).toUInt32).toInt32)) * (2127672349 : Int32)) ^^^ ((((x0 ^^^ ((x0.toUInt32 >>> ((16 : Int32) &&& 31).toUInt32).toInt32)) * (2127672349 : Int32)).toUInt32 >>> ((13 : Int32) &&& 31).toUInt32).toInt32)) ^^^ ((((x0 ^^^ ((x0.toUInt32 >>> ((16 : Int32) &&& 31).toUInt32).toInt32)) * (2127672349 : Int32)).toUInt32 >>> ((26 : Int32) &&& 31).toUInt32).toInt32))), .val (.int (((((x0 ^^^ ((x0.toUInt32 >>> ((16 : Int32) &&& 31).toUInt32).toInt32)) * (2127672349 : Int32)) ^^^ ((((x0 ^^^ ((x0.toUInt32 >>> ((16 : Int32) &&& 31).toUInt32).toInt32)) * (2127672349 : Int32)).toUInt32 >>> ((13 : Int32) &&& 31).toUInt32).toInt32)) ^^^ ((((x0 ^^^ ((x0.toUInt32 >>> ((16 : Int32) &&& 31).toUInt32).toInt32)) * (2127672349 : Int32)).toUInt32 >>> ((26 : Int32) &&& 31).toUInt32).toInt32)) * (-1513385405 : Int32)))] [(.int (((((((x0 ^^^ ((x0.toUInt32 >>> ((16 : Int32) &&& 31).toUInt32).toInt32)) * (2127672349 : Int32)) ^^^ ((((x0 ^^^ ((x0.toUInt32 >>> ((16 : Int32) &&& 31).toUInt32).toInt32)) * (2127672349 : Int32)).toUInt32 >>> ((13 : Int32) &&& 31).toUInt32).toInt32)) ^^^ ((((x0 ^^^ ((x0.toUInt32 >>> ((16 : Int32) &&& 31).toUInt32).toInt32)) * (2127672349 : Int32)).toUInt32 >>> ((26 : Int32) &&& 31).toUInt32).toInt32)) * (-1513385405 : Int32)).toUInt32 >>> ((16 : Int32) &&& 31).toUInt32).toInt32)), (.int (((((x0 ^^^ ((x0.toUInt32 >>> ((16 : Int32) &&& 31).toUInt32).toInt32)) * (2127672349 : Int32)) ^^^ ((((x0 ^^^ ((x0.toUInt32 >>> ((16 : Int32) &&& 31).toUInt32).toInt32)) * (2127672349 : Int32)).toUInt32 >>> ((13 : Int32) &&& 31).toUInt32).toInt32)) ^^^ ((((x0 ^^^ ((x0.toUInt32 >>> ((16 : Int32) &&& 31).toUInt32).toInt32)) * (2127672349 : Int32)).toUInt32 >>> ((26 : Int32) &&& 31).toUInt32).toInt32)) * (-1513385405 : Int32)))])) _
    refine XS.ixor X0.here hx rfl (hb hby d2_37) rfl ?_
    show Steps p.tables e below (s₁.setTop (mkF m 38 #[.val (.int x0), .val (.int (x0 ^^^ ((x0.toUInt32 >>> ((16 : Int32) &&& 31).toUInt32).toInt32))), .val (.int ((x0 ^^^ ((x0.toUInt32 >>> ((16 : Int32) &&& 31).toUInt32).toInt32)) * (2127672349 : Int32))), .val (.int ((((x0 ^^^ ((x0.toUInt32 >>> ((16 : Int32) &&& 31).toUInt32).toInt32)) * (2127672349 : Int32)) ^^^ ((((x0 ^^^ ((x0.toUInt32 >>> ((16 : Int32) &&& 31).toUInt32).toInt32)) * (2127672349 : Int32)).toUInt32 >>> ((13 : Int32) &&& 31).toUInt32).toInt32)) ^^^ ((((x0 ^^^ ((x0.toUInt32 >>> ((16 : Int32) &&& 31).toUInt32).toInt32)) * (2127672349 : Int32)).toUInt32 >>> ((26 : Int32) &&& 31).toUInt32).toInt32))), .val (.int (((((x0 ^^^ ((x0.toUInt32 >>> ((16 : Int32) &&& 31).toUInt32).toInt32)) * (2127672349 : Int32)) ^^^ ((((x0 ^^^ ((x0.toUInt32 >>> ((16 : Int32) &&& 31).toUInt32).toInt32)) * (2127672349 : Int32)).toUInt32 >>> ((13 : Int32) &&& 31).toUInt32).toInt32)) ^^^ ((((x0 ^^^ ((x0.toUInt32 >>> ((16 : Int32) &&& 31).toUInt32).toInt32)) * (2127672349 : Int32)).toUInt32 >>> ((26 : Int32) &&& 31).toUInt32).toInt32)) * (-1513385405 : Int32)))] [(.int ((((((x0 ^^^ ((x0.toUInt32 >>> ((16 : Int32) &&& 31).toUInt32).toInt32)) * (2127672349 : Int32)) ^^^ ((((x0 ^^^ ((x0.toUInt32 >>> ((16 : Int32) &&& 31).toUInt32).toInt32)) * (2127672349 : Int32)).toUInt32 >>> ((13 : Int32) &&& 31).toUInt32).toInt32)) ^^^ ((((x0 ^^^ ((x0.toUInt32 >>> ((16 : Int32) &&& 31).toUInt32).toInt32)) * (2127672349 : Int32)).toUInt32 >>> ((26 : Int32) &&& 31).toUInt32).toInt32)) * (-1513385405 : Int32)) ^^^ (((((((x0 ^^^ ((x0.toUInt32 >>> ((16 : Int32) &&& 31).toUInt32).toInt32)) * (2127672349 : Int32)) ^^^ ((((x0 ^^^ ((x0.toUInt32 >>> ((16 : Int32) &&& 31).toUInt32).toInt32)) * (2127672349 : Int32)).toUInt32 >>> ((13 : Int32) &&& 31).toUInt32).toInt32)) ^^^ ((((x0 ^^^ ((x0.toUInt32 >>> ((16 : Int32) &&& 31).toUInt32).toInt32)) * (2127672349 : Int32)).toUInt32 >>> ((26 : Int32) &&& 31).toUInt32).toInt32)) * (-1513385405 : Int32)).toUInt32 >>> ((16 : Int32) &&& 31).toUInt32).toInt32)))])) _
    exact kt
  refine RunsTo.retI X0 hx Bd.returns Bd.notSynchronized (hb hby d2_38) ?_ (by decide) (by decide)
  rw [e0]
  exact ⟨rfl, N0, rfl⟩
theorem pd_0 : parseMethodDescriptor "(I)I" = some ⟨[.int], some .int⟩ := by decide +kernel
theorem ef_rm0 (m : MethodId) (x0 : Int32) : entryFrame m #[(.int x0)] maxLocals = mkF m 0 #[.val (.int x0)] [] := by first | (simp [entryFrame, mkF, argsToLocals, Value.category, maxLocals]; done) | rfl
def Q0 (Z : State) (x0 : Int32) (h0 : Heap) (n0 : Nat) (v : Option Value) (h : Heap) (L : List Loc) : Prop := v = some (.int 1) ∧ Fr n0 L
set_option maxRecDepth 65536 in
set_option maxHeartbeats 40000000 in
theorem rm0 (l : Launch) (Z : State) (a0 : Array Value) (hw : ∀ d ∈ tables_1, d.before a0 Z = true) (ws : List Jvm.Cond) (x0 : Int32) (h0 : Heap) (n0 : Nat) (Z0 : n0 ≤ h0.size)  :
    MetFree l x (head1 (Jvm.Cond.code x code maxLocals ret :: ws) room_1) (fun a U => a = #[(.int x0)] ∧ Z.Warmed39 U.vm ∧ U.heap = h0) (fun _ _ _ _ _ => True) (fun _ U o U' => ∃ v L, o = .returned v ∧ Q0 Z x0 h0 n0 v U'.heap L ∧ FrameEnd U o U' L room_1.cells room_1.slots) := by
  refine MetFree.of_bodySF (plainFor_of_name pn_1) hisR ?_
  intro p e s m args below meth c s₁ Bd hml0 hP hK
  obtain ⟨rfl, hZ, hh⟩ := hP
  have hx := Bd.exec
  have hby := Bd.bytes
  have hml : c.maxLocals = 1 := hml0
  have hown : s.vm.findClass "com/example/libxducer/libxducer/HashesMixedPinLaw" = some m.cls := findClass_of_methodNamed Bd.named
  have hnm := (name_of_methodNamed Bd.named Bd.method).1
  have X0 : Stand p l e room_1 s m #[(.int x0)] below meth c s₁ [] 0 0 := Stand.of_body Bd
  have e0 : s₁.heap = h0 := by rw [← hh, Bd.state]; rfl
  have N0 := Fr.nil n0
  refine RunsTo.start (ef_rm0 m x0) ?_
  show RunsTo p e below s s₁ (mkF m 0 #[.val (.int x0)] []) (Q0 Z x0 h0 n0) room_1.cells room_1.slots
  refine RunsTo.of (T' := s₁) (g' := (mkF m 1 #[.val (.int x0)] [(.int x0)])) (fun t kt => ?_) ?_
  · refine XS.iloadN X0.here hx rfl (hb hby at_0) rfl ?_
    show Steps p.tables e below (s₁.setTop (mkF m 1 #[.val (.int x0)] [(.int x0)])) _
    exact kt
  obtain ⟨_, _, ⟨T1, L1, k1, n1⟩, -, X1, ⟨Lc1, hQ1, l1, y1, z1⟩, st1⟩ := Jvm.LawKit.callS X0 hx (y := (⟨"com/example/libxducer/libxducer/Hashes", "mixed", "(I)I"⟩ : MethodName)) hown (mvT hZ (hw _ (List.mem_of_getElem? (i := 0) rfl))) (mvT hZ (hw _ (List.mem_of_getElem? (i := 1) rfl))) (mvT hZ (hw _ (List.mem_of_getElem? (i := 2) rfl))) (mvT hZ (hw _ (List.mem_of_getElem? (i := 3) rfl))) (by decide) (backOf (W := 0) (rm1 l Z a0 hw [] x0 h0 n0 Z0 ) hZ (hw _ (List.mem_of_getElem? (i := 3) rfl)) (hw _ (List.mem_of_getElem? (i := 2) rfl)) (by decide) (by decide)) (g := (mkF m 1 #[.val (.int x0)] [(.int x0)])) rfl (by rw [hml]; rfl) (argsL := [(.int x0)]) (rest := []) (lenOf pd_0 rfl) rfl (by show 2 * 0 + _ ≤ _; exact Nat.le_of_eq rfl) (hb hby at_1) (fun _ _ => ⟨rfl, e0, (by decide : 0 + 0 ≤ _), (by decide : 0 + 0 ≤ _)⟩)
  dsimp only [Pt.U, Pt.locs, Pt.cells, Pt.slots] at X1 l1 y1 z1 st1 hQ1
  subst l1 y1 z1
  obtain ⟨rfl, N1q, e1⟩ := hQ1
  have N1 := Fr.app N0 N1q
  refine RunsTo.of (T' := T1) (g' := (mkF m 4 #[.val (.int x0)] [(.int (own_mix x0))])) st1 ?_
  obtain ⟨_, _, ⟨T2, L2, k2, n2⟩, -, X2, ⟨Lc2, hQ2, l2, y2, z2⟩, st2⟩ := Jvm.LawKit.callS X1 hx (y := (⟨"com/example/libxducer/libxducer/HashesMixedPinLaw", "unmixed", "(I)I"⟩ : MethodName)) hown (mvT hZ (hw _ (List.mem_of_getElem? (i := 6) rfl))) (mvT hZ (hw _ (List.mem_of_getElem? (i := 7) rfl))) (mvT hZ (hw _ (List.mem_of_getElem? (i := 8) rfl))) (mvT hZ (hw _ (List.mem_of_getElem? (i := 9) rfl))) (by decide) (backOf (W := 0) (rm2 l Z a0 hw [] (own_mix x0) h0 n0 Z0 ) hZ (hw _ (List.mem_of_getElem? (i := 9) rfl)) (hw _ (List.mem_of_getElem? (i := 8) rfl)) (by decide) (by decide)) (g := (mkF m 4 #[.val (.int x0)] [(.int (own_mix x0))])) rfl (by rw [hml]; rfl) (argsL := [(.int (own_mix x0))]) (rest := []) (lenOf pd_0 rfl) rfl (by show 2 * 0 + _ ≤ _; exact Nat.le_of_eq rfl) (hb hby at_4) (fun _ _ => ⟨rfl, e1, (by decide : 0 + 0 ≤ _), (by decide : 0 + 0 ≤ _)⟩)
  dsimp only [Pt.U, Pt.locs, Pt.cells, Pt.slots] at X2 l2 y2 z2 st2 hQ2
  subst l2 y2 z2
  obtain ⟨rfl, N2q, e2⟩ := hQ2
  have N2 := Fr.app N1 N2q
  refine RunsTo.of (T' := T2) (g' := (mkF m 7 #[.val (.int x0)] [(.int (own_unmix (own_mix x0)))])) st2 ?_
  refine RunsTo.of (T' := T2) (g' := (mkF m 16 #[.val (.int x0)] [(.int (1 : Int32))])) (fun t kt => ?_) ?_
  · refine XS.iloadN X2.here hx rfl (hb hby at_7) rfl ?_
    show Steps p.tables e below (T2.setTop (mkF m 8 #[.val (.int x0)] [(.int x0), (.int (own_unmix (own_mix x0)))])) _
    refine XS.icmpNo X2.here hx rfl (hb hby at_8) rfl (teq (own_law x0)).2 ?_
    show Steps p.tables e below (T2.setTop (mkF m 11 #[.val (.int x0)] [])) _
    refine XS.iconst X2.here hx rfl (hb hby at_11) ?_
    show Steps p.tables e below (T2.setTop (mkF m 12 #[.val (.int x0)] [(.int (1 : Int32))])) _
    refine XS.goto X2.here hx rfl (pc0 := 12) (pc' := 16) rfl (hb hby at_12) (by decide) (by decide) ?_
    show Steps p.tables e below (T2.setTop (mkF m 16 #[.val (.int x0)] [(.int (1 : Int32))])) _
    exact kt
  refine RunsTo.retN X2 hx (t := .boolean) Bd.returns (by simp) Bd.notSynchronized (hb hby at_16) ?_ (by decide) (by decide)
  rw [e2]
  exact ⟨rfl, N2⟩
set_option maxRecDepth 65536 in
set_option maxHeartbeats 40000000 in
theorem comes_1 {Post : Tables → Env → Array Value → State → Outcome → State → Prop} (hpost : ∀ tb e args s v u, (limb_1_1.after args s (.returned v) u = true ∧ limb_1_2.after args s (.returned v) u = true ∧ True) → FrameEnd s (.returned v) u (Jvm.fieldLocs frame_1_writes args s ++ Jvm.arrayLocs frame_1_arrays args s ++ Jvm.staticLocs frame_1_statics s) 0 0 → Post tb e args s (.returned v) u) :
    ArmFor flags0 classFile x code maxLocals ret World_1 tables_1 room_1 Calls_1 rest_1 Pre_1 Post := by
  intro l hfl _ _ p e ha hc hk s m args below hf hA hF happ hP
  obtain ⟨hcalls, hrest, hpre⟩ := hP
  obtain ⟨-, -, -, hnamed, -, -, -, hat⟩ := (Spec.applies_iff hf).mp happ
  obtain ⟨hg, hn⟩ := and_e (Cond.before_iff.mp (show (Jvm.Cond.and given_1 narrow_1).before args s = true from hpre))
  obtain ⟨hcnt, hg0⟩ := and_e hg
  have ha0 := hg0
  obtain ⟨w0, rfl⟩ : ∃ w0 : Value, args = #[w0] := by
    have hs : args.size = 1 := by simpa [Cond.value, given_1] using hcnt
    obtain ⟨L⟩ := args
    match L, hs with
    | [w0], _ => exact ⟨w0, rfl⟩
  have hw := fun d (hd : d ∈ tables_1) => atoms_spec (ws := Jvm.Cond.code x code maxLocals ret :: tables_1) hat d (List.mem_cons_of_mem _ hd)
  have hfit : Fit s := fun {y c} hc i hi => by
    obtain ⟨ha, rfl⟩ := Array.getElem?_eq_some_iff.mp hc
    have q := List.all_eq_true.mp ((Array.all_eq_true_iff_forall_mem.mp hF) _ (Array.getElem_mem ha)) i (List.mem_range.mpr hi)
    simpa [Array.getElem?_eq_getElem hi] using q
  obtain ⟨i0, ei0⟩ := is_v ha0
  obtain rfl : w0 = (.int i0) := Option.some.inj ei0
  obtain ⟨n, o, h1, h2, h3, _, L, rfl, ⟨rfl, N⟩, hq⟩ := rm0 l s _ hw tables_1 i0 s.heap s.heap.size (Nat.le_refl _)  p e ha hc hk s m _ below hf ((Spec.applies_iff_loose hf).mp happ).1 ⟨rfl, State.Warmed39.refl s, rfl⟩ trivial
  refine ⟨n, _, h1, h2, h3, hpost _ _ _ _ _ _ ⟨Cond.after_iff.mpr rfl, Cond.after_iff.mpr (eq_i res_at (Term.int_eval (1)) rfl), trivial⟩ ⟨hq.1, hq.2.1, (hq.2.2.sift fun y hy => Or.inr (N y hy)).mono (by decide) (by decide)⟩⟩
theorem main_1_1 : Claimed_1_1 := comes_1 fun _ _ _ _ _ _ h hF => ⟨h.1, hF⟩
theorem main_1_2 : Claimed_1_2 := comes_1 fun _ _ _ _ _ _ h hF => ⟨h.2.1, hF⟩
end Jvm.Pilot.@@N@@
namespace Jvm.Pilot.@@N@@
open Jvm Jvm.ClassFile Sem Op Lib Jvm.Free Jvm.Stand Jvm.Pilot.@@N@@.Jvm.D
/-! MADE BY PROGRAM (witnessworld.py) out of the Statement's table words and the real class files: 9 classes; the members and pool entries that the words name. The judged class is class 1, her method 2. -/
namespace start1
open Jvm.ClassFile
def u (s : String) : CpInfo := .utf8 (stringToUtf16 s)
/-- a pool by its gaps: so many unusable entries, then the entry; so many at the end -/
def gap : Nat → List CpInfo → List CpInfo
  | 0, r => r
  | n + 1, r => .unusable :: gap n r
def poolList (es : List (Nat × CpInfo)) (last : Nat) : List CpInfo := es.foldr (fun e r => gap e.1 (e.2 :: r)) (gap last [])
def pool (es : List (Nat × CpInfo)) (last : Nat) : Array CpInfo := ⟨poolList es last⟩
def fileOf (pool : Array CpInfo) (this : Nat) (attrs : Array Attribute := #[]) (ms : Array MethodInfo := #[]) (fl : Nat := 33) (sup : Nat := 0) (ifs : Array Nat := #[]) (fds : Array FieldInfo := #[]) : ClassFile where
  minorVersion := 0
  majorVersion := 65
  constantPool := pool
  accessFlags := fl
  thisClass := this
  superClass := sup
  interfaces := ifs
  fields := fds
  methods := ms
  attributes := attrs
def plain (name : String) (sup : Option ClassId) : Class where
  name := name
  kind := .ordinary
  loader := none
  accessFlags := 33
  super := sup
  interfaces := #[]
  cf := none
  fields := #[]
  methods := #[]
  instanceTypes := #[]
  staticTypes := #[]
  resolved := #[]
  callSites := []
  init := .initialized
  statics := none
  mirror := none

def pool0 : Array CpInfo := pool [(5, u "<init>"), (0, u "()V"), (1, .class_ 10), (1, u "java/lang/Object")] 113

def k0m0 : Method := { name := "<init>", desc := "()V", sig := { parameters := [], returnType := none }, accessFlags := 1, code := none }
/-- java/lang/Object -/
def k0 : Class := { plain "java/lang/Object" none with
  accessFlags := 33
  interfaces := #[]
  cf := some (fileOf pool0 8 #[] #[{ accessFlags := 1, nameIndex := 5, descriptorIndex := 6, attributes := #[] }] 33 0 #[] #[])
  fields := #[]
  methods := #[k0m0]
  instanceTypes := #[]
  staticTypes := #[]
  resolved := Array.replicate 124 none
  statics := none }

def pool1 : Array CpInfo := pool [(2, .class_ 4), (1, u "java/lang/Object"), (0, u "<init>"), (0, u "()V"), (0, .integer 2127672349), (0, .integer 2781581891), (0, .methodref 10 11), (0, .class_ 12), (0, .nameAndType 13 14), (0, u "com/example/libxducer/libxducer/Hashes"), (0, u "mixed"), (0, u "(I)I"), (0, .methodref 16 17), (0, .class_ 18), (0, .nameAndType 19 14), (0, u "com/example/libxducer/libxducer/HashesMixedPinLaw"), (0, u "unmixed"), (2, u "law"), (0, u "(I)Z")] 3

def k1m0 : Method := { name := "<init>", desc := "()V", sig := { parameters := [], returnType := none }, accessFlags := 2, code := none }
def k1c1 : Code := { maxStack := 3, maxLocals := 5, code := method_2_code, exceptionTable := #[], attributes := #[] }
def k1m1 : Method := { name := "unmixed", desc := "(I)I", sig := { parameters := [.int], returnType := some .int }, accessFlags := 10, code := some k1c1 }
def k1c2 : Code := { maxStack := 2, maxLocals := 1, code := code, exceptionTable := #[], attributes := #[] }
def k1m2 : Method := { name := "law", desc := "(I)Z", sig := { parameters := [.int], returnType := some .boolean }, accessFlags := 9, code := some k1c2 }
/-- com/example/libxducer/libxducer/HashesMixedPinLaw -/
def k1 : Class := { plain "com/example/libxducer/libxducer/HashesMixedPinLaw" (some 0) with
  accessFlags := 49
  interfaces := #[]
  cf := some (fileOf pool1 16 #[] #[{ accessFlags := 2, nameIndex := 5, descriptorIndex := 6, attributes := #[] }, { accessFlags := 10, nameIndex := 19, descriptorIndex := 14, attributes := #[] }, { accessFlags := 9, nameIndex := 22, descriptorIndex := 23, attributes := #[] }] 49 2 #[] #[])
  fields := #[]
  methods := #[k1m0, k1m1, k1m2]
  instanceTypes := #[]
  staticTypes := #[]
  resolved := Array.replicate 27 none
  statics := none }

def pool2 : Array CpInfo := pool [(2, .class_ 4), (1, u "java/lang/Object"), (0, u "<init>"), (0, u "()V"), (0, .integer 2246822507), (0, .integer 3266489909), (0, .class_ 10), (0, u "com/example/libxducer/libxducer/Hashes"), (2, u "mixed"), (0, u "(I)I")] 2

def k2m0 : Method := { name := "<init>", desc := "()V", sig := { parameters := [], returnType := none }, accessFlags := 2, code := none }
def k2c1 : Code := { maxStack := 3, maxLocals := 2, code := prog_29_method_2_code, exceptionTable := #[], attributes := #[] }
def k2m1 : Method := { name := "mixed", desc := "(I)I", sig := { parameters := [.int], returnType := some .int }, accessFlags := 8, code := some k2c1 }
/-- com/example/libxducer/libxducer/Hashes -/
def k2 : Class := { plain "com/example/libxducer/libxducer/Hashes" (some 0) with
  accessFlags := 48
  interfaces := #[]
  cf := some (fileOf pool2 9 #[] #[{ accessFlags := 2, nameIndex := 5, descriptorIndex := 6, attributes := #[] }, { accessFlags := 8, nameIndex := 13, descriptorIndex := 14, attributes := #[] }] 48 2 #[] #[])
  fields := #[]
  methods := #[k2m0, k2m1]
  instanceTypes := #[]
  staticTypes := #[]
  resolved := Array.replicate 17 none
  statics := none }

def pool3 : Array CpInfo := pool [(1, u "java/lang/Cloneable"), (0, .class_ 1), (0, u "java/lang/Object"), (0, .class_ 3)] 3

/-- java/lang/Cloneable -/
def k3 : Class := { plain "java/lang/Cloneable" (some 0) with
  accessFlags := 1537
  interfaces := #[]
  cf := some (fileOf pool3 2 #[] #[] 1537 4 #[] #[])
  fields := #[]
  methods := #[]
  instanceTypes := #[]
  staticTypes := #[]
  resolved := Array.replicate 8 none
  statics := none }

def pool4 : Array CpInfo := pool [(1, u "java/io/Serializable"), (0, .class_ 1), (0, u "java/lang/Object"), (0, .class_ 3)] 3

/-- java/io/Serializable -/
def k4 : Class := { plain "java/io/Serializable" (some 0) with
  accessFlags := 1537
  interfaces := #[]
  cf := some (fileOf pool4 2 #[] #[] 1537 4 #[] #[])
  fields := #[]
  methods := #[]
  instanceTypes := #[]
  staticTypes := #[]
  resolved := Array.replicate 8 none
  statics := none }

/-- the primitive byte -/
def k5 : Class := { plain "byte" none with kind := .primitive 'B', accessFlags := 0x411 }
/-- [B -/
def k6 : Class := { plain "[B" (some 0) with kind := .array 5 .byte, interfaces := #[3, 4], accessFlags := 1041 }

/-- the primitive int -/
def k7 : Class := { plain "int" none with kind := .primitive 'I', accessFlags := 0x411 }
/-- [I -/
def k8 : Class := { plain "[I" (some 0) with kind := .array 7 .int, interfaces := #[3, 4], accessFlags := 1041 }

def heap : Heap := #[]
def classes : Array Class := #[k0, k1, k2, k3, k4, k5, k6, k7, k8]
def interned : List (Array UInt16 × Addr) := []
def slotsUsed : Nat := 0
def theMethod : MethodId := ⟨1, 2⟩
def args0 : Array Value := #[.int 7]
def aboutOver (below : List Frame) : State where
  vm := { classes := classes, interned := interned.toArray }
  heap := heap
  slotsUsed := slotsUsed
  threads := #[{ frames := .invoking theMethod args0 :: below }]
def below0 : List Frame := [.native { method := ⟨0, 0⟩, args := #[] }]
def about1 : State := aboutOver below0
def p0 : Program := .bare "" "" ""
def e0 : Env := launch0.env 0 0 0
theorem w_frames : about1.frames = Frame.invoking theMethod args0 :: below0 := rfl
set_option maxRecDepth 65536 in
theorem w_args : argsFit about1.vm theMethod args0 = true := by decide +kernel
set_option maxRecDepth 65536 in
theorem w_heap : heapFits about1 = true := by decide +kernel
set_option maxRecDepth 65536 in
theorem w_runnable : about1.curStatus? = some .runnable := by decide +kernel
set_option maxRecDepth 65536 in
theorem w_alone : about1.alone = true := by decide +kernel
set_option maxRecDepth 65536 in
theorem w_named : about1.methodNamed? x = some theMethod := by decide +kernel
set_option maxRecDepth 65536 in
theorem w_hears : about1.hears theMethod below0 = true := by decide +kernel
set_option maxRecDepth 65536 in
theorem w_ripe : about1.ripe theMethod args0 below0 = true := by decide +kernel
theorem w_running : about1.status = .running := rfl
set_option maxRecDepth 65536 in
theorem w_room : about1.hasRoom e0.platform room_1 = true :=
  launch0.hasRoom_least _ room_1 (by decide +kernel) (by decide +kernel) (by decide +kernel) (by decide +kernel) (by decide +kernel) (by decide +kernel)
theorem allAtoms_all (ts : List Jvm.Cond) (a : Array Jvm.Value) (st : Jvm.State) : (allAtoms ts).before a st = ts.all (fun c => c.before a st) := by
  induction ts with
  | nil => rfl
  | cons c t ih =>
    show (Jvm.Cond.and c (allAtoms t)).before a st = _
    rw [Jvm.Cond.before_and, ih, List.all_cons]
def words1 : List Jvm.Cond := Jvm.Cond.code x code maxLocals ret :: tables_1
/-- a 'code' word, met by the world's own term for the bytes: nothing is compared byte by byte -/
theorem code_word {y : MethodName} {bytes : ByteArray} {mx : Nat} {rt : Option FieldType} {a : Array Value} {s : State} {m : MethodId} {meth : Method} {c : Code} (h1 : s.methodNamed? y = some m) (h2 : s.vm.method? m = some meth) (h3 : meth.code = some c) (h4 : c.code = bytes)
    (h5 : (c.maxLocals == mx && c.exceptionTable.isEmpty && decide (c.maxStack ≤ mostOperands) && decide (meth.sig.returnType = rt) && !meth.locks && decide (parseMethodDescriptor y.desc = some meth.sig)) = true) : (Jvm.Cond.code y bytes mx rt).before a s = true := by
  simp only [Bool.and_eq_true, beq_iff_eq, Bool.not_eq_true', decide_eq_true_eq] at h5
  obtain ⟨⟨⟨⟨⟨g1, g2⟩, g3⟩, g4⟩, g5⟩, g6⟩ := h5
  simp [Cond.before, Cond.holds, Cond.value, h1, h2, h3, h4, g1, g2, g3, g4, g5, g6]
def isCode : Jvm.Cond → Bool
  | .code _ _ _ _ => true
  | _ => false
theorem all_split {L : List Jvm.Cond} {P : Jvm.Cond → Bool} (h1 : L.all (fun c => isCode c || P c) = true) (h2 : ∀ c ∈ L.filter isCode, P c = true) : L.all P = true := by
  refine List.all_eq_true.mpr fun c hc => ?_
  have h := List.all_eq_true.mp h1 c hc
  rcases Bool.eq_false_or_eq_true (isCode c) with hi | hi
  · exact h2 c (List.mem_filter.mpr ⟨hc, hi⟩)
  · simpa [hi] using h
set_option maxRecDepth 65536 in
theorem w_c0 : (Jvm.Cond.code x code maxLocals ret).before args0 about1 = true := code_word (m := ⟨1, 2⟩) (meth := k1m2) (c := k1c2) (by decide +kernel) rfl rfl rfl (by decide +kernel)
set_option maxRecDepth 65536 in
theorem w_c1 : (Jvm.Cond.code ({ cls := "com/example/libxducer/libxducer/Hashes", name := "mixed", desc := "(I)I" } : Jvm.MethodName) prog_29_method_2_code (2 : Nat) (Option.some Jvm.ClassFile.FieldType.int)).before args0 about1 = true := code_word (m := ⟨2, 1⟩) (meth := k2m1) (c := k2c1) (by decide +kernel) rfl rfl rfl (by decide +kernel)
set_option maxRecDepth 65536 in
theorem w_c2 : (Jvm.Cond.code ({ cls := "com/example/libxducer/libxducer/HashesMixedPinLaw", name := "unmixed", desc := "(I)I" } : Jvm.MethodName) method_2_code (5 : Nat) (Option.some Jvm.ClassFile.FieldType.int)).before args0 about1 = true := code_word (m := ⟨1, 1⟩) (meth := k1m1) (c := k1c1) (by decide +kernel) rfl rfl rfl (by decide +kernel)
def codes1 : List Jvm.Cond := [Jvm.Cond.code x code maxLocals ret, Jvm.Cond.code ({ cls := "com/example/libxducer/libxducer/Hashes", name := "mixed", desc := "(I)I" } : Jvm.MethodName) prog_29_method_2_code (2 : Nat) (Option.some Jvm.ClassFile.FieldType.int), Jvm.Cond.code ({ cls := "com/example/libxducer/libxducer/HashesMixedPinLaw", name := "unmixed", desc := "(I)I" } : Jvm.MethodName) method_2_code (5 : Nat) (Option.some Jvm.ClassFile.FieldType.int)]
set_option maxRecDepth 65536 in
theorem codes_eq : words1.filter isCode = codes1 := rfl
theorem w_codes : ∀ c ∈ words1.filter isCode, c.before args0 about1 = true := by
  rw [codes_eq]
  intro c hc
  simp only [codes1, List.mem_cons, List.not_mem_nil, or_false] at hc
  rcases hc with rfl | rfl | rfl
  · exact w_c0
  · exact w_c1
  · exact w_c2
set_option maxRecDepth 65536 in
theorem w_t1 : words1.all (fun c => isCode c || c.before args0 about1) = true := by decide +kernel
theorem w_tables : (allAtoms (Jvm.Cond.code x code maxLocals ret :: tables_1)).before args0 about1 = true := by
  rw [allAtoms_all]
  show words1.all (fun c => c.before args0 about1) = true
  refine all_split ?_ w_codes
  rw [w_t1]
set_option maxRecDepth 65536 in
theorem w_case : (Jvm.Cond.and given_1 narrow_1).before args0 about1 = true := by decide +kernel
theorem w_applies : (headSpec (Jvm.Cond.code x code maxLocals ret :: tables_1) room_1).applies x e0.platform about1 = true :=
  (Spec.applies_iff w_frames).mpr ⟨w_running, w_runnable, w_alone, w_named, w_hears, w_ripe, w_room, w_tables⟩
theorem atStart : AtStart classFile x code maxLocals ret World_1 tables_1 room_1 Calls_1 rest_1 Pre_1 launch0 p0 e0 about1 theMethod args0 below0 :=
  ⟨lists_1, trivial, launch0.admits_env _ _ _, launch0.least_env, fairChoices_fair.cas, fairChoices_fair.clock, w_frames, w_args, w_heap, w_applies, trivial, trivial, w_case⟩
end start1
theorem witness_1 : WitnessClaimed_1 := ⟨start1.p0, start1.e0, start1.about1, start1.theMethod, start1.args0, start1.below0, start1.atStart⟩
end Jvm.Pilot.@@N@@
