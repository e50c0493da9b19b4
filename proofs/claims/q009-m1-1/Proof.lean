import JvmDerived
import JvmDerived.Pilot.@@N@@Statement
import JvmDerived.Pilot.@@N@@Code
set_option linter.unusedVariables false
set_option linter.unusedSimpArgs false
namespace Jvm.RoadKit
open Sem ClassFile Op Lib Jvm.Stand Jvm.Free Jvm.LawKit
section OwnEnds
variable {p : Program} {l : Launch} {e : Env} {R : Room} {s : State} {m : MethodId} {args : Array Value} {below : List Frame} {meth : Method} {c : Code} {T T' : State} {locs : List Loc} {cells slots : Nat} {g g' : JFrame} {Q : Option Value → Heap → List Loc → Prop} {C N : Nat}
/-- from here (the state T, the frame g on top) the run ends, and what it leaves is Q -/
def RunsTo (p : Program) (e : Env) (below : List Frame) (s T : State) (g : JFrame) (Q : Option Value → Heap → List Loc → Prop) (C N : Nat) : Prop :=
  ∃ U o, Steps p.tables e below (T.setTop g) U ∧ U.status = .running ∧ Ended U below o ∧ ∃ v L, o = .returned v ∧ Q v U.heap L ∧ FrameEnd s o U L C N
theorem RunsTo.of (k : ∀ t, Steps p.tables e below (T'.setTop g') t → Steps p.tables e below (T.setTop g) t) (h : RunsTo p e below s T' g' Q C N) : RunsTo p e below s T g Q C N := by
  obtain ⟨U, o, k1, r⟩ := h
  exact ⟨U, o, k U k1, r⟩
theorem RunsTo.start (q : g = g') (h : RunsTo p e below s T g' Q C N) : ∃ U o, Steps p.tables e below (T.setTop g) U ∧ U.status = .running ∧ Ended U below o ∧ ∃ v L, o = .returned v ∧ Q v U.heap L ∧ FrameEnd s o U L C N := by
  subst q; exact h
theorem RunsTo.leave (X : Stand p l e R s m args below meth c T locs cells slots) {v : Option Value} (hv : meth.sig.returnType = none → v = none) (hlocks : meth.locks = false) (hq : Q v T.heap locs) (hC : cells ≤ C) (hN : slots ≤ N)
    (k : ∀ fs, (∀ (f : JFrame) (acts : List Action), f.method = m → f.locked = none → f.entered = [] → (doReturn e (T.setTop f) acts v).1 = T.setFrames fs) → Steps p.tables e below (T.setTop g) (T.setFrames fs)) : RunsTo p e below s T g Q C N := by
  obtain ⟨fs, hr, hrun, hended, hW, hsame⟩ := X.leave (v := v) hv hlocks
  exact ⟨_, _, k fs hr, hrun, hended, v, _, rfl, hq, ⟨_, rfl⟩, hW, hsame.mono hC hN⟩
theorem RunsTo.retI (X : Stand p l e R s m args below meth c T locs cells slots) (hx : p.tables.exec = Jvm.exec) {pc : Nat} {Ls : Array Slot} {z : Int32} {rest : List Value} (hret : meth.sig.returnType = some .int) (hlocks : meth.locks = false) (hd : decode c.code pc = .ok (.ireturn, 1)) (hq : Q (some (.int z)) T.heap locs) (hC : cells ≤ C) (hN : slots ≤ N) :
    RunsTo p e below s T (mkF m pc Ls (.int z :: rest)) Q C N := by
  refine RunsTo.leave X (fun h => by rw [hret] at h; cases h) hlocks hq hC hN fun fs hl => ?_
  have hm' : T.vm.method? m = some meth := X.method'
  have hn : narrow .int (.int z) = .int z := rfl
  show Steps p.tables e below (T.setTop { method := m, pc := pc, locals := Ls, stack := _ :: rest, locked := none }) _
  jvm_step X.here [X.here.top, hx, hd, hm', hret, hn]
  first | (intro acts; rw [hl _ acts rfl rfl rfl]) | rw [hl _ _ rfl rfl rfl]
  exact Steps.refl _
theorem RunsTo.retJ (X : Stand p l e R s m args below meth c T locs cells slots) (hx : p.tables.exec = Jvm.exec) {pc : Nat} {Ls : Array Slot} {z : Int64} {rest : List Value} (hret : meth.sig.returnType = some .long) (hlocks : meth.locks = false) (hd : decode c.code pc = .ok (.lreturn, 1)) (hq : Q (some (.long z)) T.heap locs) (hC : cells ≤ C) (hN : slots ≤ N) :
    RunsTo p e below s T (mkF m pc Ls (.long z :: rest)) Q C N := by
  refine RunsTo.leave X (fun h => by rw [hret] at h; cases h) hlocks hq hC hN fun fs hl => ?_
  have hm' : T.vm.method? m = some meth := X.method'
  show Steps p.tables e below (T.setTop { method := m, pc := pc, locals := Ls, stack := _ :: rest, locked := none }) _
  jvm_step X.here [X.here.top, hx, hd, hm', hret, narrow]
  first | (intro acts; rw [hl _ acts rfl rfl rfl]) | rw [hl _ _ rfl rfl rfl]
  exact Steps.refl _
theorem RunsTo.retA (X : Stand p l e R s m args below meth c T locs cells slots) (hx : p.tables.exec = Jvm.exec) {pc : Nat} {Ls : Array Slot} {z : Value} {ty : FieldType} (hret : meth.sig.returnType = some ty) (hty : ty.isReference = true) (hz : z.isRef = true) (hlocks : meth.locks = false) (hd : decode c.code pc = .ok (.areturn, 1)) (hq : Q (some z) T.heap locs) (hC : cells ≤ C) (hN : slots ≤ N) :
    RunsTo p e below s T (mkF m pc Ls [z]) Q C N :=
  RunsTo.leave X (fun h => by rw [hret] at h; cases h) hlocks hq hC hN fun fs hl => X.areturnOut hx hz hret hty hd hl
theorem RunsTo.retN (X : Stand p l e R s m args below meth c T locs cells slots) (hx : p.tables.exec = Jvm.exec) {pc : Nat} {Ls : Array Slot} {z : Int32} {t : FieldType} {rest : List Value} (hret : meth.sig.returnType = some t) (ht : t = .boolean ∨ t = .byte ∨ t = .char ∨ t = .short) (hlocks : meth.locks = false) (hd : decode c.code pc = .ok (.ireturn, 1)) (hq : Q (some (.int (nar t z))) T.heap locs) (hC : cells ≤ C) (hN : slots ≤ N) :
    RunsTo p e below s T (mkF m pc Ls (.int z :: rest)) Q C N :=
  RunsTo.leave X (fun h => by rw [hret] at h; cases h) hlocks hq hC hN fun fs hl => Jvm.RoadKit.retN X hx hret ht hd hl
theorem RunsTo.retV (X : Stand p l e R s m args below meth c T locs cells slots) (hx : p.tables.exec = Jvm.exec) {pc : Nat} {Ls : Array Slot} (hret : meth.sig.returnType = none) (hlocks : meth.locks = false) (hd : decode c.code pc = .ok (.return_, 1)) (hq : Q none T.heap locs) (hC : cells ≤ C) (hN : slots ≤ N) :
    RunsTo p e below s T (mkF m pc Ls []) Q C N :=
  RunsTo.leave X (fun _ => rfl) hlocks hq hC hN fun fs hl => X.returnOut hx hret hd hl
end OwnEnds
theorem nar_ref (ty : FieldType) {v : Value} (hv : v.isRef = true) : narrow ty v = v := by rcases ref_cases hv with rfl | ⟨a, rfl⟩ <;> cases ty <;> rfl
theorem fits_ref' {ty : FieldType} {v : Value} (h : ty.isReference = true) (hv : v.isRef = true) : fits ty v = true := by rcases ref_cases hv with rfl | ⟨a, rfl⟩ <;> cases ty <;> simp_all [fits, FieldType.isReference]
section OwnArf
variable {Z : State} {h h' : Heap} {a b : Addr} {c : Cell} {k : ClassId} {ty : FieldType} {z j : Int32} {f f' : Nat → Value} {v : Value} {sl : Nat} {ws : List Addr}
/-- an array: its kind, its length z, and what each place holds -/
def Arf (Z : State) (h : Heap) (a : Addr) (ty : FieldType) (z : Int32) (f : Nat → Value) : Prop := ∃ c : Cell, Arr Z h a c ty ∧ c.slots.size = z.toNatClampNeg ∧ ¬ z < 0 ∧ ∀ j, j < c.slots.size → c.slots[j]? = some (f j)
theorem Arf.lt (F : Arf Z h a ty z f) : a < h.size := by obtain ⟨c, A, -⟩ := F; exact A.lt
theorem Arf.ext (F : Arf Z h a ty z f) (E : Ext h h') : Arf Z h' a ty z f := by obtain ⟨c, A, r⟩ := F; exact ⟨c, A.ext E, r⟩
theorem Arf.other (F : Arf Z h b ty z f) (W : Wr h h' a sl v) (q : b ≠ a) : Arf Z h' b ty z f := by obtain ⟨c, A, r⟩ := F; exact ⟨c, A.other W q, r⟩
theorem Arf.keep (F : Arf Z h a ty z f) (K : Keep h h' ws) (q : a ∉ ws) : Arf Z h' a ty z f := by obtain ⟨c, A, r⟩ := F; exact ⟨c, ⟨K.2.1 a c A.1 q, A.2⟩, r⟩
theorem Arf.new (A : Arr Z h a (newA k ty z) ty) (q : ¬ z < 0) : Arf Z h a ty z (fun _ => defaultValue ty) := ⟨_, A, sz_new _ _ _, q, fun i hi => by rw [sz_new] at hi; simp [newA, hi]⟩
theorem Arf.congr (F : Arf Z h a ty z f) (q : ∀ i, i < z.toNatClampNeg → f i = f' i) : Arf Z h a ty z f' := by
  obtain ⟨c, A, S, M, H⟩ := F
  exact ⟨c, A, S, M, fun i hi => by rw [← q i (S ▸ hi)]; exact H i hi⟩
theorem Arf.set (A : Arr Z h a c ty) (S : c.slots.size = z.toNatClampNeg) (M : ¬ z < 0) (H : ∀ i, i < c.slots.size → c.slots[i]? = some (f i)) (W : Wr h h' a j.toNatClampNeg v) : Arf Z h' a ty z (fun i => if i = j.toNatClampNeg then v else f i) := by
  refine ⟨_, A.same W, by rw [sz_set]; exact S, M, fun i hi => ?_⟩
  rw [sz_set] at hi
  by_cases u : i = j.toNatClampNeg
  · subst u
    simp [Cell.setSlot, hi]
  · have : (c.setSlot j.toNatClampNeg v).slots[i]? = c.slots[i]? := by
      simp only [Cell.setSlot]; exact Array.getElem?_setIfInBounds_ne (Ne.symm u)
    rw [this]; show _ = some (if i = j.toNatClampNeg then v else f i); rw [if_neg u]; exact H i hi
end OwnArf
end Jvm.RoadKit
namespace Jvm.Pilot.@@N@@
open Jvm Jvm.ClassFile Sem Op Lib Jvm.Free Jvm.Stand Jvm.LawKit Jvm.RoadKit Bundle Jvm.Pilot.@@N@@.Jvm.D
/-! the plain law -/
def own_bit (i bits : Int32) : Int32 := if (((bits.toUInt32 >>> (i &&& 31).toUInt32).toInt32) &&& (1 : Int32)) = (0 : Int32) then (0 : Int32) else (1 : Int32)
def own_not (x : Int32) : Int32 := if x = (0 : Int32) then (1 : Int32) else (0 : Int32)
theorem own_nbit (i bits : Int32) : nar .boolean (own_bit i bits) = own_bit i bits := by unfold own_bit; split <;> rfl
theorem own_nnot (x : Int32) : nar .boolean (own_not x) = own_not x := by unfold own_not; split <;> rfl
theorem own_nat (j : Int32) (h : 0 ≤ j.toInt) : (j.toNatClampNeg : Int) = j.toInt := by simp only [Int32.toNatClampNeg]; omega
theorem own_nine (x : Int32) : 0 ≤ ((x &&& 2147483647) % 9).toInt ∧ ((x &&& 2147483647) % 9).toInt ≤ 8 := by
  have h := c_mask x 2147483647 31 (by decide) (by decide)
  have h' := (c_irem (x &&& 2147483647) 9 9 rfl).1 (by omega)
  omega
theorem d1_0 : decode method_3_code 0 = .ok (.iload_n 1, 1) := by decide +kernel
theorem d1_1 : decode method_3_code 1 = .ok (.aload_n 0, 1) := by decide +kernel
theorem d1_2 : decode method_3_code 2 = .ok (.arraylength, 1) := by decide +kernel
theorem d1_3 : decode method_3_code 3 = .ok (.if_icmp .ge 19, 3) := by decide +kernel
theorem d1_6 : decode method_3_code 6 = .ok (.aload_n 0, 1) := by decide +kernel
theorem d1_7 : decode method_3_code 7 = .ok (.iload_n 1, 1) := by decide +kernel
theorem d1_8 : decode method_3_code 8 = .ok (.iload_n 2, 1) := by decide +kernel
theorem d1_9 : decode method_3_code 9 = .ok (.iload_n 1, 1) := by decide +kernel
theorem d1_10 : decode method_3_code 10 = .ok (.iushr, 1) := by decide +kernel
theorem d1_11 : decode method_3_code 11 = .ok (.iconst 1, 1) := by decide +kernel
theorem d1_12 : decode method_3_code 12 = .ok (.iand, 1) := by decide +kernel
theorem d1_13 : decode method_3_code 13 = .ok (.ifCond .eq 7, 3) := by decide +kernel
theorem d1_20 : decode method_3_code 20 = .ok (.iconst 0, 1) := by decide +kernel
theorem d1_16 : decode method_3_code 16 = .ok (.iconst 1, 1) := by decide +kernel
theorem d1_17 : decode method_3_code 17 = .ok (.goto 4, 3) := by decide +kernel
theorem d1_21 : decode method_3_code 21 = .ok (.bastore, 1) := by decide +kernel
theorem d1_22 : decode method_3_code 22 = .ok (.return_, 1) := by decide +kernel
theorem pn_0 : plainName "com/example/kontroller/kontroller/synthesis/StateGraphComplementPinLaw" = true := by first | (simp [plainName, overriddenIn]; done) | decide +kernel
theorem ef_rm1 (m : MethodId) (x0 : Addr) (x1 : Int32) (x2 : Int32) : entryFrame m #[(.ref x0), (.int x1), (.int x2)] 3 = mkF m 0 #[.val (.ref x0), .val (.int x1), .val (.int x2)] [] := by first | (simp [entryFrame, mkF, argsToLocals, Value.category]; done) | rfl
def Q1 (Z : State) (a : Addr) (x1 : Int32) (x2 : Int32) (z : Int32) (f : Nat → Value) (h0 : Heap) (n0 : Nat) (v : Option Value) (h : Heap) (L : List Loc) : Prop := v = none ∧ Fr n0 L ∧ Keep h0 h [a] ∧ Arf Z h a .boolean z (fun j => if j = x1.toNatClampNeg then .int (own_bit x1 x2) else f j)
set_option maxRecDepth 65536 in
set_option maxHeartbeats 40000000 in
theorem rm1 (l : Launch) (Z : State) (a0 : Array Value) (hw : ∀ d ∈ tables_1, d.before a0 Z = true) (ws : List Jvm.Cond) (a : Addr) (x1 : Int32) (x2 : Int32) (z : Int32) (f : Nat → Value) (h0 : Heap) (n0 : Nat) (Z0 : n0 ≤ h0.size) (V_a : Arf Z h0 a .boolean z f) (g_a : n0 ≤ a) (hi : 0 ≤ x1.toInt) :
    MetFree l (⟨"com/example/kontroller/kontroller/synthesis/StateGraphComplementPinLaw", "put", "([ZII)V"⟩ : MethodName) (head1 (Jvm.Cond.code (⟨"com/example/kontroller/kontroller/synthesis/StateGraphComplementPinLaw", "put", "([ZII)V"⟩ : MethodName) method_3_code 3 none :: ws) ({ frames := 0, cells := 0, slots := 0, locals := 0 } : Room)) (fun as' U => as' = #[(.ref a), (.int x1), (.int x2)] ∧ Z.Warmed39 U.vm ∧ U.heap = h0) (fun _ _ _ _ _ => True) (fun _ U_ o_ U'_ => ∃ v_ L_, o_ = .returned v_ ∧ Q1 Z a x1 x2 z f h0 n0 v_ U'_.heap L_ ∧ FrameEnd U_ o_ U'_ L_ ({ frames := 0, cells := 0, slots := 0, locals := 0 } : Room).cells ({ frames := 0, cells := 0, slots := 0, locals := 0 } : Room).slots) := by
  refine MetFree.of_bodySF (plainFor_of_name pn_0) hisR ?_
  intro p e s m args below meth c s₁ Bd hml0 hP hK
  obtain ⟨rfl, hZ, hh⟩ := hP
  have hx := Bd.exec
  have hby := Bd.bytes
  have hml : c.maxLocals = 3 := hml0
  have hown : s.vm.findClass "com/example/kontroller/kontroller/synthesis/StateGraphComplementPinLaw" = some m.cls := findClass_of_methodNamed Bd.named
  have hnm := (name_of_methodNamed Bd.named Bd.method).1
  have X0 : Stand p l e ({ frames := 0, cells := 0, slots := 0, locals := 0 } : Room) s m #[(.ref a), (.int x1), (.int x2)] below meth c s₁ [] 0 0 := Stand.of_body Bd
  have e0 : s₁.heap = h0 := by rw [← hh, Bd.state]; rfl
  have N0 := Fr.nil n0
  refine RunsTo.start (ef_rm1 m a x1 x2) ?_
  show RunsTo p e below s s₁ (mkF m 0 #[.val (.ref a), .val (.int x1), .val (.int x2)] []) (Q1 Z a x1 x2 z f h0 n0) ({ frames := 0, cells := 0, slots := 0, locals := 0 } : Room).cells ({ frames := 0, cells := 0, slots := 0, locals := 0 } : Room).slots
  refine RunsTo.of (T' := s₁) (g' := (mkF m 2 #[.val (.ref a), .val (.int x1), .val (.int x2)] [(.ref a), (.int x1)])) (fun tgt_ kt => ?_) ?_
  · refine XS.iloadN X0.here hx rfl (hb hby d1_0) rfl ?_
    show Steps p.tables e below (s₁.setTop (mkF m 1 #[.val (.ref a), .val (.int x1), .val (.int x2)] [(.int x1)])) _
    refine XS.aloadN X0.here hx rfl (hb hby d1_1) rfl rfl ?_
    show Steps p.tables e below (s₁.setTop (mkF m 2 #[.val (.ref a), .val (.int x1), .val (.int x2)] [(.ref a), (.int x1)])) _
    exact kt
  obtain ⟨cl_a_1, Ar_a_1, S_a_1, M_a_1, H_a_1⟩ := id V_a
  refine RunsTo.of (T' := s₁) (g' := (mkF m 3 #[.val (.ref a), .val (.int x1), .val (.int x2)] [(.int z), (.int x1)])) (fun tgt_ kt => ?_) ?_
  · refine X0.arraylength hx (by rw [e0]; exact Ar_a_1.1) (State.isArrayOf_alike hZ.alike Ar_a_1.2.1) (g := (mkF m 2 #[.val (.ref a), .val (.int x1), .val (.int x2)] [(.ref a), (.int x1)])) rfl rfl (hb hby d1_2) _ ?_
    rw [len_of S_a_1 M_a_1]
    show Steps p.tables e below (s₁.setTop (mkF m 3 #[.val (.ref a), .val (.int x1), .val (.int x2)] [(.int z), (.int x1)])) _
    exact kt
  by_cases hlt : x1 < z
  · refine RunsTo.of (T' := s₁) (g' := (mkF m 13 #[.val (.ref a), .val (.int x1), .val (.int x2)] [(.int (((x2.toUInt32 >>> (x1 &&& 31).toUInt32).toInt32) &&& (1 : Int32))), (.int x1), (.ref a)])) (fun tgt_ kt => ?_) ?_
    · refine XS.icmpNo X0.here hx rfl (hb hby d1_3) rfl (tlt hlt).2.1 ?_
      show Steps p.tables e below (s₁.setTop (mkF m 6 #[.val (.ref a), .val (.int x1), .val (.int x2)] [])) _
      refine XS.aloadN X0.here hx rfl (hb hby d1_6) rfl rfl ?_
      show Steps p.tables e below (s₁.setTop (mkF m 7 #[.val (.ref a), .val (.int x1), .val (.int x2)] [(.ref a)])) _
      refine XS.iloadN X0.here hx rfl (hb hby d1_7) rfl ?_
      show Steps p.tables e below (s₁.setTop (mkF m 8 #[.val (.ref a), .val (.int x1), .val (.int x2)] [(.int x1), (.ref a)])) _
      refine XS.iloadN X0.here hx rfl (hb hby d1_8) rfl ?_
      show Steps p.tables e below (s₁.setTop (mkF m 9 #[.val (.ref a), .val (.int x1), .val (.int x2)] [(.int x2), (.int x1), (.ref a)])) _
      refine XS.iloadN X0.here hx rfl (hb hby d1_9) rfl ?_
      show Steps p.tables e below (s₁.setTop (mkF m 10 #[.val (.ref a), .val (.int x1), .val (.int x2)] [(.int x1), (.int x2), (.int x1), (.ref a)])) _
      refine XS.iushr X0.here hx rfl (hb hby d1_10) rfl ?_
      show Steps p.tables e below (s₁.setTop (mkF m 11 #[.val (.ref a), .val (.int x1), .val (.int x2)] [(.int ((x2.toUInt32 >>> (x1 &&& 31).toUInt32).toInt32)), (.int x1), (.ref a)])) _
      refine XS.iconst X0.here hx rfl (hb hby d1_11) ?_
      show Steps p.tables e below (s₁.setTop (mkF m 12 #[.val (.ref a), .val (.int x1), .val (.int x2)] [(.int (1 : Int32)), (.int ((x2.toUInt32 >>> (x1 &&& 31).toUInt32).toInt32)), (.int x1), (.ref a)])) _
      refine XS.iand X0.here hx rfl (hb hby d1_12) rfl ?_
      show Steps p.tables e below (s₁.setTop (mkF m 13 #[.val (.ref a), .val (.int x1), .val (.int x2)] [(.int (((x2.toUInt32 >>> (x1 &&& 31).toUInt32).toInt32) &&& (1 : Int32))), (.int x1), (.ref a)])) _
      exact kt
    obtain ⟨y, hy⟩ : ∃ z : Int32, z = (if (((x2.toUInt32 >>> (x1 &&& 31).toUInt32).toInt32) &&& (1 : Int32)) = (0 : Int32) then (0 : Int32) else (1 : Int32)) := ⟨_, rfl⟩
    refine RunsTo.of (T' := s₁) (g' := (mkF m 21 #[.val (.ref a), .val (.int x1), .val (.int x2)] [(.int y), (.int x1), (.ref a)])) (fun tgt_ kt => ?_) ?_
    · by_cases hc13 : (((x2.toUInt32 >>> (x1 &&& 31).toUInt32).toInt32) &&& (1 : Int32)) = (0 : Int32)
      · refine XS.ifYes X0.here hx rfl (pc0 := 13) (pc' := 20) rfl (hb hby d1_13) rfl ((if0 _ _).trans (teq hc13).1) (by decide) (by decide) ?_
        show Steps p.tables e below (s₁.setTop (mkF m 20 #[.val (.ref a), .val (.int x1), .val (.int x2)] [(.int x1), (.ref a)])) _
        try rw [if_pos hc13] at hy
        rw [hy] at kt
        refine XS.iconst X0.here hx rfl (hb hby d1_20) ?_
        show Steps p.tables e below (s₁.setTop (mkF m 21 #[.val (.ref a), .val (.int x1), .val (.int x2)] [(.int (0 : Int32)), (.int x1), (.ref a)])) _
        exact kt
      · refine XS.ifNo X0.here hx rfl (hb hby d1_13) rfl ((if0 _ _).trans (feq hc13).1) ?_
        show Steps p.tables e below (s₁.setTop (mkF m 16 #[.val (.ref a), .val (.int x1), .val (.int x2)] [(.int x1), (.ref a)])) _
        try rw [if_neg hc13] at hy
        rw [hy] at kt
        refine XS.iconst X0.here hx rfl (hb hby d1_16) ?_
        show Steps p.tables e below (s₁.setTop (mkF m 17 #[.val (.ref a), .val (.int x1), .val (.int x2)] [(.int (1 : Int32)), (.int x1), (.ref a)])) _
        refine XS.goto X0.here hx rfl (pc0 := 17) (pc' := 21) rfl (hb hby d1_17) (by decide) (by decide) ?_
        show Steps p.tables e below (s₁.setTop (mkF m 21 #[.val (.ref a), .val (.int x1), .val (.int x2)] [(.int (1 : Int32)), (.int x1), (.ref a)])) _
        exact kt
    have hyb : nar .boolean y = own_bit x1 x2 := by rw [hy]; exact own_nbit x1 x2
    obtain ⟨cl_a_2, Ar_a_2, S_a_2, M_a_2, H_a_2⟩ := id V_a
    have hin_a_2 : ¬ (x1 < 0 ∨ cl_a_2.slots.size ≤ (x1).toNatClampNeg) := inb_of S_a_2 ⟨by rw [Int32.lt_iff_toInt_lt]; show ¬ _ < (0 : Int); omega, hlt⟩
    obtain ⟨T3, h3, X3, e3, W3, st3⟩ := stZ X0 hx hZ e0 Ar_a_2 (j := x1) hin_a_2 (g := (mkF m 21 #[.val (.ref a), .val (.int x1), .val (.int x2)] [(.int y), (.int x1), (.ref a)])) rfl rfl (hb hby d1_21)
    have N3 := Fr.snoc X3 N0 g_a
    have Z3 : n0 ≤ h3.size := Nat.le_trans Z0 (Nat.le_of_eq W3.size.symm)
    have V_a : Arf Z h3 a .boolean z (fun jj => if jj = (x1).toNatClampNeg then (Value.int (nar .boolean y)) else f jj) := Arf.set Ar_a_2 S_a_2 M_a_2 H_a_2 W3
    have V_a : Arf Z h3 a .boolean z (fun j => if j = x1.toNatClampNeg then .int (own_bit x1 x2) else f j) := V_a.congr (fun i hi => by rw [hyb])
    refine RunsTo.of (T' := T3) (g' := (mkF m 22 #[.val (.ref a), .val (.int x1), .val (.int x2)] [])) st3 ?_
    refine RunsTo.retV X3 hx Bd.returns Bd.notSynchronized (hb hby d1_22) ?_ (by decide) (by decide)
    rw [e3]
    exact ⟨rfl, N3, (Keep.refl h0 [a]).wr W3 (Or.inl (List.mem_of_getElem? (i := 0) rfl)), V_a⟩
  · refine RunsTo.of (T' := s₁) (g' := (mkF m 22 #[.val (.ref a), .val (.int x1), .val (.int x2)] [])) (fun tgt_ kt => ?_) ?_
    · refine XS.icmpYes X0.here hx rfl (pc0 := 3) (pc' := 22) rfl (hb hby d1_3) rfl (flt hlt).2.1 (by decide) (by decide) ?_
      show Steps p.tables e below (s₁.setTop (mkF m 22 #[.val (.ref a), .val (.int x1), .val (.int x2)] [])) _
      exact kt
    refine RunsTo.retV X0 hx Bd.returns Bd.notSynchronized (hb hby d1_22) ?_ (by decide) (by decide)
    rw [e0]
    exact ⟨rfl, N0, Keep.refl h0 [a], V_a.congr (fun i hi' => by rw [if_neg]; intro q; subst q; exact hlt (by rw [Int32.lt_iff_toInt_lt]; have := own_nat x1 hi; simp only [Int32.toNatClampNeg] at hi'; omega))⟩
theorem d2_0 : decode prog_84_method_4_code 0 = .ok (.aload_n 0, 1) := by decide +kernel
theorem d2_1 : decode prog_84_method_4_code 1 = .ok (.arraylength, 1) := by decide +kernel
theorem d2_2 : decode prog_84_method_4_code 2 = .ok (.newarray .boolean, 2) := by decide +kernel
theorem d2_4 : decode prog_84_method_4_code 4 = .ok (.astore_n 1, 1) := by decide +kernel
theorem d2_5 : decode prog_84_method_4_code 5 = .ok (.iconst 0, 1) := by decide +kernel
theorem d2_6 : decode prog_84_method_4_code 6 = .ok (.istore_n 2, 1) := by decide +kernel
theorem d2_7 : decode prog_84_method_4_code 7 = .ok (.iload_n 2, 1) := by decide +kernel
theorem d2_8 : decode prog_84_method_4_code 8 = .ok (.aload_n 0, 1) := by decide +kernel
theorem d2_9 : decode prog_84_method_4_code 9 = .ok (.arraylength, 1) := by decide +kernel
theorem d2_10 : decode prog_84_method_4_code 10 = .ok (.if_icmp .ge 23, 3) := by decide +kernel
theorem d2_33 : decode prog_84_method_4_code 33 = .ok (.aload_n 1, 1) := by decide +kernel
theorem d2_34 : decode prog_84_method_4_code 34 = .ok (.areturn, 1) := by decide +kernel
theorem d2_13 : decode prog_84_method_4_code 13 = .ok (.aload_n 1, 1) := by decide +kernel
theorem d2_14 : decode prog_84_method_4_code 14 = .ok (.iload_n 2, 1) := by decide +kernel
theorem d2_15 : decode prog_84_method_4_code 15 = .ok (.aload_n 0, 1) := by decide +kernel
theorem d2_16 : decode prog_84_method_4_code 16 = .ok (.iload_n 2, 1) := by decide +kernel
theorem d2_17 : decode prog_84_method_4_code 17 = .ok (.baload, 1) := by decide +kernel
theorem d2_18 : decode prog_84_method_4_code 18 = .ok (.ifCond .ne 7, 3) := by decide +kernel
theorem d2_21 : decode prog_84_method_4_code 21 = .ok (.iconst 1, 1) := by decide +kernel
theorem d2_22 : decode prog_84_method_4_code 22 = .ok (.goto 4, 3) := by decide +kernel
theorem d2_25 : decode prog_84_method_4_code 25 = .ok (.iconst 0, 1) := by decide +kernel
theorem d2_26 : decode prog_84_method_4_code 26 = .ok (.bastore, 1) := by decide +kernel
theorem d2_27 : decode prog_84_method_4_code 27 = .ok (.iinc 2 1, 3) := by decide +kernel
theorem d2_30 : decode prog_84_method_4_code 30 = .ok (.goto (-23), 3) := by decide +kernel
theorem pn_1 : plainName "com/example/kontroller/kontroller/synthesis/StateGraph" = true := by first | (simp [plainName, overriddenIn]; done) | decide +kernel
theorem ef_rm2 (m : MethodId) (x0 : Addr) : entryFrame m #[(.ref x0)] 3 = mkF m 0 #[.val (.ref x0), .unset, .unset] [] := by first | (simp [entryFrame, mkF, argsToLocals, Value.category]; done) | rfl
def Q2 (Z : State) (a : Addr) (z : Int32) (bb : Nat → Int32) (h0 : Heap) (n0 : Nat) (v : Option Value) (h : Heap) (L : List Loc) : Prop := ∃ b : Addr, v = some (.ref b) ∧ Fr n0 L ∧ h0.size ≤ b ∧ Keep h0 h [] ∧ Arf Z h b .boolean z (fun j => .int (own_not (bb j)))
set_option maxRecDepth 65536 in
set_option maxHeartbeats 40000000 in
theorem rm2 (l : Launch) (Z : State) (a0 : Array Value) (hw : ∀ d ∈ tables_1, d.before a0 Z = true) (ws : List Jvm.Cond) (a : Addr) (z : Int32) (bb : Nat → Int32) (h0 : Heap) (n0 : Nat) (Z0 : n0 ≤ h0.size) (V_a : Arf Z h0 a .boolean z (fun j => .int (bb j))) (hz8 : z.toInt ≤ 8) :
    MetFree l (⟨"com/example/kontroller/kontroller/synthesis/StateGraph", "complement", "([Z)[Z"⟩ : MethodName) (head1 (Jvm.Cond.code (⟨"com/example/kontroller/kontroller/synthesis/StateGraph", "complement", "([Z)[Z"⟩ : MethodName) prog_84_method_4_code 3 (some (.array .boolean)) :: ws) ({ frames := 0, cells := 1, slots := 8, locals := 0 } : Room)) (fun as' U => as' = #[(.ref a)] ∧ Z.Warmed39 U.vm ∧ U.heap = h0) (fun _ _ _ _ _ => True) (fun _ U_ o_ U'_ => ∃ v_ L_, o_ = .returned v_ ∧ Q2 Z a z bb h0 n0 v_ U'_.heap L_ ∧ FrameEnd U_ o_ U'_ L_ ({ frames := 0, cells := 1, slots := 8, locals := 0 } : Room).cells ({ frames := 0, cells := 1, slots := 8, locals := 0 } : Room).slots) := by
  refine MetFree.of_bodySF (plainFor_of_name pn_1) hisR ?_
  intro p e s m args below meth c s₁ Bd hml0 hP hK
  obtain ⟨rfl, hZ, hh⟩ := hP
  have hx := Bd.exec
  have hby := Bd.bytes
  have hml : c.maxLocals = 3 := hml0
  have hown : s.vm.findClass "com/example/kontroller/kontroller/synthesis/StateGraph" = some m.cls := findClass_of_methodNamed Bd.named
  have hnm := (name_of_methodNamed Bd.named Bd.method).1
  have X0 : Stand p l e ({ frames := 0, cells := 1, slots := 8, locals := 0 } : Room) s m #[(.ref a)] below meth c s₁ [] 0 0 := Stand.of_body Bd
  have e0 : s₁.heap = h0 := by rw [← hh, Bd.state]; rfl
  have N0 := Fr.nil n0
  refine RunsTo.start (ef_rm2 m a) ?_
  show RunsTo p e below s s₁ (mkF m 0 #[.val (.ref a), .unset, .unset] []) (Q2 Z a z bb h0 n0) ({ frames := 0, cells := 1, slots := 8, locals := 0 } : Room).cells ({ frames := 0, cells := 1, slots := 8, locals := 0 } : Room).slots
  have hzn : ¬ z < 0 := by obtain ⟨_, _, _, hM, _⟩ := id V_a; exact hM
  have hz0 : 0 ≤ z.toInt := by rw [Int32.lt_iff_toInt_lt] at hzn; have : (0 : Int32).toInt = 0 := rfl; omega
  have hnz := own_nat z hz0
  refine RunsTo.of (T' := s₁) (g' := (mkF m 1 #[.val (.ref a), .unset, .unset] [(.ref a)])) (fun tgt_ kt => ?_) ?_
  · refine XS.aloadN X0.here hx rfl (hb hby d2_0) rfl rfl ?_
    show Steps p.tables e below (s₁.setTop (mkF m 1 #[.val (.ref a), .unset, .unset] [(.ref a)])) _
    exact kt
  obtain ⟨cl_a_1, Ar_a_1, S_a_1, M_a_1, H_a_1⟩ := id V_a
  refine RunsTo.of (T' := s₁) (g' := (mkF m 2 #[.val (.ref a), .unset, .unset] [(.int z)])) (fun tgt_ kt => ?_) ?_
  · refine X0.arraylength hx (by rw [e0]; exact Ar_a_1.1) (State.isArrayOf_alike hZ.alike Ar_a_1.2.1) (g := (mkF m 1 #[.val (.ref a), .unset, .unset] [(.ref a)])) rfl rfl (hb hby d2_1) _ ?_
    rw [len_of S_a_1 M_a_1]
    show Steps p.tables e below (s₁.setTop (mkF m 2 #[.val (.ref a), .unset, .unset] [(.int z)])) _
    exact kt
  obtain ⟨T2, h2, k2, X2, e2, E2, A2, st2⟩ := newP X0 hx hZ (hw _ (List.mem_of_getElem? (i := 1) rfl)) e0 (g := (mkF m 2 #[.val (.ref a), .unset, .unset] [(.int z)])) rfl (hb hby d2_2) rfl hzn (cap := 8) (by omega) (by decide) (by decide) (by decide)
  obtain ⟨b, g2⟩ : ∃ z, z = h0.size := ⟨_, rfl⟩
  rw [← g2] at A2 st2
  have Z2 : n0 ≤ h2.size := Nat.le_trans Z0 E2.1
  have g_b : n0 ≤ b := Nat.le_trans Z0 (Nat.le_of_eq g2.symm)
  have ne_a_b : a ≠ b := Nat.ne_of_lt (Nat.lt_of_lt_of_le V_a.lt (Nat.le_of_eq g2.symm))
  have V_a := V_a.ext E2
  have V_b : Arf Z h2 b .boolean z (fun _ => (Value.int (0 : Int32))) := Arf.new A2 hzn
  refine RunsTo.of (T' := T2) (g' := (mkF m 4 #[.val (.ref a), .unset, .unset] [(.ref b)])) st2 ?_
  refine RunsTo.of (T' := T2) (g' := (mkF m 7 #[.val (.ref a), .val (.ref b), .val (.int (0 : Int32))] [])) (fun tgt_ kt => ?_) ?_
  · refine XS.astoreN X2.here hx rfl (hb hby d2_4) rfl rfl (l' := #[.val (.ref a), .val (.ref b), .unset]) rfl ?_
    show Steps p.tables e below (T2.setTop (mkF m 5 #[.val (.ref a), .val (.ref b), .unset] [])) _
    refine XS.iconst X2.here hx rfl (hb hby d2_5) ?_
    show Steps p.tables e below (T2.setTop (mkF m 6 #[.val (.ref a), .val (.ref b), .unset] [(.int (0 : Int32))])) _
    refine XS.istoreN X2.here hx rfl (hb hby d2_6) rfl (l' := #[.val (.ref a), .val (.ref b), .val (.int (0 : Int32))]) rfl ?_
    show Steps p.tables e below (T2.setTop (mkF m 7 #[.val (.ref a), .val (.ref b), .val (.int (0 : Int32))] [])) _
    exact kt
  have hbs : h0.size ≤ b := Nat.le_of_eq g2.symm
  have loop : ∀ (r : Nat) (i : Int32) (T : State) (h : Heap) (locs : List Loc) (X : Stand p l e ({ frames := 0, cells := 1, slots := 8, locals := 0 } : Room) s m #[.ref a] below meth c T locs 1 8) (eT : T.heap = h) (NN : Fr n0 locs) (KK : Keep h0 h []) (V_a : Arf Z h a .boolean z (fun j => .int (bb j))) (V_b : Arf Z h b .boolean z (fun j => if j < i.toNatClampNeg then .int (own_not (bb j)) else .int 0)), 0 ≤ i.toInt → i.toInt + r = z.toInt → RunsTo p e below s T (mkF m 7 #[.val (.ref a), .val (.ref b), .val (.int i)] []) (Q2 Z a z bb h0 n0) ({ frames := 0, cells := 1, slots := 8, locals := 0 } : Room).cells ({ frames := 0, cells := 1, slots := 8, locals := 0 } : Room).slots := by
    intro r
    induction r with
    | zero =>
      intro i T h locs X eT NN KK V_a V_b hi hr
      have hiz : i = z := by rw [← Int32.toInt_inj]; omega
      subst hiz
      refine RunsTo.of (T' := T) (g' := (mkF m 9 #[.val (.ref a), .val (.ref b), .val (.int i)] [(.ref a), (.int i)])) (fun tgt_ kt => ?_) ?_
      · refine XS.iloadN X.here hx rfl (hb hby d2_7) rfl ?_
        show Steps p.tables e below (T.setTop (mkF m 8 #[.val (.ref a), .val (.ref b), .val (.int i)] [(.int i)])) _
        refine XS.aloadN X.here hx rfl (hb hby d2_8) rfl rfl ?_
        show Steps p.tables e below (T.setTop (mkF m 9 #[.val (.ref a), .val (.ref b), .val (.int i)] [(.ref a), (.int i)])) _
        exact kt
      obtain ⟨cl_a_3, Ar_a_3, S_a_3, M_a_3, H_a_3⟩ := id V_a
      refine RunsTo.of (T' := T) (g' := (mkF m 10 #[.val (.ref a), .val (.ref b), .val (.int i)] [(.int i), (.int i)])) (fun tgt_ kt => ?_) ?_
      · refine X.arraylength hx (by rw [eT]; exact Ar_a_3.1) (State.isArrayOf_alike hZ.alike Ar_a_3.2.1) (g := (mkF m 9 #[.val (.ref a), .val (.ref b), .val (.int i)] [(.ref a), (.int i)])) rfl rfl (hb hby d2_9) _ ?_
        rw [len_of S_a_3 M_a_3]
        show Steps p.tables e below (T.setTop (mkF m 10 #[.val (.ref a), .val (.ref b), .val (.int i)] [(.int i), (.int i)])) _
        exact kt
      refine RunsTo.of (T' := T) (g' := (mkF m 34 #[.val (.ref a), .val (.ref b), .val (.int i)] [(.ref b)])) (fun tgt_ kt => ?_) ?_
      · refine XS.icmpYes X.here hx rfl (pc0 := 10) (pc' := 33) rfl (hb hby d2_10) rfl (flt (show ¬ i < i by rw [Int32.lt_iff_toInt_lt]; omega)).2.1 (by decide) (by decide) ?_
        show Steps p.tables e below (T.setTop (mkF m 33 #[.val (.ref a), .val (.ref b), .val (.int i)] [])) _
        refine XS.aloadN X.here hx rfl (hb hby d2_33) rfl rfl ?_
        show Steps p.tables e below (T.setTop (mkF m 34 #[.val (.ref a), .val (.ref b), .val (.int i)] [(.ref b)])) _
        exact kt
      refine RunsTo.retA X hx Bd.returns rfl rfl Bd.notSynchronized (hb hby d2_34) ?_ (by decide) (by decide)
      rw [eT]
      exact ⟨b, rfl, NN, hbs, KK, V_b.congr (fun j hj => if_pos hj)⟩
    | succ r ih =>
      intro i T h locs X eT NN KK V_a V_b hi hr
      have ZZ : n0 ≤ h.size := Nat.le_trans Z0 KK.1
      refine RunsTo.of (T' := T) (g' := (mkF m 9 #[.val (.ref a), .val (.ref b), .val (.int i)] [(.ref a), (.int i)])) (fun tgt_ kt => ?_) ?_
      · refine XS.iloadN X.here hx rfl (hb hby d2_7) rfl ?_
        show Steps p.tables e below (T.setTop (mkF m 8 #[.val (.ref a), .val (.ref b), .val (.int i)] [(.int i)])) _
        refine XS.aloadN X.here hx rfl (hb hby d2_8) rfl rfl ?_
        show Steps p.tables e below (T.setTop (mkF m 9 #[.val (.ref a), .val (.ref b), .val (.int i)] [(.ref a), (.int i)])) _
        exact kt
      obtain ⟨cl_a_4, Ar_a_4, S_a_4, M_a_4, H_a_4⟩ := id V_a
      refine RunsTo.of (T' := T) (g' := (mkF m 10 #[.val (.ref a), .val (.ref b), .val (.int i)] [(.int z), (.int i)])) (fun tgt_ kt => ?_) ?_
      · refine X.arraylength hx (by rw [eT]; exact Ar_a_4.1) (State.isArrayOf_alike hZ.alike Ar_a_4.2.1) (g := (mkF m 9 #[.val (.ref a), .val (.ref b), .val (.int i)] [(.ref a), (.int i)])) rfl rfl (hb hby d2_9) _ ?_
        rw [len_of S_a_4 M_a_4]
        show Steps p.tables e below (T.setTop (mkF m 10 #[.val (.ref a), .val (.ref b), .val (.int i)] [(.int z), (.int i)])) _
        exact kt
      have hlt : i < z := by rw [Int32.lt_iff_toInt_lt]; omega
      have hn := own_nat i hi
      have hin : ¬ i < 0 ∧ i < z := ⟨by rw [Int32.lt_iff_toInt_lt]; show ¬ _ < (0 : Int); omega, hlt⟩
      refine RunsTo.of (T' := T) (g' := (mkF m 17 #[.val (.ref a), .val (.ref b), .val (.int i)] [(.int i), (.ref a), (.int i), (.ref b)])) (fun tgt_ kt => ?_) ?_
      · refine XS.icmpNo X.here hx rfl (hb hby d2_10) rfl (tlt hlt).2.1 ?_
        show Steps p.tables e below (T.setTop (mkF m 13 #[.val (.ref a), .val (.ref b), .val (.int i)] [])) _
        refine XS.aloadN X.here hx rfl (hb hby d2_13) rfl rfl ?_
        show Steps p.tables e below (T.setTop (mkF m 14 #[.val (.ref a), .val (.ref b), .val (.int i)] [(.ref b)])) _
        refine XS.iloadN X.here hx rfl (hb hby d2_14) rfl ?_
        show Steps p.tables e below (T.setTop (mkF m 15 #[.val (.ref a), .val (.ref b), .val (.int i)] [(.int i), (.ref b)])) _
        refine XS.aloadN X.here hx rfl (hb hby d2_15) rfl rfl ?_
        show Steps p.tables e below (T.setTop (mkF m 16 #[.val (.ref a), .val (.ref b), .val (.int i)] [(.ref a), (.int i), (.ref b)])) _
        refine XS.iloadN X.here hx rfl (hb hby d2_16) rfl ?_
        show Steps p.tables e below (T.setTop (mkF m 17 #[.val (.ref a), .val (.ref b), .val (.int i)] [(.int i), (.ref a), (.int i), (.ref b)])) _
        exact kt
      obtain ⟨cl_a_5, Ar_a_5, S_a_5, M_a_5, H_a_5⟩ := id V_a
      have hin_a_5 : ¬ (i < 0 ∨ cl_a_5.slots.size ≤ (i).toNatClampNeg) := inb_of S_a_5 hin
      have hat_a_5 : cl_a_5.slots[(i).toNatClampNeg]? = some (.int (bb i.toNatClampNeg)) := (H_a_5 _ (Nat.lt_of_not_le fun y => hin_a_5 (Or.inr y))).trans (congrArg some rfl)
      refine RunsTo.of (T' := T) (g' := (mkF m 18 #[.val (.ref a), .val (.ref b), .val (.int i)] [(.int (bb i.toNatClampNeg)), (.int i), (.ref b)])) (fun tgt_ kt => ?_) ?_
      · refine X.baloadBooleans hx (j := i) (v := (.int (bb i.toNatClampNeg))) (by rw [eT]; exact Ar_a_5.1) (State.isArrayOf_alike hZ.alike Ar_a_5.2.1) Ar_a_5.2.2 hin_a_5 hat_a_5 (g := (mkF m 17 #[.val (.ref a), .val (.ref b), .val (.int i)] [(.int i), (.ref a), (.int i), (.ref b)])) rfl rfl (hb hby d2_17) _ ?_
        show Steps p.tables e below (T.setTop (mkF m 18 #[.val (.ref a), .val (.ref b), .val (.int i)] [(.int (bb i.toNatClampNeg)), (.int i), (.ref b)])) _
        exact kt
      obtain ⟨y, hy⟩ : ∃ z : Int32, z = (if (bb i.toNatClampNeg) = (0 : Int32) then (1 : Int32) else (0 : Int32)) := ⟨_, rfl⟩
      refine RunsTo.of (T' := T) (g' := (mkF m 26 #[.val (.ref a), .val (.ref b), .val (.int i)] [(.int y), (.int i), (.ref b)])) (fun tgt_ kt => ?_) ?_
      · by_cases hc18 : (bb i.toNatClampNeg) = (0 : Int32)
        · refine XS.ifNo X.here hx rfl (hb hby d2_18) rfl ((if0 _ _).trans (teq hc18).2) ?_
          show Steps p.tables e below (T.setTop (mkF m 21 #[.val (.ref a), .val (.ref b), .val (.int i)] [(.int i), (.ref b)])) _
          try rw [if_pos hc18] at hy
          rw [hy] at kt
          refine XS.iconst X.here hx rfl (hb hby d2_21) ?_
          show Steps p.tables e below (T.setTop (mkF m 22 #[.val (.ref a), .val (.ref b), .val (.int i)] [(.int (1 : Int32)), (.int i), (.ref b)])) _
          refine XS.goto X.here hx rfl (pc0 := 22) (pc' := 26) rfl (hb hby d2_22) (by decide) (by decide) ?_
          show Steps p.tables e below (T.setTop (mkF m 26 #[.val (.ref a), .val (.ref b), .val (.int i)] [(.int (1 : Int32)), (.int i), (.ref b)])) _
          exact kt
        · refine XS.ifYes X.here hx rfl (pc0 := 18) (pc' := 25) rfl (hb hby d2_18) rfl ((if0 _ _).trans (feq hc18).2) (by decide) (by decide) ?_
          show Steps p.tables e below (T.setTop (mkF m 25 #[.val (.ref a), .val (.ref b), .val (.int i)] [(.int i), (.ref b)])) _
          try rw [if_neg hc18] at hy
          rw [hy] at kt
          refine XS.iconst X.here hx rfl (hb hby d2_25) ?_
          show Steps p.tables e below (T.setTop (mkF m 26 #[.val (.ref a), .val (.ref b), .val (.int i)] [(.int (0 : Int32)), (.int i), (.ref b)])) _
          exact kt
      have hyb : nar .boolean y = own_not (bb i.toNatClampNeg) := by rw [hy]; exact own_nnot _
      have h1 := c_iadd i 1
      have h1r := rng32 (i + 1)
      rw [show (1 : Int32).toInt = 1 from rfl] at h1
      have hi1 : (i + 1).toInt = i.toInt + 1 := by omega
      have hn1 := own_nat (i + 1) (by omega)
      have hnn : (i + 1).toNatClampNeg = i.toNatClampNeg + 1 := by omega
      obtain ⟨cl_b_6, Ar_b_6, S_b_6, M_b_6, H_b_6⟩ := id V_b
      have hin_b_6 : ¬ (i < 0 ∨ cl_b_6.slots.size ≤ (i).toNatClampNeg) := inb_of S_b_6 hin
      obtain ⟨T7, h7, X7, e7, W7, st7⟩ := stZ X hx hZ eT Ar_b_6 (j := i) hin_b_6 (g := (mkF m 26 #[.val (.ref a), .val (.ref b), .val (.int i)] [(.int y), (.int i), (.ref b)])) rfl rfl (hb hby d2_26)
      have N7 := Fr.snoc X7 NN g_b
      have Z7 : n0 ≤ h7.size := Nat.le_trans ZZ (Nat.le_of_eq W7.size.symm)
      have V_b : Arf Z h7 b .boolean z (fun jj => if jj = (i).toNatClampNeg then (Value.int (nar .boolean y)) else (fun j => if j < i.toNatClampNeg then .int (own_not (bb j)) else .int 0) jj) := Arf.set Ar_b_6 S_b_6 M_b_6 H_b_6 W7
      have V_b : Arf Z h7 b .boolean z (fun j => if j < (i + 1).toNatClampNeg then .int (own_not (bb j)) else .int 0) := V_b.congr (fun j hj => by
    rw [hyb, hnn]
    by_cases q : j = i.toNatClampNeg
    · subst q; rw [if_pos rfl, if_pos (Nat.lt_succ_self _)]
    · rw [if_neg q]
      show (if j < i.toNatClampNeg then Value.int (own_not (bb j)) else Value.int 0) = _
      by_cases q2 : j < i.toNatClampNeg
      · rw [if_pos q2, if_pos (Nat.lt_succ_of_lt q2)]
      · rw [if_neg q2, if_neg (by omega)])
      have V_a := V_a.other W7 ne_a_b
      refine RunsTo.of (T' := T7) (g' := (mkF m 27 #[.val (.ref a), .val (.ref b), .val (.int i)] [])) st7 ?_
      refine RunsTo.of (T' := T7) (g' := (mkF m 7 #[.val (.ref a), .val (.ref b), .val (.int (i + (1 : Int32)))] [])) (fun tgt_ kt => ?_) ?_
      · refine XS.iinc X7.here hx rfl (hb hby d2_27) rfl (l' := #[.val (.ref a), .val (.ref b), .val (.int (i + (1 : Int32)))]) rfl ?_
        show Steps p.tables e below (T7.setTop (mkF m 30 #[.val (.ref a), .val (.ref b), .val (.int (i + (1 : Int32)))] [])) _
        refine XS.goto X7.here hx rfl (pc0 := 30) (pc' := 7) rfl (hb hby d2_30) (by decide) (by decide) ?_
        show Steps p.tables e below (T7.setTop (mkF m 7 #[.val (.ref a), .val (.ref b), .val (.int (i + (1 : Int32)))] [])) _
        exact kt
      exact ih (i + 1) T7 h7 _ X7 e7 N7 (KK.wr W7 (Or.inr hbs)) V_a V_b (by omega) (by omega)
  exact loop z.toNatClampNeg 0 T2 h2 _ X2 e2 N0 ((Keep.refl h0 []).ext E2) V_a (V_b.congr (fun j hj => by show _ = if j < 0 then _ else _; rw [if_neg (Nat.not_lt_zero j)])) (Int.le_refl 0) (by show (0 : Int) + _ = _; omega)
theorem d3_0 : decode method_4_code 0 = .ok (.iload_n 2, 1) := by decide +kernel
theorem d3_1 : decode method_4_code 1 = .ok (.aload_n 0, 1) := by decide +kernel
theorem d3_2 : decode method_4_code 2 = .ok (.arraylength, 1) := by decide +kernel
theorem d3_3 : decode method_4_code 3 = .ok (.if_icmp .lt 5, 3) := by decide +kernel
theorem d3_8 : decode method_4_code 8 = .ok (.iload_n 3, 1) := by decide +kernel
theorem d3_9 : decode method_4_code 9 = .ok (.iload_n 2, 1) := by decide +kernel
theorem d3_10 : decode method_4_code 10 = .ok (.iushr, 1) := by decide +kernel
theorem d3_11 : decode method_4_code 11 = .ok (.iconst 1, 1) := by decide +kernel
theorem d3_12 : decode method_4_code 12 = .ok (.iand, 1) := by decide +kernel
theorem d3_13 : decode method_4_code 13 = .ok (.ifCond .eq 7, 3) := by decide +kernel
theorem d3_20 : decode method_4_code 20 = .ok (.iconst 0, 1) := by decide +kernel
theorem d3_16 : decode method_4_code 16 = .ok (.iconst 1, 1) := by decide +kernel
theorem d3_17 : decode method_4_code 17 = .ok (.goto 4, 3) := by decide +kernel
theorem d3_21 : decode method_4_code 21 = .ok (.istore 4, 2) := by decide +kernel
theorem d3_23 : decode method_4_code 23 = .ok (.aload_n 0, 1) := by decide +kernel
theorem d3_24 : decode method_4_code 24 = .ok (.iload_n 2, 1) := by decide +kernel
theorem d3_25 : decode method_4_code 25 = .ok (.baload, 1) := by decide +kernel
theorem d3_26 : decode method_4_code 26 = .ok (.iload 4, 2) := by decide +kernel
theorem d3_28 : decode method_4_code 28 = .ok (.if_icmp .ne 23, 3) := by decide +kernel
theorem d3_31 : decode method_4_code 31 = .ok (.aload_n 1, 1) := by decide +kernel
theorem d3_32 : decode method_4_code 32 = .ok (.iload_n 2, 1) := by decide +kernel
theorem d3_33 : decode method_4_code 33 = .ok (.baload, 1) := by decide +kernel
theorem d3_34 : decode method_4_code 34 = .ok (.iload 4, 2) := by decide +kernel
theorem d3_36 : decode method_4_code 36 = .ok (.ifCond .ne 7, 3) := by decide +kernel
theorem d3_39 : decode method_4_code 39 = .ok (.iconst 1, 1) := by decide +kernel
theorem d3_40 : decode method_4_code 40 = .ok (.goto 4, 3) := by decide +kernel
theorem d3_43 : decode method_4_code 43 = .ok (.iconst 0, 1) := by decide +kernel
theorem d3_44 : decode method_4_code 44 = .ok (.if_icmp .ne 7, 3) := by decide +kernel
theorem d3_47 : decode method_4_code 47 = .ok (.iconst 1, 1) := by decide +kernel
theorem d3_48 : decode method_4_code 48 = .ok (.goto 4, 3) := by decide +kernel
theorem d3_52 : decode method_4_code 52 = .ok (.ireturn, 1) := by decide +kernel
theorem d3_6 : decode method_4_code 6 = .ok (.iconst 1, 1) := by decide +kernel
theorem d3_7 : decode method_4_code 7 = .ok (.ireturn, 1) := by decide +kernel
theorem ef_rm3 (m : MethodId) (x0 : Addr) (x1 : Addr) (x2 : Int32) (x3 : Int32) : entryFrame m #[(.ref x0), (.ref x1), (.int x2), (.int x3)] 5 = mkF m 0 #[.val (.ref x0), .val (.ref x1), .val (.int x2), .val (.int x3), .unset] [] := by first | (simp [entryFrame, mkF, argsToLocals, Value.category]; done) | rfl
def Q3 (Z : State) (a : Addr) (b : Addr) (x2 : Int32) (x3 : Int32) (z : Int32) (fa fb : Nat → Value) (h0 : Heap) (n0 : Nat) (v : Option Value) (h : Heap) (L : List Loc) : Prop := v = some (.int 1) ∧ Fr n0 L ∧ h = h0
set_option maxRecDepth 65536 in
set_option maxHeartbeats 40000000 in
theorem rm3 (l : Launch) (Z : State) (a0 : Array Value) (hw : ∀ d ∈ tables_1, d.before a0 Z = true) (ws : List Jvm.Cond) (a : Addr) (b : Addr) (x2 : Int32) (x3 : Int32) (z : Int32) (fa fb : Nat → Value) (h0 : Heap) (n0 : Nat) (Z0 : n0 ≤ h0.size) (V_a : Arf Z h0 a .boolean z fa) (V_b : Arf Z h0 b .boolean z fb) (hi : 0 ≤ x2.toInt) (ha : x2 < z → fa x2.toNatClampNeg = .int (own_bit x2 x3)) (hb' : x2 < z → fb x2.toNatClampNeg = .int (own_not (own_bit x2 x3))) :
    MetFree l (⟨"com/example/kontroller/kontroller/synthesis/StateGraphComplementPinLaw", "check", "([Z[ZII)Z"⟩ : MethodName) (head1 (Jvm.Cond.code (⟨"com/example/kontroller/kontroller/synthesis/StateGraphComplementPinLaw", "check", "([Z[ZII)Z"⟩ : MethodName) method_4_code 5 (some .boolean) :: ws) ({ frames := 0, cells := 0, slots := 0, locals := 0 } : Room)) (fun as' U => as' = #[(.ref a), (.ref b), (.int x2), (.int x3)] ∧ Z.Warmed39 U.vm ∧ U.heap = h0) (fun _ _ _ _ _ => True) (fun _ U_ o_ U'_ => ∃ v_ L_, o_ = .returned v_ ∧ Q3 Z a b x2 x3 z fa fb h0 n0 v_ U'_.heap L_ ∧ FrameEnd U_ o_ U'_ L_ ({ frames := 0, cells := 0, slots := 0, locals := 0 } : Room).cells ({ frames := 0, cells := 0, slots := 0, locals := 0 } : Room).slots) := by
  refine MetFree.of_bodySF (plainFor_of_name pn_0) hisR ?_
  intro p e s m args below meth c s₁ Bd hml0 hP hK
  obtain ⟨rfl, hZ, hh⟩ := hP
  have hx := Bd.exec
  have hby := Bd.bytes
  have hml : c.maxLocals = 5 := hml0
  have hown : s.vm.findClass "com/example/kontroller/kontroller/synthesis/StateGraphComplementPinLaw" = some m.cls := findClass_of_methodNamed Bd.named
  have hnm := (name_of_methodNamed Bd.named Bd.method).1
  have X0 : Stand p l e ({ frames := 0, cells := 0, slots := 0, locals := 0 } : Room) s m #[(.ref a), (.ref b), (.int x2), (.int x3)] below meth c s₁ [] 0 0 := Stand.of_body Bd
  have e0 : s₁.heap = h0 := by rw [← hh, Bd.state]; rfl
  have N0 := Fr.nil n0
  refine RunsTo.start (ef_rm3 m a b x2 x3) ?_
  show RunsTo p e below s s₁ (mkF m 0 #[.val (.ref a), .val (.ref b), .val (.int x2), .val (.int x3), .unset] []) (Q3 Z a b x2 x3 z fa fb h0 n0) ({ frames := 0, cells := 0, slots := 0, locals := 0 } : Room).cells ({ frames := 0, cells := 0, slots := 0, locals := 0 } : Room).slots
  refine RunsTo.of (T' := s₁) (g' := (mkF m 2 #[.val (.ref a), .val (.ref b), .val (.int x2), .val (.int x3), .unset] [(.ref a), (.int x2)])) (fun tgt_ kt => ?_) ?_
  · refine XS.iloadN X0.here hx rfl (hb hby d3_0) rfl ?_
    show Steps p.tables e below (s₁.setTop (mkF m 1 #[.val (.ref a), .val (.ref b), .val (.int x2), .val (.int x3), .unset] [(.int x2)])) _
    refine XS.aloadN X0.here hx rfl (hb hby d3_1) rfl rfl ?_
    show Steps p.tables e below (s₁.setTop (mkF m 2 #[.val (.ref a), .val (.ref b), .val (.int x2), .val (.int x3), .unset] [(.ref a), (.int x2)])) _
    exact kt
  obtain ⟨cl_a_1, Ar_a_1, S_a_1, M_a_1, H_a_1⟩ := id V_a
  refine RunsTo.of (T' := s₁) (g' := (mkF m 3 #[.val (.ref a), .val (.ref b), .val (.int x2), .val (.int x3), .unset] [(.int z), (.int x2)])) (fun tgt_ kt => ?_) ?_
  · refine X0.arraylength hx (by rw [e0]; exact Ar_a_1.1) (State.isArrayOf_alike hZ.alike Ar_a_1.2.1) (g := (mkF m 2 #[.val (.ref a), .val (.ref b), .val (.int x2), .val (.int x3), .unset] [(.ref a), (.int x2)])) rfl rfl (hb hby d3_2) _ ?_
    rw [len_of S_a_1 M_a_1]
    show Steps p.tables e below (s₁.setTop (mkF m 3 #[.val (.ref a), .val (.ref b), .val (.int x2), .val (.int x3), .unset] [(.int z), (.int x2)])) _
    exact kt
  by_cases hlt : x2 < z
  · refine RunsTo.of (T' := s₁) (g' := (mkF m 13 #[.val (.ref a), .val (.ref b), .val (.int x2), .val (.int x3), .unset] [(.int (((x3.toUInt32 >>> (x2 &&& 31).toUInt32).toInt32) &&& (1 : Int32)))])) (fun tgt_ kt => ?_) ?_
    · refine XS.icmpYes X0.here hx rfl (pc0 := 3) (pc' := 8) rfl (hb hby d3_3) rfl (tlt hlt).1 (by decide) (by decide) ?_
      show Steps p.tables e below (s₁.setTop (mkF m 8 #[.val (.ref a), .val (.ref b), .val (.int x2), .val (.int x3), .unset] [])) _
      refine XS.iloadN X0.here hx rfl (hb hby d3_8) rfl ?_
      show Steps p.tables e below (s₁.setTop (mkF m 9 #[.val (.ref a), .val (.ref b), .val (.int x2), .val (.int x3), .unset] [(.int x3)])) _
      refine XS.iloadN X0.here hx rfl (hb hby d3_9) rfl ?_
      show Steps p.tables e below (s₁.setTop (mkF m 10 #[.val (.ref a), .val (.ref b), .val (.int x2), .val (.int x3), .unset] [(.int x2), (.int x3)])) _
      refine XS.iushr X0.here hx rfl (hb hby d3_10) rfl ?_
      show Steps p.tables e below (s₁.setTop (mkF m 11 #[.val (.ref a), .val (.ref b), .val (.int x2), .val (.int x3), .unset] [(.int ((x3.toUInt32 >>> (x2 &&& 31).toUInt32).toInt32))])) _
      refine XS.iconst X0.here hx rfl (hb hby d3_11) ?_
      show Steps p.tables e below (s₁.setTop (mkF m 12 #[.val (.ref a), .val (.ref b), .val (.int x2), .val (.int x3), .unset] [(.int (1 : Int32)), (.int ((x3.toUInt32 >>> (x2 &&& 31).toUInt32).toInt32))])) _
      refine XS.iand X0.here hx rfl (hb hby d3_12) rfl ?_
      show Steps p.tables e below (s₁.setTop (mkF m 13 #[.val (.ref a), .val (.ref b), .val (.int x2), .val (.int x3), .unset] [(.int (((x3.toUInt32 >>> (x2 &&& 31).toUInt32).toInt32) &&& (1 : Int32)))])) _
      exact kt
    have hin : ¬ x2 < 0 ∧ x2 < z := ⟨by rw [Int32.lt_iff_toInt_lt]; show ¬ _ < (0 : Int); omega, hlt⟩
    obtain ⟨y, hy⟩ : ∃ z : Int32, z = (if (((x3.toUInt32 >>> (x2 &&& 31).toUInt32).toInt32) &&& (1 : Int32)) = (0 : Int32) then (0 : Int32) else (1 : Int32)) := ⟨_, rfl⟩
    refine RunsTo.of (T' := s₁) (g' := (mkF m 21 #[.val (.ref a), .val (.ref b), .val (.int x2), .val (.int x3), .unset] [(.int y)])) (fun tgt_ kt => ?_) ?_
    · by_cases hc13 : (((x3.toUInt32 >>> (x2 &&& 31).toUInt32).toInt32) &&& (1 : Int32)) = (0 : Int32)
      · refine XS.ifYes X0.here hx rfl (pc0 := 13) (pc' := 20) rfl (hb hby d3_13) rfl ((if0 _ _).trans (teq hc13).1) (by decide) (by decide) ?_
        show Steps p.tables e below (s₁.setTop (mkF m 20 #[.val (.ref a), .val (.ref b), .val (.int x2), .val (.int x3), .unset] [])) _
        try rw [if_pos hc13] at hy
        rw [hy] at kt
        refine XS.iconst X0.here hx rfl (hb hby d3_20) ?_
        show Steps p.tables e below (s₁.setTop (mkF m 21 #[.val (.ref a), .val (.ref b), .val (.int x2), .val (.int x3), .unset] [(.int (0 : Int32))])) _
        exact kt
      · refine XS.ifNo X0.here hx rfl (hb hby d3_13) rfl ((if0 _ _).trans (feq hc13).1) ?_
        show Steps p.tables e below (s₁.setTop (mkF m 16 #[.val (.ref a), .val (.ref b), .val (.int x2), .val (.int x3), .unset] [])) _
        try rw [if_neg hc13] at hy
        rw [hy] at kt
        refine XS.iconst X0.here hx rfl (hb hby d3_16) ?_
        show Steps p.tables e below (s₁.setTop (mkF m 17 #[.val (.ref a), .val (.ref b), .val (.int x2), .val (.int x3), .unset] [(.int (1 : Int32))])) _
        refine XS.goto X0.here hx rfl (pc0 := 17) (pc' := 21) rfl (hb hby d3_17) (by decide) (by decide) ?_
        show Steps p.tables e below (s₁.setTop (mkF m 21 #[.val (.ref a), .val (.ref b), .val (.int x2), .val (.int x3), .unset] [(.int (1 : Int32))])) _
        exact kt
    refine RunsTo.of (T' := s₁) (g' := (mkF m 25 #[.val (.ref a), .val (.ref b), .val (.int x2), .val (.int x3), .val (.int y)] [(.int x2), (.ref a)])) (fun tgt_ kt => ?_) ?_
    · refine XS.istore X0.here hx rfl (hb hby d3_21) rfl (l' := #[.val (.ref a), .val (.ref b), .val (.int x2), .val (.int x3), .val (.int y)]) rfl ?_
      show Steps p.tables e below (s₁.setTop (mkF m 23 #[.val (.ref a), .val (.ref b), .val (.int x2), .val (.int x3), .val (.int y)] [])) _
      refine XS.aloadN X0.here hx rfl (hb hby d3_23) rfl rfl ?_
      show Steps p.tables e below (s₁.setTop (mkF m 24 #[.val (.ref a), .val (.ref b), .val (.int x2), .val (.int x3), .val (.int y)] [(.ref a)])) _
      refine XS.iloadN X0.here hx rfl (hb hby d3_24) rfl ?_
      show Steps p.tables e below (s₁.setTop (mkF m 25 #[.val (.ref a), .val (.ref b), .val (.int x2), .val (.int x3), .val (.int y)] [(.int x2), (.ref a)])) _
      exact kt
    obtain ⟨cl_a_2, Ar_a_2, S_a_2, M_a_2, H_a_2⟩ := id V_a
    have hin_a_2 : ¬ (x2 < 0 ∨ cl_a_2.slots.size ≤ (x2).toNatClampNeg) := inb_of S_a_2 hin
    have hat_a_2 : cl_a_2.slots[(x2).toNatClampNeg]? = some (.int (own_bit x2 x3)) := (H_a_2 _ (Nat.lt_of_not_le fun y => hin_a_2 (Or.inr y))).trans (congrArg some (ha hlt))
    refine RunsTo.of (T' := s₁) (g' := (mkF m 26 #[.val (.ref a), .val (.ref b), .val (.int x2), .val (.int x3), .val (.int y)] [(.int (own_bit x2 x3))])) (fun tgt_ kt => ?_) ?_
    · refine X0.baloadBooleans hx (j := x2) (v := (.int (own_bit x2 x3))) (by rw [e0]; exact Ar_a_2.1) (State.isArrayOf_alike hZ.alike Ar_a_2.2.1) Ar_a_2.2.2 hin_a_2 hat_a_2 (g := (mkF m 25 #[.val (.ref a), .val (.ref b), .val (.int x2), .val (.int x3), .val (.int y)] [(.int x2), (.ref a)])) rfl rfl (hb hby d3_25) _ ?_
      show Steps p.tables e below (s₁.setTop (mkF m 26 #[.val (.ref a), .val (.ref b), .val (.int x2), .val (.int x3), .val (.int y)] [(.int (own_bit x2 x3))])) _
      exact kt
    refine RunsTo.of (T' := s₁) (g' := (mkF m 33 #[.val (.ref a), .val (.ref b), .val (.int x2), .val (.int x3), .val (.int y)] [(.int x2), (.ref b)])) (fun tgt_ kt => ?_) ?_
    · refine XS.iload X0.here hx rfl (hb hby d3_26) rfl ?_
      show Steps p.tables e below (s₁.setTop (mkF m 28 #[.val (.ref a), .val (.ref b), .val (.int x2), .val (.int x3), .val (.int y)] [(.int y), (.int (own_bit x2 x3))])) _
      refine XS.icmpNo X0.here hx rfl (hb hby d3_28) rfl (teq (show own_bit x2 x3 = y by rw [hy]; rfl)).2 ?_
      show Steps p.tables e below (s₁.setTop (mkF m 31 #[.val (.ref a), .val (.ref b), .val (.int x2), .val (.int x3), .val (.int y)] [])) _
      refine XS.aloadN X0.here hx rfl (hb hby d3_31) rfl rfl ?_
      show Steps p.tables e below (s₁.setTop (mkF m 32 #[.val (.ref a), .val (.ref b), .val (.int x2), .val (.int x3), .val (.int y)] [(.ref b)])) _
      refine XS.iloadN X0.here hx rfl (hb hby d3_32) rfl ?_
      show Steps p.tables e below (s₁.setTop (mkF m 33 #[.val (.ref a), .val (.ref b), .val (.int x2), .val (.int x3), .val (.int y)] [(.int x2), (.ref b)])) _
      exact kt
    obtain ⟨cl_b_3, Ar_b_3, S_b_3, M_b_3, H_b_3⟩ := id V_b
    have hin_b_3 : ¬ (x2 < 0 ∨ cl_b_3.slots.size ≤ (x2).toNatClampNeg) := inb_of S_b_3 hin
    have hat_b_3 : cl_b_3.slots[(x2).toNatClampNeg]? = some (.int (own_not (own_bit x2 x3))) := (H_b_3 _ (Nat.lt_of_not_le fun y => hin_b_3 (Or.inr y))).trans (congrArg some (hb' hlt))
    refine RunsTo.of (T' := s₁) (g' := (mkF m 34 #[.val (.ref a), .val (.ref b), .val (.int x2), .val (.int x3), .val (.int y)] [(.int (own_not (own_bit x2 x3)))])) (fun tgt_ kt => ?_) ?_
    · refine X0.baloadBooleans hx (j := x2) (v := (.int (own_not (own_bit x2 x3)))) (by rw [e0]; exact Ar_b_3.1) (State.isArrayOf_alike hZ.alike Ar_b_3.2.1) Ar_b_3.2.2 hin_b_3 hat_b_3 (g := (mkF m 33 #[.val (.ref a), .val (.ref b), .val (.int x2), .val (.int x3), .val (.int y)] [(.int x2), (.ref b)])) rfl rfl (hb hby d3_33) _ ?_
      show Steps p.tables e below (s₁.setTop (mkF m 34 #[.val (.ref a), .val (.ref b), .val (.int x2), .val (.int x3), .val (.int y)] [(.int (own_not (own_bit x2 x3)))])) _
      exact kt
    refine RunsTo.of (T' := s₁) (g' := (mkF m 36 #[.val (.ref a), .val (.ref b), .val (.int x2), .val (.int x3), .val (.int y)] [(.int y), (.int (own_not (own_bit x2 x3)))])) (fun tgt_ kt => ?_) ?_
    · refine XS.iload X0.here hx rfl (hb hby d3_34) rfl ?_
      show Steps p.tables e below (s₁.setTop (mkF m 36 #[.val (.ref a), .val (.ref b), .val (.int x2), .val (.int x3), .val (.int y)] [(.int y), (.int (own_not (own_bit x2 x3)))])) _
      exact kt
    obtain ⟨y2, hy2⟩ : ∃ z : Int32, z = (if y = (0 : Int32) then (1 : Int32) else (0 : Int32)) := ⟨_, rfl⟩
    refine RunsTo.of (T' := s₁) (g' := (mkF m 44 #[.val (.ref a), .val (.ref b), .val (.int x2), .val (.int x3), .val (.int y)] [(.int y2), (.int (own_not (own_bit x2 x3)))])) (fun tgt_ kt => ?_) ?_
    · by_cases hc36 : y = (0 : Int32)
      · refine XS.ifNo X0.here hx rfl (hb hby d3_36) rfl ((if0 _ _).trans (teq hc36).2) ?_
        show Steps p.tables e below (s₁.setTop (mkF m 39 #[.val (.ref a), .val (.ref b), .val (.int x2), .val (.int x3), .val (.int y)] [(.int (own_not (own_bit x2 x3)))])) _
        try rw [if_pos hc36] at hy2
        rw [hy2] at kt
        refine XS.iconst X0.here hx rfl (hb hby d3_39) ?_
        show Steps p.tables e below (s₁.setTop (mkF m 40 #[.val (.ref a), .val (.ref b), .val (.int x2), .val (.int x3), .val (.int y)] [(.int (1 : Int32)), (.int (own_not (own_bit x2 x3)))])) _
        refine XS.goto X0.here hx rfl (pc0 := 40) (pc' := 44) rfl (hb hby d3_40) (by decide) (by decide) ?_
        show Steps p.tables e below (s₁.setTop (mkF m 44 #[.val (.ref a), .val (.ref b), .val (.int x2), .val (.int x3), .val (.int y)] [(.int (1 : Int32)), (.int (own_not (own_bit x2 x3)))])) _
        exact kt
      · refine XS.ifYes X0.here hx rfl (pc0 := 36) (pc' := 43) rfl (hb hby d3_36) rfl ((if0 _ _).trans (feq hc36).2) (by decide) (by decide) ?_
        show Steps p.tables e below (s₁.setTop (mkF m 43 #[.val (.ref a), .val (.ref b), .val (.int x2), .val (.int x3), .val (.int y)] [(.int (own_not (own_bit x2 x3)))])) _
        try rw [if_neg hc36] at hy2
        rw [hy2] at kt
        refine XS.iconst X0.here hx rfl (hb hby d3_43) ?_
        show Steps p.tables e below (s₁.setTop (mkF m 44 #[.val (.ref a), .val (.ref b), .val (.int x2), .val (.int x3), .val (.int y)] [(.int (0 : Int32)), (.int (own_not (own_bit x2 x3)))])) _
        exact kt
    refine RunsTo.of (T' := s₁) (g' := (mkF m 52 #[.val (.ref a), .val (.ref b), .val (.int x2), .val (.int x3), .val (.int y)] [(.int (1 : Int32))])) (fun tgt_ kt => ?_) ?_
    · refine XS.icmpNo X0.here hx rfl (hb hby d3_44) rfl (teq (show own_not (own_bit x2 x3) = y2 by rw [hy2, hy]; rfl)).2 ?_
      show Steps p.tables e below (s₁.setTop (mkF m 47 #[.val (.ref a), .val (.ref b), .val (.int x2), .val (.int x3), .val (.int y)] [])) _
      refine XS.iconst X0.here hx rfl (hb hby d3_47) ?_
      show Steps p.tables e below (s₁.setTop (mkF m 48 #[.val (.ref a), .val (.ref b), .val (.int x2), .val (.int x3), .val (.int y)] [(.int (1 : Int32))])) _
      refine XS.goto X0.here hx rfl (pc0 := 48) (pc' := 52) rfl (hb hby d3_48) (by decide) (by decide) ?_
      show Steps p.tables e below (s₁.setTop (mkF m 52 #[.val (.ref a), .val (.ref b), .val (.int x2), .val (.int x3), .val (.int y)] [(.int (1 : Int32))])) _
      exact kt
    refine RunsTo.retN X0 hx (t := .boolean) Bd.returns (by simp) Bd.notSynchronized (hb hby d3_52) ?_ (by decide) (by decide)
    rw [e0]
    exact ⟨rfl, N0, rfl⟩
  · refine RunsTo.of (T' := s₁) (g' := (mkF m 7 #[.val (.ref a), .val (.ref b), .val (.int x2), .val (.int x3), .unset] [(.int (1 : Int32))])) (fun tgt_ kt => ?_) ?_
    · refine XS.icmpNo X0.here hx rfl (hb hby d3_3) rfl (flt hlt).1 ?_
      show Steps p.tables e below (s₁.setTop (mkF m 6 #[.val (.ref a), .val (.ref b), .val (.int x2), .val (.int x3), .unset] [])) _
      refine XS.iconst X0.here hx rfl (hb hby d3_6) ?_
      show Steps p.tables e below (s₁.setTop (mkF m 7 #[.val (.ref a), .val (.ref b), .val (.int x2), .val (.int x3), .unset] [(.int (1 : Int32))])) _
      exact kt
    refine RunsTo.retN X0 hx (t := .boolean) Bd.returns (by simp) Bd.notSynchronized (hb hby d3_7) ?_ (by decide) (by decide)
    rw [e0]
    exact ⟨rfl, N0, rfl⟩
theorem pd_0 : parseMethodDescriptor "([ZII)V" = some ⟨[(.array .boolean), .int, .int], none⟩ := by decide +kernel
theorem pd_1 : parseMethodDescriptor "([Z)[Z" = some ⟨[(.array .boolean)], some (.array .boolean)⟩ := by decide +kernel
theorem pd_2 : parseMethodDescriptor "([Z[ZII)Z" = some ⟨[(.array .boolean), (.array .boolean), .int, .int], some .boolean⟩ := by decide +kernel
theorem ef_rm0 (m : MethodId) (x0 : Int32) (x1 : Int32) : entryFrame m #[(.int x0), (.int x1)] maxLocals = mkF m 0 #[.val (.int x0), .val (.int x1), .unset, .unset, .unset] [] := by first | (simp [entryFrame, mkF, argsToLocals, Value.category, maxLocals]; done) | rfl
def Q0 (Z : State) (x0 : Int32) (x1 : Int32) (h0 : Heap) (n0 : Nat) (v : Option Value) (h : Heap) (L : List Loc) : Prop := v = some (.int 1) ∧ Fr n0 L
set_option maxRecDepth 65536 in
set_option maxHeartbeats 40000000 in
theorem rm0 (l : Launch) (Z : State) (a0 : Array Value) (hw : ∀ d ∈ tables_1, d.before a0 Z = true) (ws : List Jvm.Cond) (x0 : Int32) (x1 : Int32) (h0 : Heap) (n0 : Nat) (Z0 : n0 ≤ h0.size)  :
    MetFree l x (head1 (Jvm.Cond.code x code maxLocals ret :: ws) room_1) (fun as' U => as' = #[(.int x0), (.int x1)] ∧ Z.Warmed39 U.vm ∧ U.heap = h0) (fun _ _ _ _ _ => True) (fun _ U_ o_ U'_ => ∃ v_ L_, o_ = .returned v_ ∧ Q0 Z x0 x1 h0 n0 v_ U'_.heap L_ ∧ FrameEnd U_ o_ U'_ L_ room_1.cells room_1.slots) := by
  refine MetFree.of_bodySF (plainFor_of_name pn_0) hisR ?_
  intro p e s m args below meth c s₁ Bd hml0 hP hK
  obtain ⟨rfl, hZ, hh⟩ := hP
  have hx := Bd.exec
  have hby := Bd.bytes
  have hml : c.maxLocals = 5 := hml0
  have hown : s.vm.findClass "com/example/kontroller/kontroller/synthesis/StateGraphComplementPinLaw" = some m.cls := findClass_of_methodNamed Bd.named
  have hnm := (name_of_methodNamed Bd.named Bd.method).1
  have X0 : Stand p l e room_1 s m #[(.int x0), (.int x1)] below meth c s₁ [] 0 0 := Stand.of_body Bd
  have e0 : s₁.heap = h0 := by rw [← hh, Bd.state]; rfl
  have N0 := Fr.nil n0
  refine RunsTo.start (ef_rm0 m x0 x1) ?_
  show RunsTo p e below s s₁ (mkF m 0 #[.val (.int x0), .val (.int x1), .unset, .unset, .unset] []) (Q0 Z x0 x1 h0 n0) room_1.cells room_1.slots
  refine RunsTo.of (T' := s₁) (g' := (mkF m 8 #[.val (.int x0), .val (.int x1), .val (.int ((x0 &&& (2147483647 : Int32)) % (9 : Int32))), .unset, .unset] [])) (fun tgt_ kt => ?_) ?_
  · refine XS.iloadN X0.here hx rfl (hb hby at_0) rfl ?_
    show Steps p.tables e below (s₁.setTop (mkF m 1 #[.val (.int x0), .val (.int x1), .unset, .unset, .unset] [(.int x0)])) _
    refine X0.ldcInt hx hown (mvT hZ (hw _ (List.mem_of_getElem? (i := 0) rfl))) (g := (mkF m 1 #[.val (.int x0), .val (.int x1), .unset, .unset, .unset] [(.int x0)])) rfl (hb hby at_1) _ ?_
    show Steps p.tables e below (s₁.setTop (mkF m 3 #[.val (.int x0), .val (.int x1), .unset, .unset, .unset] [(.int (2147483647 : Int32)), (.int x0)])) _
    refine XS.iand X0.here hx rfl (hb hby at_3) rfl ?_
    show Steps p.tables e below (s₁.setTop (mkF m 4 #[.val (.int x0), .val (.int x1), .unset, .unset, .unset] [(.int (x0 &&& (2147483647 : Int32)))])) _
    refine XS.bipush X0.here hx rfl (hb hby at_4) ?_
    show Steps p.tables e below (s₁.setTop (mkF m 6 #[.val (.int x0), .val (.int x1), .unset, .unset, .unset] [(.int (9 : Int32)), (.int (x0 &&& (2147483647 : Int32)))])) _
    refine XS.irem X0.here hx rfl (hb hby at_6) rfl (by decide) ?_
    rw [irem_eq_mod]
    show Steps p.tables e below (s₁.setTop (mkF m 7 #[.val (.int x0), .val (.int x1), .unset, .unset, .unset] [(.int ((x0 &&& (2147483647 : Int32)) % (9 : Int32)))])) _
    refine XS.istoreN X0.here hx rfl (hb hby at_7) rfl (l' := #[.val (.int x0), .val (.int x1), .val (.int ((x0 &&& (2147483647 : Int32)) % (9 : Int32))), .unset, .unset]) rfl ?_
    show Steps p.tables e below (s₁.setTop (mkF m 8 #[.val (.int x0), .val (.int x1), .val (.int ((x0 &&& (2147483647 : Int32)) % (9 : Int32))), .unset, .unset] [])) _
    exact kt
  obtain ⟨zz, hzz⟩ : ∃ z : Int32, z = ((x0 &&& (2147483647 : Int32)) % (9 : Int32)) := ⟨_, rfl⟩
  rw [← hzz]
  have hz : 0 ≤ zz.toInt ∧ zz.toInt ≤ 8 := by rw [hzz]; exact own_nine x0
  clear hzz
  have hzn : ¬ zz < 0 := by rw [Int32.lt_iff_toInt_lt]; show ¬ _ < (0 : Int); omega
  have hnz := own_nat zz hz.1
  refine RunsTo.of (T' := s₁) (g' := (mkF m 9 #[.val (.int x0), .val (.int x1), .val (.int zz), .unset, .unset] [(.int zz)])) (fun tgt_ kt => ?_) ?_
  · refine XS.iloadN X0.here hx rfl (hb hby at_8) rfl ?_
    show Steps p.tables e below (s₁.setTop (mkF m 9 #[.val (.int x0), .val (.int x1), .val (.int zz), .unset, .unset] [(.int zz)])) _
    exact kt
  obtain ⟨T1, h1, k1, X1, e1, E1, A1, st1⟩ := newP X0 hx hZ (hw _ (List.mem_of_getElem? (i := 1) rfl)) e0 (g := (mkF m 9 #[.val (.int x0), .val (.int x1), .val (.int zz), .unset, .unset] [(.int zz)])) rfl (hb hby at_9) rfl hzn (cap := 8) (by omega) (by decide) (by decide) (by decide)
  obtain ⟨a, g1⟩ : ∃ z, z = h0.size := ⟨_, rfl⟩
  rw [← g1] at A1 st1
  have Z1 : n0 ≤ h1.size := Nat.le_trans Z0 E1.1
  have g_a : n0 ≤ a := Nat.le_trans Z0 (Nat.le_of_eq g1.symm)
  have V_a : Arf Z h1 a .boolean zz (fun _ => (Value.int (0 : Int32))) := Arf.new A1 hzn
  refine RunsTo.of (T' := T1) (g' := (mkF m 11 #[.val (.int x0), .val (.int x1), .val (.int zz), .unset, .unset] [(.ref a)])) st1 ?_
  refine RunsTo.of (T' := T1) (g' := (mkF m 15 #[.val (.int x0), .val (.int x1), .val (.int zz), .val (.ref a), .unset] [(.int x1), (.int (0 : Int32)), (.ref a)])) (fun tgt_ kt => ?_) ?_
  · refine XS.astoreN X1.here hx rfl (hb hby at_11) rfl rfl (l' := #[.val (.int x0), .val (.int x1), .val (.int zz), .val (.ref a), .unset]) rfl ?_
    show Steps p.tables e below (T1.setTop (mkF m 12 #[.val (.int x0), .val (.int x1), .val (.int zz), .val (.ref a), .unset] [])) _
    refine XS.aloadN X1.here hx rfl (hb hby at_12) rfl rfl ?_
    show Steps p.tables e below (T1.setTop (mkF m 13 #[.val (.int x0), .val (.int x1), .val (.int zz), .val (.ref a), .unset] [(.ref a)])) _
    refine XS.iconst X1.here hx rfl (hb hby at_13) ?_
    show Steps p.tables e below (T1.setTop (mkF m 14 #[.val (.int x0), .val (.int x1), .val (.int zz), .val (.ref a), .unset] [(.int (0 : Int32)), (.ref a)])) _
    refine XS.iloadN X1.here hx rfl (hb hby at_14) rfl ?_
    show Steps p.tables e below (T1.setTop (mkF m 15 #[.val (.int x0), .val (.int x1), .val (.int zz), .val (.ref a), .unset] [(.int x1), (.int (0 : Int32)), (.ref a)])) _
    exact kt
  obtain ⟨_, _, ⟨T2, L2, k2, n2⟩, -, X2, ⟨Lc2, hQ2, l2, y2, z2⟩, st2⟩ := Jvm.LawKit.callS X1 hx (y := (⟨"com/example/kontroller/kontroller/synthesis/StateGraphComplementPinLaw", "put", "([ZII)V"⟩ : MethodName)) hown (mvT hZ (hw _ (List.mem_of_getElem? (i := 2) rfl))) (mvT hZ (hw _ (List.mem_of_getElem? (i := 3) rfl))) (mvT hZ (hw _ (List.mem_of_getElem? (i := 4) rfl))) (mvT hZ (hw _ (List.mem_of_getElem? (i := 5) rfl))) (by decide) (backOf (W := 0) (rm1 l Z a0 hw [] a (0 : Int32) x1 zz (fun _ => (Value.int (0 : Int32))) h1 n0 Z1 V_a g_a (by decide)) hZ (hw _ (List.mem_of_getElem? (i := 5) rfl)) (hw _ (List.mem_of_getElem? (i := 4) rfl)) (by decide) (by decide)) (g := (mkF m 15 #[.val (.int x0), .val (.int x1), .val (.int zz), .val (.ref a), .unset] [(.int x1), (.int (0 : Int32)), (.ref a)])) rfl (by rw [hml]; rfl) (argsL := [(.ref a), (.int (0 : Int32)), (.int x1)]) (rest := []) (lenOf pd_0 rfl) rfl (by show 2 * 0 + _ ≤ _; exact Nat.le_of_eq rfl) (hb hby at_15) (fun _ _ => ⟨rfl, e1, (by decide : 1 + 0 ≤ _), (by decide : 8 + 0 ≤ _)⟩)
  dsimp only [Pt.U, Pt.locs, Pt.cells, Pt.slots] at X2 l2 y2 z2 st2 hQ2
  subst l2 y2 z2
  obtain ⟨rfl, N2q, K2, V_a⟩ := hQ2
  have N2 := Fr.app N0 N2q
  have Z2 : n0 ≤ T2.heap.size := Nat.le_trans Z1 K2.1
  refine RunsTo.of (T' := T2) (g' := (mkF m 18 #[.val (.int x0), .val (.int x1), .val (.int zz), .val (.ref a), .unset] [])) st2 ?_
  refine RunsTo.of (T' := T2) (g' := (mkF m 21 #[.val (.int x0), .val (.int x1), .val (.int zz), .val (.ref a), .unset] [(.int x1), (.int (1 : Int32)), (.ref a)])) (fun tgt_ kt => ?_) ?_
  · refine XS.aloadN X2.here hx rfl (hb hby at_18) rfl rfl ?_
    show Steps p.tables e below (T2.setTop (mkF m 19 #[.val (.int x0), .val (.int x1), .val (.int zz), .val (.ref a), .unset] [(.ref a)])) _
    refine XS.iconst X2.here hx rfl (hb hby at_19) ?_
    show Steps p.tables e below (T2.setTop (mkF m 20 #[.val (.int x0), .val (.int x1), .val (.int zz), .val (.ref a), .unset] [(.int (1 : Int32)), (.ref a)])) _
    refine XS.iloadN X2.here hx rfl (hb hby at_20) rfl ?_
    show Steps p.tables e below (T2.setTop (mkF m 21 #[.val (.int x0), .val (.int x1), .val (.int zz), .val (.ref a), .unset] [(.int x1), (.int (1 : Int32)), (.ref a)])) _
    exact kt
  obtain ⟨_, _, ⟨T3, L3, k3, n3⟩, -, X3, ⟨Lc3, hQ3, l3, y3, z3⟩, st3⟩ := Jvm.LawKit.callS X2 hx (y := (⟨"com/example/kontroller/kontroller/synthesis/StateGraphComplementPinLaw", "put", "([ZII)V"⟩ : MethodName)) hown (mvT hZ (hw _ (List.mem_of_getElem? (i := 2) rfl))) (mvT hZ (hw _ (List.mem_of_getElem? (i := 3) rfl))) (mvT hZ (hw _ (List.mem_of_getElem? (i := 4) rfl))) (mvT hZ (hw _ (List.mem_of_getElem? (i := 5) rfl))) (by decide) (backOf (W := 0) (rm1 l Z a0 hw [] a (1 : Int32) x1 zz (fun j => if j = (0 : Int32).toNatClampNeg then .int (own_bit (0 : Int32) x1) else (fun _ => (Value.int (0 : Int32))) j) T2.heap n0 Z2 V_a g_a (by decide)) hZ (hw _ (List.mem_of_getElem? (i := 5) rfl)) (hw _ (List.mem_of_getElem? (i := 4) rfl)) (by decide) (by decide)) (g := (mkF m 21 #[.val (.int x0), .val (.int x1), .val (.int zz), .val (.ref a), .unset] [(.int x1), (.int (1 : Int32)), (.ref a)])) rfl (by rw [hml]; rfl) (argsL := [(.ref a), (.int (1 : Int32)), (.int x1)]) (rest := []) (lenOf pd_0 rfl) rfl (by show 2 * 0 + _ ≤ _; exact Nat.le_of_eq rfl) (hb hby at_21) (fun _ _ => ⟨rfl, rfl, (by decide : 1 + 0 ≤ _), (by decide : 8 + 0 ≤ _)⟩)
  dsimp only [Pt.U, Pt.locs, Pt.cells, Pt.slots] at X3 l3 y3 z3 st3 hQ3
  subst l3 y3 z3
  obtain ⟨rfl, N3q, K3, V_a⟩ := hQ3
  have N3 := Fr.app N2 N3q
  have Z3 : n0 ≤ T3.heap.size := Nat.le_trans Z2 K3.1
  refine RunsTo.of (T' := T3) (g' := (mkF m 24 #[.val (.int x0), .val (.int x1), .val (.int zz), .val (.ref a), .unset] [])) st3 ?_
  refine RunsTo.of (T' := T3) (g' := (mkF m 27 #[.val (.int x0), .val (.int x1), .val (.int zz), .val (.ref a), .unset] [(.int x1), (.int (2 : Int32)), (.ref a)])) (fun tgt_ kt => ?_) ?_
  · refine XS.aloadN X3.here hx rfl (hb hby at_24) rfl rfl ?_
    show Steps p.tables e below (T3.setTop (mkF m 25 #[.val (.int x0), .val (.int x1), .val (.int zz), .val (.ref a), .unset] [(.ref a)])) _
    refine XS.iconst X3.here hx rfl (hb hby at_25) ?_
    show Steps p.tables e below (T3.setTop (mkF m 26 #[.val (.int x0), .val (.int x1), .val (.int zz), .val (.ref a), .unset] [(.int (2 : Int32)), (.ref a)])) _
    refine XS.iloadN X3.here hx rfl (hb hby at_26) rfl ?_
    show Steps p.tables e below (T3.setTop (mkF m 27 #[.val (.int x0), .val (.int x1), .val (.int zz), .val (.ref a), .unset] [(.int x1), (.int (2 : Int32)), (.ref a)])) _
    exact kt
  obtain ⟨_, _, ⟨T4, L4, k4, n4⟩, -, X4, ⟨Lc4, hQ4, l4, y4, z4⟩, st4⟩ := Jvm.LawKit.callS X3 hx (y := (⟨"com/example/kontroller/kontroller/synthesis/StateGraphComplementPinLaw", "put", "([ZII)V"⟩ : MethodName)) hown (mvT hZ (hw _ (List.mem_of_getElem? (i := 2) rfl))) (mvT hZ (hw _ (List.mem_of_getElem? (i := 3) rfl))) (mvT hZ (hw _ (List.mem_of_getElem? (i := 4) rfl))) (mvT hZ (hw _ (List.mem_of_getElem? (i := 5) rfl))) (by decide) (backOf (W := 0) (rm1 l Z a0 hw [] a (2 : Int32) x1 zz (fun j => if j = (1 : Int32).toNatClampNeg then .int (own_bit (1 : Int32) x1) else (fun j => if j = (0 : Int32).toNatClampNeg then .int (own_bit (0 : Int32) x1) else (fun _ => (Value.int (0 : Int32))) j) j) T3.heap n0 Z3 V_a g_a (by decide)) hZ (hw _ (List.mem_of_getElem? (i := 5) rfl)) (hw _ (List.mem_of_getElem? (i := 4) rfl)) (by decide) (by decide)) (g := (mkF m 27 #[.val (.int x0), .val (.int x1), .val (.int zz), .val (.ref a), .unset] [(.int x1), (.int (2 : Int32)), (.ref a)])) rfl (by rw [hml]; rfl) (argsL := [(.ref a), (.int (2 : Int32)), (.int x1)]) (rest := []) (lenOf pd_0 rfl) rfl (by show 2 * 0 + _ ≤ _; exact Nat.le_of_eq rfl) (hb hby at_27) (fun _ _ => ⟨rfl, rfl, (by decide : 1 + 0 ≤ _), (by decide : 8 + 0 ≤ _)⟩)
  dsimp only [Pt.U, Pt.locs, Pt.cells, Pt.slots] at X4 l4 y4 z4 st4 hQ4
  subst l4 y4 z4
  obtain ⟨rfl, N4q, K4, V_a⟩ := hQ4
  have N4 := Fr.app N3 N4q
  have Z4 : n0 ≤ T4.heap.size := Nat.le_trans Z3 K4.1
  refine RunsTo.of (T' := T4) (g' := (mkF m 30 #[.val (.int x0), .val (.int x1), .val (.int zz), .val (.ref a), .unset] [])) st4 ?_
  refine RunsTo.of (T' := T4) (g' := (mkF m 33 #[.val (.int x0), .val (.int x1), .val (.int zz), .val (.ref a), .unset] [(.int x1), (.int (3 : Int32)), (.ref a)])) (fun tgt_ kt => ?_) ?_
  · refine XS.aloadN X4.here hx rfl (hb hby at_30) rfl rfl ?_
    show Steps p.tables e below (T4.setTop (mkF m 31 #[.val (.int x0), .val (.int x1), .val (.int zz), .val (.ref a), .unset] [(.ref a)])) _
    refine XS.iconst X4.here hx rfl (hb hby at_31) ?_
    show Steps p.tables e below (T4.setTop (mkF m 32 #[.val (.int x0), .val (.int x1), .val (.int zz), .val (.ref a), .unset] [(.int (3 : Int32)), (.ref a)])) _
    refine XS.iloadN X4.here hx rfl (hb hby at_32) rfl ?_
    show Steps p.tables e below (T4.setTop (mkF m 33 #[.val (.int x0), .val (.int x1), .val (.int zz), .val (.ref a), .unset] [(.int x1), (.int (3 : Int32)), (.ref a)])) _
    exact kt
  obtain ⟨_, _, ⟨T5, L5, k5, n5⟩, -, X5, ⟨Lc5, hQ5, l5, y5, z5⟩, st5⟩ := Jvm.LawKit.callS X4 hx (y := (⟨"com/example/kontroller/kontroller/synthesis/StateGraphComplementPinLaw", "put", "([ZII)V"⟩ : MethodName)) hown (mvT hZ (hw _ (List.mem_of_getElem? (i := 2) rfl))) (mvT hZ (hw _ (List.mem_of_getElem? (i := 3) rfl))) (mvT hZ (hw _ (List.mem_of_getElem? (i := 4) rfl))) (mvT hZ (hw _ (List.mem_of_getElem? (i := 5) rfl))) (by decide) (backOf (W := 0) (rm1 l Z a0 hw [] a (3 : Int32) x1 zz (fun j => if j = (2 : Int32).toNatClampNeg then .int (own_bit (2 : Int32) x1) else (fun j => if j = (1 : Int32).toNatClampNeg then .int (own_bit (1 : Int32) x1) else (fun j => if j = (0 : Int32).toNatClampNeg then .int (own_bit (0 : Int32) x1) else (fun _ => (Value.int (0 : Int32))) j) j) j) T4.heap n0 Z4 V_a g_a (by decide)) hZ (hw _ (List.mem_of_getElem? (i := 5) rfl)) (hw _ (List.mem_of_getElem? (i := 4) rfl)) (by decide) (by decide)) (g := (mkF m 33 #[.val (.int x0), .val (.int x1), .val (.int zz), .val (.ref a), .unset] [(.int x1), (.int (3 : Int32)), (.ref a)])) rfl (by rw [hml]; rfl) (argsL := [(.ref a), (.int (3 : Int32)), (.int x1)]) (rest := []) (lenOf pd_0 rfl) rfl (by show 2 * 0 + _ ≤ _; exact Nat.le_of_eq rfl) (hb hby at_33) (fun _ _ => ⟨rfl, rfl, (by decide : 1 + 0 ≤ _), (by decide : 8 + 0 ≤ _)⟩)
  dsimp only [Pt.U, Pt.locs, Pt.cells, Pt.slots] at X5 l5 y5 z5 st5 hQ5
  subst l5 y5 z5
  obtain ⟨rfl, N5q, K5, V_a⟩ := hQ5
  have N5 := Fr.app N4 N5q
  have Z5 : n0 ≤ T5.heap.size := Nat.le_trans Z4 K5.1
  refine RunsTo.of (T' := T5) (g' := (mkF m 36 #[.val (.int x0), .val (.int x1), .val (.int zz), .val (.ref a), .unset] [])) st5 ?_
  refine RunsTo.of (T' := T5) (g' := (mkF m 39 #[.val (.int x0), .val (.int x1), .val (.int zz), .val (.ref a), .unset] [(.int x1), (.int (4 : Int32)), (.ref a)])) (fun tgt_ kt => ?_) ?_
  · refine XS.aloadN X5.here hx rfl (hb hby at_36) rfl rfl ?_
    show Steps p.tables e below (T5.setTop (mkF m 37 #[.val (.int x0), .val (.int x1), .val (.int zz), .val (.ref a), .unset] [(.ref a)])) _
    refine XS.iconst X5.here hx rfl (hb hby at_37) ?_
    show Steps p.tables e below (T5.setTop (mkF m 38 #[.val (.int x0), .val (.int x1), .val (.int zz), .val (.ref a), .unset] [(.int (4 : Int32)), (.ref a)])) _
    refine XS.iloadN X5.here hx rfl (hb hby at_38) rfl ?_
    show Steps p.tables e below (T5.setTop (mkF m 39 #[.val (.int x0), .val (.int x1), .val (.int zz), .val (.ref a), .unset] [(.int x1), (.int (4 : Int32)), (.ref a)])) _
    exact kt
  obtain ⟨_, _, ⟨T6, L6, k6, n6⟩, -, X6, ⟨Lc6, hQ6, l6, y6, z6⟩, st6⟩ := Jvm.LawKit.callS X5 hx (y := (⟨"com/example/kontroller/kontroller/synthesis/StateGraphComplementPinLaw", "put", "([ZII)V"⟩ : MethodName)) hown (mvT hZ (hw _ (List.mem_of_getElem? (i := 2) rfl))) (mvT hZ (hw _ (List.mem_of_getElem? (i := 3) rfl))) (mvT hZ (hw _ (List.mem_of_getElem? (i := 4) rfl))) (mvT hZ (hw _ (List.mem_of_getElem? (i := 5) rfl))) (by decide) (backOf (W := 0) (rm1 l Z a0 hw [] a (4 : Int32) x1 zz (fun j => if j = (3 : Int32).toNatClampNeg then .int (own_bit (3 : Int32) x1) else (fun j => if j = (2 : Int32).toNatClampNeg then .int (own_bit (2 : Int32) x1) else (fun j => if j = (1 : Int32).toNatClampNeg then .int (own_bit (1 : Int32) x1) else (fun j => if j = (0 : Int32).toNatClampNeg then .int (own_bit (0 : Int32) x1) else (fun _ => (Value.int (0 : Int32))) j) j) j) j) T5.heap n0 Z5 V_a g_a (by decide)) hZ (hw _ (List.mem_of_getElem? (i := 5) rfl)) (hw _ (List.mem_of_getElem? (i := 4) rfl)) (by decide) (by decide)) (g := (mkF m 39 #[.val (.int x0), .val (.int x1), .val (.int zz), .val (.ref a), .unset] [(.int x1), (.int (4 : Int32)), (.ref a)])) rfl (by rw [hml]; rfl) (argsL := [(.ref a), (.int (4 : Int32)), (.int x1)]) (rest := []) (lenOf pd_0 rfl) rfl (by show 2 * 0 + _ ≤ _; exact Nat.le_of_eq rfl) (hb hby at_39) (fun _ _ => ⟨rfl, rfl, (by decide : 1 + 0 ≤ _), (by decide : 8 + 0 ≤ _)⟩)
  dsimp only [Pt.U, Pt.locs, Pt.cells, Pt.slots] at X6 l6 y6 z6 st6 hQ6
  subst l6 y6 z6
  obtain ⟨rfl, N6q, K6, V_a⟩ := hQ6
  have N6 := Fr.app N5 N6q
  have Z6 : n0 ≤ T6.heap.size := Nat.le_trans Z5 K6.1
  refine RunsTo.of (T' := T6) (g' := (mkF m 42 #[.val (.int x0), .val (.int x1), .val (.int zz), .val (.ref a), .unset] [])) st6 ?_
  refine RunsTo.of (T' := T6) (g' := (mkF m 45 #[.val (.int x0), .val (.int x1), .val (.int zz), .val (.ref a), .unset] [(.int x1), (.int (5 : Int32)), (.ref a)])) (fun tgt_ kt => ?_) ?_
  · refine XS.aloadN X6.here hx rfl (hb hby at_42) rfl rfl ?_
    show Steps p.tables e below (T6.setTop (mkF m 43 #[.val (.int x0), .val (.int x1), .val (.int zz), .val (.ref a), .unset] [(.ref a)])) _
    refine XS.iconst X6.here hx rfl (hb hby at_43) ?_
    show Steps p.tables e below (T6.setTop (mkF m 44 #[.val (.int x0), .val (.int x1), .val (.int zz), .val (.ref a), .unset] [(.int (5 : Int32)), (.ref a)])) _
    refine XS.iloadN X6.here hx rfl (hb hby at_44) rfl ?_
    show Steps p.tables e below (T6.setTop (mkF m 45 #[.val (.int x0), .val (.int x1), .val (.int zz), .val (.ref a), .unset] [(.int x1), (.int (5 : Int32)), (.ref a)])) _
    exact kt
  obtain ⟨_, _, ⟨T7, L7, k7, n7⟩, -, X7, ⟨Lc7, hQ7, l7, y7, z7⟩, st7⟩ := Jvm.LawKit.callS X6 hx (y := (⟨"com/example/kontroller/kontroller/synthesis/StateGraphComplementPinLaw", "put", "([ZII)V"⟩ : MethodName)) hown (mvT hZ (hw _ (List.mem_of_getElem? (i := 2) rfl))) (mvT hZ (hw _ (List.mem_of_getElem? (i := 3) rfl))) (mvT hZ (hw _ (List.mem_of_getElem? (i := 4) rfl))) (mvT hZ (hw _ (List.mem_of_getElem? (i := 5) rfl))) (by decide) (backOf (W := 0) (rm1 l Z a0 hw [] a (5 : Int32) x1 zz (fun j => if j = (4 : Int32).toNatClampNeg then .int (own_bit (4 : Int32) x1) else (fun j => if j = (3 : Int32).toNatClampNeg then .int (own_bit (3 : Int32) x1) else (fun j => if j = (2 : Int32).toNatClampNeg then .int (own_bit (2 : Int32) x1) else (fun j => if j = (1 : Int32).toNatClampNeg then .int (own_bit (1 : Int32) x1) else (fun j => if j = (0 : Int32).toNatClampNeg then .int (own_bit (0 : Int32) x1) else (fun _ => (Value.int (0 : Int32))) j) j) j) j) j) T6.heap n0 Z6 V_a g_a (by decide)) hZ (hw _ (List.mem_of_getElem? (i := 5) rfl)) (hw _ (List.mem_of_getElem? (i := 4) rfl)) (by decide) (by decide)) (g := (mkF m 45 #[.val (.int x0), .val (.int x1), .val (.int zz), .val (.ref a), .unset] [(.int x1), (.int (5 : Int32)), (.ref a)])) rfl (by rw [hml]; rfl) (argsL := [(.ref a), (.int (5 : Int32)), (.int x1)]) (rest := []) (lenOf pd_0 rfl) rfl (by show 2 * 0 + _ ≤ _; exact Nat.le_of_eq rfl) (hb hby at_45) (fun _ _ => ⟨rfl, rfl, (by decide : 1 + 0 ≤ _), (by decide : 8 + 0 ≤ _)⟩)
  dsimp only [Pt.U, Pt.locs, Pt.cells, Pt.slots] at X7 l7 y7 z7 st7 hQ7
  subst l7 y7 z7
  obtain ⟨rfl, N7q, K7, V_a⟩ := hQ7
  have N7 := Fr.app N6 N7q
  have Z7 : n0 ≤ T7.heap.size := Nat.le_trans Z6 K7.1
  refine RunsTo.of (T' := T7) (g' := (mkF m 48 #[.val (.int x0), .val (.int x1), .val (.int zz), .val (.ref a), .unset] [])) st7 ?_
  refine RunsTo.of (T' := T7) (g' := (mkF m 52 #[.val (.int x0), .val (.int x1), .val (.int zz), .val (.ref a), .unset] [(.int x1), (.int (6 : Int32)), (.ref a)])) (fun tgt_ kt => ?_) ?_
  · refine XS.aloadN X7.here hx rfl (hb hby at_48) rfl rfl ?_
    show Steps p.tables e below (T7.setTop (mkF m 49 #[.val (.int x0), .val (.int x1), .val (.int zz), .val (.ref a), .unset] [(.ref a)])) _
    refine XS.bipush X7.here hx rfl (hb hby at_49) ?_
    show Steps p.tables e below (T7.setTop (mkF m 51 #[.val (.int x0), .val (.int x1), .val (.int zz), .val (.ref a), .unset] [(.int (6 : Int32)), (.ref a)])) _
    refine XS.iloadN X7.here hx rfl (hb hby at_51) rfl ?_
    show Steps p.tables e below (T7.setTop (mkF m 52 #[.val (.int x0), .val (.int x1), .val (.int zz), .val (.ref a), .unset] [(.int x1), (.int (6 : Int32)), (.ref a)])) _
    exact kt
  obtain ⟨_, _, ⟨T8, L8, k8, n8⟩, -, X8, ⟨Lc8, hQ8, l8, y8, z8⟩, st8⟩ := Jvm.LawKit.callS X7 hx (y := (⟨"com/example/kontroller/kontroller/synthesis/StateGraphComplementPinLaw", "put", "([ZII)V"⟩ : MethodName)) hown (mvT hZ (hw _ (List.mem_of_getElem? (i := 2) rfl))) (mvT hZ (hw _ (List.mem_of_getElem? (i := 3) rfl))) (mvT hZ (hw _ (List.mem_of_getElem? (i := 4) rfl))) (mvT hZ (hw _ (List.mem_of_getElem? (i := 5) rfl))) (by decide) (backOf (W := 0) (rm1 l Z a0 hw [] a (6 : Int32) x1 zz (fun j => if j = (5 : Int32).toNatClampNeg then .int (own_bit (5 : Int32) x1) else (fun j => if j = (4 : Int32).toNatClampNeg then .int (own_bit (4 : Int32) x1) else (fun j => if j = (3 : Int32).toNatClampNeg then .int (own_bit (3 : Int32) x1) else (fun j => if j = (2 : Int32).toNatClampNeg then .int (own_bit (2 : Int32) x1) else (fun j => if j = (1 : Int32).toNatClampNeg then .int (own_bit (1 : Int32) x1) else (fun j => if j = (0 : Int32).toNatClampNeg then .int (own_bit (0 : Int32) x1) else (fun _ => (Value.int (0 : Int32))) j) j) j) j) j) j) T7.heap n0 Z7 V_a g_a (by decide)) hZ (hw _ (List.mem_of_getElem? (i := 5) rfl)) (hw _ (List.mem_of_getElem? (i := 4) rfl)) (by decide) (by decide)) (g := (mkF m 52 #[.val (.int x0), .val (.int x1), .val (.int zz), .val (.ref a), .unset] [(.int x1), (.int (6 : Int32)), (.ref a)])) rfl (by rw [hml]; rfl) (argsL := [(.ref a), (.int (6 : Int32)), (.int x1)]) (rest := []) (lenOf pd_0 rfl) rfl (by show 2 * 0 + _ ≤ _; exact Nat.le_of_eq rfl) (hb hby at_52) (fun _ _ => ⟨rfl, rfl, (by decide : 1 + 0 ≤ _), (by decide : 8 + 0 ≤ _)⟩)
  dsimp only [Pt.U, Pt.locs, Pt.cells, Pt.slots] at X8 l8 y8 z8 st8 hQ8
  subst l8 y8 z8
  obtain ⟨rfl, N8q, K8, V_a⟩ := hQ8
  have N8 := Fr.app N7 N8q
  have Z8 : n0 ≤ T8.heap.size := Nat.le_trans Z7 K8.1
  refine RunsTo.of (T' := T8) (g' := (mkF m 55 #[.val (.int x0), .val (.int x1), .val (.int zz), .val (.ref a), .unset] [])) st8 ?_
  refine RunsTo.of (T' := T8) (g' := (mkF m 59 #[.val (.int x0), .val (.int x1), .val (.int zz), .val (.ref a), .unset] [(.int x1), (.int (7 : Int32)), (.ref a)])) (fun tgt_ kt => ?_) ?_
  · refine XS.aloadN X8.here hx rfl (hb hby at_55) rfl rfl ?_
    show Steps p.tables e below (T8.setTop (mkF m 56 #[.val (.int x0), .val (.int x1), .val (.int zz), .val (.ref a), .unset] [(.ref a)])) _
    refine XS.bipush X8.here hx rfl (hb hby at_56) ?_
    show Steps p.tables e below (T8.setTop (mkF m 58 #[.val (.int x0), .val (.int x1), .val (.int zz), .val (.ref a), .unset] [(.int (7 : Int32)), (.ref a)])) _
    refine XS.iloadN X8.here hx rfl (hb hby at_58) rfl ?_
    show Steps p.tables e below (T8.setTop (mkF m 59 #[.val (.int x0), .val (.int x1), .val (.int zz), .val (.ref a), .unset] [(.int x1), (.int (7 : Int32)), (.ref a)])) _
    exact kt
  obtain ⟨_, _, ⟨T9, L9, k9, n9⟩, -, X9, ⟨Lc9, hQ9, l9, y9, z9⟩, st9⟩ := Jvm.LawKit.callS X8 hx (y := (⟨"com/example/kontroller/kontroller/synthesis/StateGraphComplementPinLaw", "put", "([ZII)V"⟩ : MethodName)) hown (mvT hZ (hw _ (List.mem_of_getElem? (i := 2) rfl))) (mvT hZ (hw _ (List.mem_of_getElem? (i := 3) rfl))) (mvT hZ (hw _ (List.mem_of_getElem? (i := 4) rfl))) (mvT hZ (hw _ (List.mem_of_getElem? (i := 5) rfl))) (by decide) (backOf (W := 0) (rm1 l Z a0 hw [] a (7 : Int32) x1 zz (fun j => if j = (6 : Int32).toNatClampNeg then .int (own_bit (6 : Int32) x1) else (fun j => if j = (5 : Int32).toNatClampNeg then .int (own_bit (5 : Int32) x1) else (fun j => if j = (4 : Int32).toNatClampNeg then .int (own_bit (4 : Int32) x1) else (fun j => if j = (3 : Int32).toNatClampNeg then .int (own_bit (3 : Int32) x1) else (fun j => if j = (2 : Int32).toNatClampNeg then .int (own_bit (2 : Int32) x1) else (fun j => if j = (1 : Int32).toNatClampNeg then .int (own_bit (1 : Int32) x1) else (fun j => if j = (0 : Int32).toNatClampNeg then .int (own_bit (0 : Int32) x1) else (fun _ => (Value.int (0 : Int32))) j) j) j) j) j) j) j) T8.heap n0 Z8 V_a g_a (by decide)) hZ (hw _ (List.mem_of_getElem? (i := 5) rfl)) (hw _ (List.mem_of_getElem? (i := 4) rfl)) (by decide) (by decide)) (g := (mkF m 59 #[.val (.int x0), .val (.int x1), .val (.int zz), .val (.ref a), .unset] [(.int x1), (.int (7 : Int32)), (.ref a)])) rfl (by rw [hml]; rfl) (argsL := [(.ref a), (.int (7 : Int32)), (.int x1)]) (rest := []) (lenOf pd_0 rfl) rfl (by show 2 * 0 + _ ≤ _; exact Nat.le_of_eq rfl) (hb hby at_59) (fun _ _ => ⟨rfl, rfl, (by decide : 1 + 0 ≤ _), (by decide : 8 + 0 ≤ _)⟩)
  dsimp only [Pt.U, Pt.locs, Pt.cells, Pt.slots] at X9 l9 y9 z9 st9 hQ9
  subst l9 y9 z9
  obtain ⟨rfl, N9q, K9, V_a⟩ := hQ9
  have N9 := Fr.app N8 N9q
  have Z9 : n0 ≤ T9.heap.size := Nat.le_trans Z8 K9.1
  refine RunsTo.of (T' := T9) (g' := (mkF m 62 #[.val (.int x0), .val (.int x1), .val (.int zz), .val (.ref a), .unset] [])) st9 ?_
  refine RunsTo.of (T' := T9) (g' := (mkF m 63 #[.val (.int x0), .val (.int x1), .val (.int zz), .val (.ref a), .unset] [(.ref a)])) (fun tgt_ kt => ?_) ?_
  · refine XS.aloadN X9.here hx rfl (hb hby at_62) rfl rfl ?_
    show Steps p.tables e below (T9.setTop (mkF m 63 #[.val (.int x0), .val (.int x1), .val (.int zz), .val (.ref a), .unset] [(.ref a)])) _
    exact kt
  have V_a : Arf Z T9.heap a .boolean zz (fun j => .int (own_bit (Int32.ofNat j) x1)) := V_a.congr (fun j hj => by
    have hj8 : j < 8 := by omega
    have : j = 0 ∨ j = 1 ∨ j = 2 ∨ j = 3 ∨ j = 4 ∨ j = 5 ∨ j = 6 ∨ j = 7 := by omega
    rcases this with rfl | rfl | rfl | rfl | rfl | rfl | rfl | rfl <;> rfl)
  obtain ⟨_, _, ⟨T10, L10, k10, n10⟩, -, X10, ⟨Lc10, hQ10, l10, y10, z10⟩, st10⟩ := Jvm.LawKit.callS X9 hx (y := (⟨"com/example/kontroller/kontroller/synthesis/StateGraph", "complement", "([Z)[Z"⟩ : MethodName)) hown (mvT hZ (hw _ (List.mem_of_getElem? (i := 6) rfl))) (mvT hZ (hw _ (List.mem_of_getElem? (i := 7) rfl))) (mvT hZ (hw _ (List.mem_of_getElem? (i := 8) rfl))) (mvT hZ (hw _ (List.mem_of_getElem? (i := 9) rfl))) (by decide) (backOf (W := 0) (rm2 l Z a0 hw [] a zz (fun j => own_bit (Int32.ofNat j) x1) T9.heap n0 Z9 V_a hz.2) hZ (hw _ (List.mem_of_getElem? (i := 9) rfl)) (hw _ (List.mem_of_getElem? (i := 8) rfl)) (by decide) (by decide)) (g := (mkF m 63 #[.val (.int x0), .val (.int x1), .val (.int zz), .val (.ref a), .unset] [(.ref a)])) rfl (by rw [hml]; rfl) (argsL := [(.ref a)]) (rest := []) (lenOf pd_1 rfl) rfl (by show 2 * 0 + _ ≤ _; exact Nat.le_of_eq rfl) (hb hby at_63) (fun _ _ => ⟨rfl, rfl, (by decide : 1 + 1 ≤ _), (by decide : 8 + 8 ≤ _)⟩)
  dsimp only [Pt.U, Pt.locs, Pt.cells, Pt.slots] at X10 l10 y10 z10 st10 hQ10
  subst l10 y10 z10
  obtain ⟨b, rfl, N10q, gb10, K10, V_b⟩ := hQ10
  have N10 := Fr.app N9 N10q
  have Z10 : n0 ≤ T10.heap.size := Nat.le_trans Z9 K10.1
  have V_a := V_a.keep K10 nin0
  refine RunsTo.of (T' := T10) (g' := (mkF m 66 #[.val (.int x0), .val (.int x1), .val (.int zz), .val (.ref a), .unset] [(.ref b)])) st10 ?_
  refine RunsTo.of (T' := T10) (g' := (mkF m 75 #[.val (.int x0), .val (.int x1), .val (.int zz), .val (.ref a), .val (.ref b)] [(.ref b)])) (fun tgt_ kt => ?_) ?_
  · refine XS.astore X10.here hx rfl (hb hby at_66) rfl rfl (l' := #[.val (.int x0), .val (.int x1), .val (.int zz), .val (.ref a), .val (.ref b)]) rfl ?_
    show Steps p.tables e below (T10.setTop (mkF m 68 #[.val (.int x0), .val (.int x1), .val (.int zz), .val (.ref a), .val (.ref b)] [])) _
    refine XS.aload X10.here hx rfl (hb hby at_68) rfl rfl ?_
    show Steps p.tables e below (T10.setTop (mkF m 70 #[.val (.int x0), .val (.int x1), .val (.int zz), .val (.ref a), .val (.ref b)] [(.ref b)])) _
    refine XS.ifnullNo X10.here hx rfl (hb hby at_70) rfl ?_
    show Steps p.tables e below (T10.setTop (mkF m 73 #[.val (.int x0), .val (.int x1), .val (.int zz), .val (.ref a), .val (.ref b)] [])) _
    refine XS.aload X10.here hx rfl (hb hby at_73) rfl rfl ?_
    show Steps p.tables e below (T10.setTop (mkF m 75 #[.val (.int x0), .val (.int x1), .val (.int zz), .val (.ref a), .val (.ref b)] [(.ref b)])) _
    exact kt
  obtain ⟨cl_b_11, Ar_b_11, S_b_11, M_b_11, H_b_11⟩ := id V_b
  refine RunsTo.of (T' := T10) (g' := (mkF m 76 #[.val (.int x0), .val (.int x1), .val (.int zz), .val (.ref a), .val (.ref b)] [(.int zz)])) (fun tgt_ kt => ?_) ?_
  · refine X10.arraylength hx Ar_b_11.1 (State.isArrayOf_alike hZ.alike Ar_b_11.2.1) (g := (mkF m 75 #[.val (.int x0), .val (.int x1), .val (.int zz), .val (.ref a), .val (.ref b)] [(.ref b)])) rfl rfl (hb hby at_75) _ ?_
    rw [len_of S_b_11 M_b_11]
    show Steps p.tables e below (T10.setTop (mkF m 76 #[.val (.int x0), .val (.int x1), .val (.int zz), .val (.ref a), .val (.ref b)] [(.int zz)])) _
    exact kt
  refine RunsTo.of (T' := T10) (g' := (mkF m 81 #[.val (.int x0), .val (.int x1), .val (.int zz), .val (.ref a), .val (.ref b)] [(.ref a)])) (fun tgt_ kt => ?_) ?_
  · refine XS.iloadN X10.here hx rfl (hb hby at_76) rfl ?_
    show Steps p.tables e below (T10.setTop (mkF m 77 #[.val (.int x0), .val (.int x1), .val (.int zz), .val (.ref a), .val (.ref b)] [(.int zz), (.int zz)])) _
    refine XS.icmpNo X10.here hx rfl (hb hby at_77) rfl (teq rfl).2 ?_
    show Steps p.tables e below (T10.setTop (mkF m 80 #[.val (.int x0), .val (.int x1), .val (.int zz), .val (.ref a), .val (.ref b)] [])) _
    refine XS.aloadN X10.here hx rfl (hb hby at_80) rfl rfl ?_
    show Steps p.tables e below (T10.setTop (mkF m 81 #[.val (.int x0), .val (.int x1), .val (.int zz), .val (.ref a), .val (.ref b)] [(.ref a)])) _
    exact kt
  obtain ⟨cl_a_12, Ar_a_12, S_a_12, M_a_12, H_a_12⟩ := id V_a
  refine RunsTo.of (T' := T10) (g' := (mkF m 82 #[.val (.int x0), .val (.int x1), .val (.int zz), .val (.ref a), .val (.ref b)] [(.int zz)])) (fun tgt_ kt => ?_) ?_
  · refine X10.arraylength hx Ar_a_12.1 (State.isArrayOf_alike hZ.alike Ar_a_12.2.1) (g := (mkF m 81 #[.val (.int x0), .val (.int x1), .val (.int zz), .val (.ref a), .val (.ref b)] [(.ref a)])) rfl rfl (hb hby at_81) _ ?_
    rw [len_of S_a_12 M_a_12]
    show Steps p.tables e below (T10.setTop (mkF m 82 #[.val (.int x0), .val (.int x1), .val (.int zz), .val (.ref a), .val (.ref b)] [(.int zz)])) _
    exact kt
  refine RunsTo.of (T' := T10) (g' := (mkF m 93 #[.val (.int x0), .val (.int x1), .val (.int zz), .val (.ref a), .val (.ref b)] [(.int x1), (.int (0 : Int32)), (.ref b), (.ref a)])) (fun tgt_ kt => ?_) ?_
  · refine XS.iloadN X10.here hx rfl (hb hby at_82) rfl ?_
    show Steps p.tables e below (T10.setTop (mkF m 83 #[.val (.int x0), .val (.int x1), .val (.int zz), .val (.ref a), .val (.ref b)] [(.int zz), (.int zz)])) _
    refine XS.icmpYes X10.here hx rfl (pc0 := 83) (pc' := 88) rfl (hb hby at_83) rfl (teq rfl).1 (by decide) (by decide) ?_
    show Steps p.tables e below (T10.setTop (mkF m 88 #[.val (.int x0), .val (.int x1), .val (.int zz), .val (.ref a), .val (.ref b)] [])) _
    refine XS.aloadN X10.here hx rfl (hb hby at_88) rfl rfl ?_
    show Steps p.tables e below (T10.setTop (mkF m 89 #[.val (.int x0), .val (.int x1), .val (.int zz), .val (.ref a), .val (.ref b)] [(.ref a)])) _
    refine XS.aload X10.here hx rfl (hb hby at_89) rfl rfl ?_
    show Steps p.tables e below (T10.setTop (mkF m 91 #[.val (.int x0), .val (.int x1), .val (.int zz), .val (.ref a), .val (.ref b)] [(.ref b), (.ref a)])) _
    refine XS.iconst X10.here hx rfl (hb hby at_91) ?_
    show Steps p.tables e below (T10.setTop (mkF m 92 #[.val (.int x0), .val (.int x1), .val (.int zz), .val (.ref a), .val (.ref b)] [(.int (0 : Int32)), (.ref b), (.ref a)])) _
    refine XS.iloadN X10.here hx rfl (hb hby at_92) rfl ?_
    show Steps p.tables e below (T10.setTop (mkF m 93 #[.val (.int x0), .val (.int x1), .val (.int zz), .val (.ref a), .val (.ref b)] [(.int x1), (.int (0 : Int32)), (.ref b), (.ref a)])) _
    exact kt
  obtain ⟨_, _, ⟨T13, L13, k13, n13⟩, -, X13, ⟨Lc13, hQ13, l13, y13, z13⟩, st13⟩ := Jvm.LawKit.callS X10 hx (y := (⟨"com/example/kontroller/kontroller/synthesis/StateGraphComplementPinLaw", "check", "([Z[ZII)Z"⟩ : MethodName)) hown (mvT hZ (hw _ (List.mem_of_getElem? (i := 10) rfl))) (mvT hZ (hw _ (List.mem_of_getElem? (i := 11) rfl))) (mvT hZ (hw _ (List.mem_of_getElem? (i := 4) rfl))) (mvT hZ (hw _ (List.mem_of_getElem? (i := 12) rfl))) (by decide) (backOf (W := 0) (rm3 l Z a0 hw [] a b (0 : Int32) x1 zz (fun j => .int (own_bit (Int32.ofNat j) x1)) (fun j => .int (own_not (own_bit (Int32.ofNat j) x1))) T10.heap n0 Z10 V_a V_b (by decide) (fun _ => rfl) (fun _ => rfl)) hZ (hw _ (List.mem_of_getElem? (i := 12) rfl)) (hw _ (List.mem_of_getElem? (i := 4) rfl)) (by decide) (by decide)) (g := (mkF m 93 #[.val (.int x0), .val (.int x1), .val (.int zz), .val (.ref a), .val (.ref b)] [(.int x1), (.int (0 : Int32)), (.ref b), (.ref a)])) rfl (by rw [hml]; rfl) (argsL := [(.ref a), (.ref b), (.int (0 : Int32)), (.int x1)]) (rest := []) (lenOf pd_2 rfl) rfl (by show 2 * 0 + _ ≤ _; exact Nat.le_of_eq rfl) (hb hby at_93) (fun _ _ => ⟨rfl, rfl, (by decide : 2 + 0 ≤ _), (by decide : 16 + 0 ≤ _)⟩)
  dsimp only [Pt.U, Pt.locs, Pt.cells, Pt.slots] at X13 l13 y13 z13 st13 hQ13
  subst l13 y13 z13
  obtain ⟨rfl, N13q, e13⟩ := hQ13
  have N13 := Fr.app N10 N13q
  refine RunsTo.of (T' := T13) (g' := (mkF m 96 #[.val (.int x0), .val (.int x1), .val (.int zz), .val (.ref a), .val (.ref b)] [(.int (1 : Int32))])) st13 ?_
  refine RunsTo.of (T' := T13) (g' := (mkF m 104 #[.val (.int x0), .val (.int x1), .val (.int zz), .val (.ref a), .val (.ref b)] [(.int x1), (.int (1 : Int32)), (.ref b), (.ref a)])) (fun tgt_ kt => ?_) ?_
  · refine XS.ifNo X13.here hx rfl (hb hby at_96) rfl ((if0 _ _).trans (feq (by decide)).1) ?_
    show Steps p.tables e below (T13.setTop (mkF m 99 #[.val (.int x0), .val (.int x1), .val (.int zz), .val (.ref a), .val (.ref b)] [])) _
    refine XS.aloadN X13.here hx rfl (hb hby at_99) rfl rfl ?_
    show Steps p.tables e below (T13.setTop (mkF m 100 #[.val (.int x0), .val (.int x1), .val (.int zz), .val (.ref a), .val (.ref b)] [(.ref a)])) _
    refine XS.aload X13.here hx rfl (hb hby at_100) rfl rfl ?_
    show Steps p.tables e below (T13.setTop (mkF m 102 #[.val (.int x0), .val (.int x1), .val (.int zz), .val (.ref a), .val (.ref b)] [(.ref b), (.ref a)])) _
    refine XS.iconst X13.here hx rfl (hb hby at_102) ?_
    show Steps p.tables e below (T13.setTop (mkF m 103 #[.val (.int x0), .val (.int x1), .val (.int zz), .val (.ref a), .val (.ref b)] [(.int (1 : Int32)), (.ref b), (.ref a)])) _
    refine XS.iloadN X13.here hx rfl (hb hby at_103) rfl ?_
    show Steps p.tables e below (T13.setTop (mkF m 104 #[.val (.int x0), .val (.int x1), .val (.int zz), .val (.ref a), .val (.ref b)] [(.int x1), (.int (1 : Int32)), (.ref b), (.ref a)])) _
    exact kt
  obtain ⟨_, _, ⟨T14, L14, k14, n14⟩, -, X14, ⟨Lc14, hQ14, l14, y14, z14⟩, st14⟩ := Jvm.LawKit.callS X13 hx (y := (⟨"com/example/kontroller/kontroller/synthesis/StateGraphComplementPinLaw", "check", "([Z[ZII)Z"⟩ : MethodName)) hown (mvT hZ (hw _ (List.mem_of_getElem? (i := 10) rfl))) (mvT hZ (hw _ (List.mem_of_getElem? (i := 11) rfl))) (mvT hZ (hw _ (List.mem_of_getElem? (i := 4) rfl))) (mvT hZ (hw _ (List.mem_of_getElem? (i := 12) rfl))) (by decide) (backOf (W := 0) (rm3 l Z a0 hw [] a b (1 : Int32) x1 zz (fun j => .int (own_bit (Int32.ofNat j) x1)) (fun j => .int (own_not (own_bit (Int32.ofNat j) x1))) T10.heap n0 Z10 V_a V_b (by decide) (fun _ => rfl) (fun _ => rfl)) hZ (hw _ (List.mem_of_getElem? (i := 12) rfl)) (hw _ (List.mem_of_getElem? (i := 4) rfl)) (by decide) (by decide)) (g := (mkF m 104 #[.val (.int x0), .val (.int x1), .val (.int zz), .val (.ref a), .val (.ref b)] [(.int x1), (.int (1 : Int32)), (.ref b), (.ref a)])) rfl (by rw [hml]; rfl) (argsL := [(.ref a), (.ref b), (.int (1 : Int32)), (.int x1)]) (rest := []) (lenOf pd_2 rfl) rfl (by show 2 * 0 + _ ≤ _; exact Nat.le_of_eq rfl) (hb hby at_104) (fun _ _ => ⟨rfl, e13, (by decide : 2 + 0 ≤ _), (by decide : 16 + 0 ≤ _)⟩)
  dsimp only [Pt.U, Pt.locs, Pt.cells, Pt.slots] at X14 l14 y14 z14 st14 hQ14
  subst l14 y14 z14
  obtain ⟨rfl, N14q, e14⟩ := hQ14
  have N14 := Fr.app N13 N14q
  refine RunsTo.of (T' := T14) (g' := (mkF m 107 #[.val (.int x0), .val (.int x1), .val (.int zz), .val (.ref a), .val (.ref b)] [(.int (1 : Int32))])) st14 ?_
  refine RunsTo.of (T' := T14) (g' := (mkF m 115 #[.val (.int x0), .val (.int x1), .val (.int zz), .val (.ref a), .val (.ref b)] [(.int x1), (.int (2 : Int32)), (.ref b), (.ref a)])) (fun tgt_ kt => ?_) ?_
  · refine XS.ifNo X14.here hx rfl (hb hby at_107) rfl ((if0 _ _).trans (feq (by decide)).1) ?_
    show Steps p.tables e below (T14.setTop (mkF m 110 #[.val (.int x0), .val (.int x1), .val (.int zz), .val (.ref a), .val (.ref b)] [])) _
    refine XS.aloadN X14.here hx rfl (hb hby at_110) rfl rfl ?_
    show Steps p.tables e below (T14.setTop (mkF m 111 #[.val (.int x0), .val (.int x1), .val (.int zz), .val (.ref a), .val (.ref b)] [(.ref a)])) _
    refine XS.aload X14.here hx rfl (hb hby at_111) rfl rfl ?_
    show Steps p.tables e below (T14.setTop (mkF m 113 #[.val (.int x0), .val (.int x1), .val (.int zz), .val (.ref a), .val (.ref b)] [(.ref b), (.ref a)])) _
    refine XS.iconst X14.here hx rfl (hb hby at_113) ?_
    show Steps p.tables e below (T14.setTop (mkF m 114 #[.val (.int x0), .val (.int x1), .val (.int zz), .val (.ref a), .val (.ref b)] [(.int (2 : Int32)), (.ref b), (.ref a)])) _
    refine XS.iloadN X14.here hx rfl (hb hby at_114) rfl ?_
    show Steps p.tables e below (T14.setTop (mkF m 115 #[.val (.int x0), .val (.int x1), .val (.int zz), .val (.ref a), .val (.ref b)] [(.int x1), (.int (2 : Int32)), (.ref b), (.ref a)])) _
    exact kt
  obtain ⟨_, _, ⟨T15, L15, k15, n15⟩, -, X15, ⟨Lc15, hQ15, l15, y15, z15⟩, st15⟩ := Jvm.LawKit.callS X14 hx (y := (⟨"com/example/kontroller/kontroller/synthesis/StateGraphComplementPinLaw", "check", "([Z[ZII)Z"⟩ : MethodName)) hown (mvT hZ (hw _ (List.mem_of_getElem? (i := 10) rfl))) (mvT hZ (hw _ (List.mem_of_getElem? (i := 11) rfl))) (mvT hZ (hw _ (List.mem_of_getElem? (i := 4) rfl))) (mvT hZ (hw _ (List.mem_of_getElem? (i := 12) rfl))) (by decide) (backOf (W := 0) (rm3 l Z a0 hw [] a b (2 : Int32) x1 zz (fun j => .int (own_bit (Int32.ofNat j) x1)) (fun j => .int (own_not (own_bit (Int32.ofNat j) x1))) T10.heap n0 Z10 V_a V_b (by decide) (fun _ => rfl) (fun _ => rfl)) hZ (hw _ (List.mem_of_getElem? (i := 12) rfl)) (hw _ (List.mem_of_getElem? (i := 4) rfl)) (by decide) (by decide)) (g := (mkF m 115 #[.val (.int x0), .val (.int x1), .val (.int zz), .val (.ref a), .val (.ref b)] [(.int x1), (.int (2 : Int32)), (.ref b), (.ref a)])) rfl (by rw [hml]; rfl) (argsL := [(.ref a), (.ref b), (.int (2 : Int32)), (.int x1)]) (rest := []) (lenOf pd_2 rfl) rfl (by show 2 * 0 + _ ≤ _; exact Nat.le_of_eq rfl) (hb hby at_115) (fun _ _ => ⟨rfl, e14, (by decide : 2 + 0 ≤ _), (by decide : 16 + 0 ≤ _)⟩)
  dsimp only [Pt.U, Pt.locs, Pt.cells, Pt.slots] at X15 l15 y15 z15 st15 hQ15
  subst l15 y15 z15
  obtain ⟨rfl, N15q, e15⟩ := hQ15
  have N15 := Fr.app N14 N15q
  refine RunsTo.of (T' := T15) (g' := (mkF m 118 #[.val (.int x0), .val (.int x1), .val (.int zz), .val (.ref a), .val (.ref b)] [(.int (1 : Int32))])) st15 ?_
  refine RunsTo.of (T' := T15) (g' := (mkF m 126 #[.val (.int x0), .val (.int x1), .val (.int zz), .val (.ref a), .val (.ref b)] [(.int x1), (.int (3 : Int32)), (.ref b), (.ref a)])) (fun tgt_ kt => ?_) ?_
  · refine XS.ifNo X15.here hx rfl (hb hby at_118) rfl ((if0 _ _).trans (feq (by decide)).1) ?_
    show Steps p.tables e below (T15.setTop (mkF m 121 #[.val (.int x0), .val (.int x1), .val (.int zz), .val (.ref a), .val (.ref b)] [])) _
    refine XS.aloadN X15.here hx rfl (hb hby at_121) rfl rfl ?_
    show Steps p.tables e below (T15.setTop (mkF m 122 #[.val (.int x0), .val (.int x1), .val (.int zz), .val (.ref a), .val (.ref b)] [(.ref a)])) _
    refine XS.aload X15.here hx rfl (hb hby at_122) rfl rfl ?_
    show Steps p.tables e below (T15.setTop (mkF m 124 #[.val (.int x0), .val (.int x1), .val (.int zz), .val (.ref a), .val (.ref b)] [(.ref b), (.ref a)])) _
    refine XS.iconst X15.here hx rfl (hb hby at_124) ?_
    show Steps p.tables e below (T15.setTop (mkF m 125 #[.val (.int x0), .val (.int x1), .val (.int zz), .val (.ref a), .val (.ref b)] [(.int (3 : Int32)), (.ref b), (.ref a)])) _
    refine XS.iloadN X15.here hx rfl (hb hby at_125) rfl ?_
    show Steps p.tables e below (T15.setTop (mkF m 126 #[.val (.int x0), .val (.int x1), .val (.int zz), .val (.ref a), .val (.ref b)] [(.int x1), (.int (3 : Int32)), (.ref b), (.ref a)])) _
    exact kt
  obtain ⟨_, _, ⟨T16, L16, k16, n16⟩, -, X16, ⟨Lc16, hQ16, l16, y16, z16⟩, st16⟩ := Jvm.LawKit.callS X15 hx (y := (⟨"com/example/kontroller/kontroller/synthesis/StateGraphComplementPinLaw", "check", "([Z[ZII)Z"⟩ : MethodName)) hown (mvT hZ (hw _ (List.mem_of_getElem? (i := 10) rfl))) (mvT hZ (hw _ (List.mem_of_getElem? (i := 11) rfl))) (mvT hZ (hw _ (List.mem_of_getElem? (i := 4) rfl))) (mvT hZ (hw _ (List.mem_of_getElem? (i := 12) rfl))) (by decide) (backOf (W := 0) (rm3 l Z a0 hw [] a b (3 : Int32) x1 zz (fun j => .int (own_bit (Int32.ofNat j) x1)) (fun j => .int (own_not (own_bit (Int32.ofNat j) x1))) T10.heap n0 Z10 V_a V_b (by decide) (fun _ => rfl) (fun _ => rfl)) hZ (hw _ (List.mem_of_getElem? (i := 12) rfl)) (hw _ (List.mem_of_getElem? (i := 4) rfl)) (by decide) (by decide)) (g := (mkF m 126 #[.val (.int x0), .val (.int x1), .val (.int zz), .val (.ref a), .val (.ref b)] [(.int x1), (.int (3 : Int32)), (.ref b), (.ref a)])) rfl (by rw [hml]; rfl) (argsL := [(.ref a), (.ref b), (.int (3 : Int32)), (.int x1)]) (rest := []) (lenOf pd_2 rfl) rfl (by show 2 * 0 + _ ≤ _; exact Nat.le_of_eq rfl) (hb hby at_126) (fun _ _ => ⟨rfl, e15, (by decide : 2 + 0 ≤ _), (by decide : 16 + 0 ≤ _)⟩)
  dsimp only [Pt.U, Pt.locs, Pt.cells, Pt.slots] at X16 l16 y16 z16 st16 hQ16
  subst l16 y16 z16
  obtain ⟨rfl, N16q, e16⟩ := hQ16
  have N16 := Fr.app N15 N16q
  refine RunsTo.of (T' := T16) (g' := (mkF m 129 #[.val (.int x0), .val (.int x1), .val (.int zz), .val (.ref a), .val (.ref b)] [(.int (1 : Int32))])) st16 ?_
  refine RunsTo.of (T' := T16) (g' := (mkF m 137 #[.val (.int x0), .val (.int x1), .val (.int zz), .val (.ref a), .val (.ref b)] [(.int x1), (.int (4 : Int32)), (.ref b), (.ref a)])) (fun tgt_ kt => ?_) ?_
  · refine XS.ifNo X16.here hx rfl (hb hby at_129) rfl ((if0 _ _).trans (feq (by decide)).1) ?_
    show Steps p.tables e below (T16.setTop (mkF m 132 #[.val (.int x0), .val (.int x1), .val (.int zz), .val (.ref a), .val (.ref b)] [])) _
    refine XS.aloadN X16.here hx rfl (hb hby at_132) rfl rfl ?_
    show Steps p.tables e below (T16.setTop (mkF m 133 #[.val (.int x0), .val (.int x1), .val (.int zz), .val (.ref a), .val (.ref b)] [(.ref a)])) _
    refine XS.aload X16.here hx rfl (hb hby at_133) rfl rfl ?_
    show Steps p.tables e below (T16.setTop (mkF m 135 #[.val (.int x0), .val (.int x1), .val (.int zz), .val (.ref a), .val (.ref b)] [(.ref b), (.ref a)])) _
    refine XS.iconst X16.here hx rfl (hb hby at_135) ?_
    show Steps p.tables e below (T16.setTop (mkF m 136 #[.val (.int x0), .val (.int x1), .val (.int zz), .val (.ref a), .val (.ref b)] [(.int (4 : Int32)), (.ref b), (.ref a)])) _
    refine XS.iloadN X16.here hx rfl (hb hby at_136) rfl ?_
    show Steps p.tables e below (T16.setTop (mkF m 137 #[.val (.int x0), .val (.int x1), .val (.int zz), .val (.ref a), .val (.ref b)] [(.int x1), (.int (4 : Int32)), (.ref b), (.ref a)])) _
    exact kt
  obtain ⟨_, _, ⟨T17, L17, k17, n17⟩, -, X17, ⟨Lc17, hQ17, l17, y17, z17⟩, st17⟩ := Jvm.LawKit.callS X16 hx (y := (⟨"com/example/kontroller/kontroller/synthesis/StateGraphComplementPinLaw", "check", "([Z[ZII)Z"⟩ : MethodName)) hown (mvT hZ (hw _ (List.mem_of_getElem? (i := 10) rfl))) (mvT hZ (hw _ (List.mem_of_getElem? (i := 11) rfl))) (mvT hZ (hw _ (List.mem_of_getElem? (i := 4) rfl))) (mvT hZ (hw _ (List.mem_of_getElem? (i := 12) rfl))) (by decide) (backOf (W := 0) (rm3 l Z a0 hw [] a b (4 : Int32) x1 zz (fun j => .int (own_bit (Int32.ofNat j) x1)) (fun j => .int (own_not (own_bit (Int32.ofNat j) x1))) T10.heap n0 Z10 V_a V_b (by decide) (fun _ => rfl) (fun _ => rfl)) hZ (hw _ (List.mem_of_getElem? (i := 12) rfl)) (hw _ (List.mem_of_getElem? (i := 4) rfl)) (by decide) (by decide)) (g := (mkF m 137 #[.val (.int x0), .val (.int x1), .val (.int zz), .val (.ref a), .val (.ref b)] [(.int x1), (.int (4 : Int32)), (.ref b), (.ref a)])) rfl (by rw [hml]; rfl) (argsL := [(.ref a), (.ref b), (.int (4 : Int32)), (.int x1)]) (rest := []) (lenOf pd_2 rfl) rfl (by show 2 * 0 + _ ≤ _; exact Nat.le_of_eq rfl) (hb hby at_137) (fun _ _ => ⟨rfl, e16, (by decide : 2 + 0 ≤ _), (by decide : 16 + 0 ≤ _)⟩)
  dsimp only [Pt.U, Pt.locs, Pt.cells, Pt.slots] at X17 l17 y17 z17 st17 hQ17
  subst l17 y17 z17
  obtain ⟨rfl, N17q, e17⟩ := hQ17
  have N17 := Fr.app N16 N17q
  refine RunsTo.of (T' := T17) (g' := (mkF m 140 #[.val (.int x0), .val (.int x1), .val (.int zz), .val (.ref a), .val (.ref b)] [(.int (1 : Int32))])) st17 ?_
  refine RunsTo.of (T' := T17) (g' := (mkF m 148 #[.val (.int x0), .val (.int x1), .val (.int zz), .val (.ref a), .val (.ref b)] [(.int x1), (.int (5 : Int32)), (.ref b), (.ref a)])) (fun tgt_ kt => ?_) ?_
  · refine XS.ifNo X17.here hx rfl (hb hby at_140) rfl ((if0 _ _).trans (feq (by decide)).1) ?_
    show Steps p.tables e below (T17.setTop (mkF m 143 #[.val (.int x0), .val (.int x1), .val (.int zz), .val (.ref a), .val (.ref b)] [])) _
    refine XS.aloadN X17.here hx rfl (hb hby at_143) rfl rfl ?_
    show Steps p.tables e below (T17.setTop (mkF m 144 #[.val (.int x0), .val (.int x1), .val (.int zz), .val (.ref a), .val (.ref b)] [(.ref a)])) _
    refine XS.aload X17.here hx rfl (hb hby at_144) rfl rfl ?_
    show Steps p.tables e below (T17.setTop (mkF m 146 #[.val (.int x0), .val (.int x1), .val (.int zz), .val (.ref a), .val (.ref b)] [(.ref b), (.ref a)])) _
    refine XS.iconst X17.here hx rfl (hb hby at_146) ?_
    show Steps p.tables e below (T17.setTop (mkF m 147 #[.val (.int x0), .val (.int x1), .val (.int zz), .val (.ref a), .val (.ref b)] [(.int (5 : Int32)), (.ref b), (.ref a)])) _
    refine XS.iloadN X17.here hx rfl (hb hby at_147) rfl ?_
    show Steps p.tables e below (T17.setTop (mkF m 148 #[.val (.int x0), .val (.int x1), .val (.int zz), .val (.ref a), .val (.ref b)] [(.int x1), (.int (5 : Int32)), (.ref b), (.ref a)])) _
    exact kt
  obtain ⟨_, _, ⟨T18, L18, k18, n18⟩, -, X18, ⟨Lc18, hQ18, l18, y18, z18⟩, st18⟩ := Jvm.LawKit.callS X17 hx (y := (⟨"com/example/kontroller/kontroller/synthesis/StateGraphComplementPinLaw", "check", "([Z[ZII)Z"⟩ : MethodName)) hown (mvT hZ (hw _ (List.mem_of_getElem? (i := 10) rfl))) (mvT hZ (hw _ (List.mem_of_getElem? (i := 11) rfl))) (mvT hZ (hw _ (List.mem_of_getElem? (i := 4) rfl))) (mvT hZ (hw _ (List.mem_of_getElem? (i := 12) rfl))) (by decide) (backOf (W := 0) (rm3 l Z a0 hw [] a b (5 : Int32) x1 zz (fun j => .int (own_bit (Int32.ofNat j) x1)) (fun j => .int (own_not (own_bit (Int32.ofNat j) x1))) T10.heap n0 Z10 V_a V_b (by decide) (fun _ => rfl) (fun _ => rfl)) hZ (hw _ (List.mem_of_getElem? (i := 12) rfl)) (hw _ (List.mem_of_getElem? (i := 4) rfl)) (by decide) (by decide)) (g := (mkF m 148 #[.val (.int x0), .val (.int x1), .val (.int zz), .val (.ref a), .val (.ref b)] [(.int x1), (.int (5 : Int32)), (.ref b), (.ref a)])) rfl (by rw [hml]; rfl) (argsL := [(.ref a), (.ref b), (.int (5 : Int32)), (.int x1)]) (rest := []) (lenOf pd_2 rfl) rfl (by show 2 * 0 + _ ≤ _; exact Nat.le_of_eq rfl) (hb hby at_148) (fun _ _ => ⟨rfl, e17, (by decide : 2 + 0 ≤ _), (by decide : 16 + 0 ≤ _)⟩)
  dsimp only [Pt.U, Pt.locs, Pt.cells, Pt.slots] at X18 l18 y18 z18 st18 hQ18
  subst l18 y18 z18
  obtain ⟨rfl, N18q, e18⟩ := hQ18
  have N18 := Fr.app N17 N18q
  refine RunsTo.of (T' := T18) (g' := (mkF m 151 #[.val (.int x0), .val (.int x1), .val (.int zz), .val (.ref a), .val (.ref b)] [(.int (1 : Int32))])) st18 ?_
  refine RunsTo.of (T' := T18) (g' := (mkF m 160 #[.val (.int x0), .val (.int x1), .val (.int zz), .val (.ref a), .val (.ref b)] [(.int x1), (.int (6 : Int32)), (.ref b), (.ref a)])) (fun tgt_ kt => ?_) ?_
  · refine XS.ifNo X18.here hx rfl (hb hby at_151) rfl ((if0 _ _).trans (feq (by decide)).1) ?_
    show Steps p.tables e below (T18.setTop (mkF m 154 #[.val (.int x0), .val (.int x1), .val (.int zz), .val (.ref a), .val (.ref b)] [])) _
    refine XS.aloadN X18.here hx rfl (hb hby at_154) rfl rfl ?_
    show Steps p.tables e below (T18.setTop (mkF m 155 #[.val (.int x0), .val (.int x1), .val (.int zz), .val (.ref a), .val (.ref b)] [(.ref a)])) _
    refine XS.aload X18.here hx rfl (hb hby at_155) rfl rfl ?_
    show Steps p.tables e below (T18.setTop (mkF m 157 #[.val (.int x0), .val (.int x1), .val (.int zz), .val (.ref a), .val (.ref b)] [(.ref b), (.ref a)])) _
    refine XS.bipush X18.here hx rfl (hb hby at_157) ?_
    show Steps p.tables e below (T18.setTop (mkF m 159 #[.val (.int x0), .val (.int x1), .val (.int zz), .val (.ref a), .val (.ref b)] [(.int (6 : Int32)), (.ref b), (.ref a)])) _
    refine XS.iloadN X18.here hx rfl (hb hby at_159) rfl ?_
    show Steps p.tables e below (T18.setTop (mkF m 160 #[.val (.int x0), .val (.int x1), .val (.int zz), .val (.ref a), .val (.ref b)] [(.int x1), (.int (6 : Int32)), (.ref b), (.ref a)])) _
    exact kt
  obtain ⟨_, _, ⟨T19, L19, k19, n19⟩, -, X19, ⟨Lc19, hQ19, l19, y19, z19⟩, st19⟩ := Jvm.LawKit.callS X18 hx (y := (⟨"com/example/kontroller/kontroller/synthesis/StateGraphComplementPinLaw", "check", "([Z[ZII)Z"⟩ : MethodName)) hown (mvT hZ (hw _ (List.mem_of_getElem? (i := 10) rfl))) (mvT hZ (hw _ (List.mem_of_getElem? (i := 11) rfl))) (mvT hZ (hw _ (List.mem_of_getElem? (i := 4) rfl))) (mvT hZ (hw _ (List.mem_of_getElem? (i := 12) rfl))) (by decide) (backOf (W := 0) (rm3 l Z a0 hw [] a b (6 : Int32) x1 zz (fun j => .int (own_bit (Int32.ofNat j) x1)) (fun j => .int (own_not (own_bit (Int32.ofNat j) x1))) T10.heap n0 Z10 V_a V_b (by decide) (fun _ => rfl) (fun _ => rfl)) hZ (hw _ (List.mem_of_getElem? (i := 12) rfl)) (hw _ (List.mem_of_getElem? (i := 4) rfl)) (by decide) (by decide)) (g := (mkF m 160 #[.val (.int x0), .val (.int x1), .val (.int zz), .val (.ref a), .val (.ref b)] [(.int x1), (.int (6 : Int32)), (.ref b), (.ref a)])) rfl (by rw [hml]; rfl) (argsL := [(.ref a), (.ref b), (.int (6 : Int32)), (.int x1)]) (rest := []) (lenOf pd_2 rfl) rfl (by show 2 * 0 + _ ≤ _; exact Nat.le_of_eq rfl) (hb hby at_160) (fun _ _ => ⟨rfl, e18, (by decide : 2 + 0 ≤ _), (by decide : 16 + 0 ≤ _)⟩)
  dsimp only [Pt.U, Pt.locs, Pt.cells, Pt.slots] at X19 l19 y19 z19 st19 hQ19
  subst l19 y19 z19
  obtain ⟨rfl, N19q, e19⟩ := hQ19
  have N19 := Fr.app N18 N19q
  refine RunsTo.of (T' := T19) (g' := (mkF m 163 #[.val (.int x0), .val (.int x1), .val (.int zz), .val (.ref a), .val (.ref b)] [(.int (1 : Int32))])) st19 ?_
  refine RunsTo.of (T' := T19) (g' := (mkF m 172 #[.val (.int x0), .val (.int x1), .val (.int zz), .val (.ref a), .val (.ref b)] [(.int x1), (.int (7 : Int32)), (.ref b), (.ref a)])) (fun tgt_ kt => ?_) ?_
  · refine XS.ifNo X19.here hx rfl (hb hby at_163) rfl ((if0 _ _).trans (feq (by decide)).1) ?_
    show Steps p.tables e below (T19.setTop (mkF m 166 #[.val (.int x0), .val (.int x1), .val (.int zz), .val (.ref a), .val (.ref b)] [])) _
    refine XS.aloadN X19.here hx rfl (hb hby at_166) rfl rfl ?_
    show Steps p.tables e below (T19.setTop (mkF m 167 #[.val (.int x0), .val (.int x1), .val (.int zz), .val (.ref a), .val (.ref b)] [(.ref a)])) _
    refine XS.aload X19.here hx rfl (hb hby at_167) rfl rfl ?_
    show Steps p.tables e below (T19.setTop (mkF m 169 #[.val (.int x0), .val (.int x1), .val (.int zz), .val (.ref a), .val (.ref b)] [(.ref b), (.ref a)])) _
    refine XS.bipush X19.here hx rfl (hb hby at_169) ?_
    show Steps p.tables e below (T19.setTop (mkF m 171 #[.val (.int x0), .val (.int x1), .val (.int zz), .val (.ref a), .val (.ref b)] [(.int (7 : Int32)), (.ref b), (.ref a)])) _
    refine XS.iloadN X19.here hx rfl (hb hby at_171) rfl ?_
    show Steps p.tables e below (T19.setTop (mkF m 172 #[.val (.int x0), .val (.int x1), .val (.int zz), .val (.ref a), .val (.ref b)] [(.int x1), (.int (7 : Int32)), (.ref b), (.ref a)])) _
    exact kt
  obtain ⟨_, _, ⟨T20, L20, k20, n20⟩, -, X20, ⟨Lc20, hQ20, l20, y20, z20⟩, st20⟩ := Jvm.LawKit.callS X19 hx (y := (⟨"com/example/kontroller/kontroller/synthesis/StateGraphComplementPinLaw", "check", "([Z[ZII)Z"⟩ : MethodName)) hown (mvT hZ (hw _ (List.mem_of_getElem? (i := 10) rfl))) (mvT hZ (hw _ (List.mem_of_getElem? (i := 11) rfl))) (mvT hZ (hw _ (List.mem_of_getElem? (i := 4) rfl))) (mvT hZ (hw _ (List.mem_of_getElem? (i := 12) rfl))) (by decide) (backOf (W := 0) (rm3 l Z a0 hw [] a b (7 : Int32) x1 zz (fun j => .int (own_bit (Int32.ofNat j) x1)) (fun j => .int (own_not (own_bit (Int32.ofNat j) x1))) T10.heap n0 Z10 V_a V_b (by decide) (fun _ => rfl) (fun _ => rfl)) hZ (hw _ (List.mem_of_getElem? (i := 12) rfl)) (hw _ (List.mem_of_getElem? (i := 4) rfl)) (by decide) (by decide)) (g := (mkF m 172 #[.val (.int x0), .val (.int x1), .val (.int zz), .val (.ref a), .val (.ref b)] [(.int x1), (.int (7 : Int32)), (.ref b), (.ref a)])) rfl (by rw [hml]; rfl) (argsL := [(.ref a), (.ref b), (.int (7 : Int32)), (.int x1)]) (rest := []) (lenOf pd_2 rfl) rfl (by show 2 * 0 + _ ≤ _; exact Nat.le_of_eq rfl) (hb hby at_172) (fun _ _ => ⟨rfl, e19, (by decide : 2 + 0 ≤ _), (by decide : 16 + 0 ≤ _)⟩)
  dsimp only [Pt.U, Pt.locs, Pt.cells, Pt.slots] at X20 l20 y20 z20 st20 hQ20
  subst l20 y20 z20
  obtain ⟨rfl, N20q, e20⟩ := hQ20
  have N20 := Fr.app N19 N20q
  refine RunsTo.of (T' := T20) (g' := (mkF m 175 #[.val (.int x0), .val (.int x1), .val (.int zz), .val (.ref a), .val (.ref b)] [(.int (1 : Int32))])) st20 ?_
  refine RunsTo.of (T' := T20) (g' := (mkF m 183 #[.val (.int x0), .val (.int x1), .val (.int zz), .val (.ref a), .val (.ref b)] [(.int (1 : Int32))])) (fun tgt_ kt => ?_) ?_
  · refine XS.ifNo X20.here hx rfl (hb hby at_175) rfl ((if0 _ _).trans (feq (by decide)).1) ?_
    show Steps p.tables e below (T20.setTop (mkF m 178 #[.val (.int x0), .val (.int x1), .val (.int zz), .val (.ref a), .val (.ref b)] [])) _
    refine XS.iconst X20.here hx rfl (hb hby at_178) ?_
    show Steps p.tables e below (T20.setTop (mkF m 179 #[.val (.int x0), .val (.int x1), .val (.int zz), .val (.ref a), .val (.ref b)] [(.int (1 : Int32))])) _
    refine XS.goto X20.here hx rfl (pc0 := 179) (pc' := 183) rfl (hb hby at_179) (by decide) (by decide) ?_
    show Steps p.tables e below (T20.setTop (mkF m 183 #[.val (.int x0), .val (.int x1), .val (.int zz), .val (.ref a), .val (.ref b)] [(.int (1 : Int32))])) _
    exact kt
  refine RunsTo.retN X20 hx (t := .boolean) Bd.returns (by simp) Bd.notSynchronized (hb hby at_183) ?_ (by decide) (by decide)
  rw [e20]
  exact ⟨rfl, N20⟩
set_option maxRecDepth 65536 in
set_option maxHeartbeats 40000000 in
theorem comes_1 {Post : Tables → Env → Array Value → State → Outcome → State → Prop} (hpost : ∀ tb e args s v u, (limb_1_1.after args s (.returned v) u = true ∧ limb_1_2.after args s (.returned v) u = true ∧ True) → FrameEnd s (.returned v) u (Jvm.fieldLocs frame_1_writes args s ++ Jvm.arrayLocs frame_1_arrays args s ++ Jvm.staticLocs frame_1_statics s) 16 128 → Post tb e args s (.returned v) u) :
    ArmFor flags0 classFile x code maxLocals ret World_1 tables_1 room_1 Calls_1 rest_1 Pre_1 Post := by
  intro l hfl _ _ p e ha hc hk s m args below hf hA hF happ hP
  obtain ⟨hcalls, hrest, hpre⟩ := hP
  obtain ⟨-, -, -, hnamed, -, -, -, hat⟩ := (Spec.applies_iff hf).mp happ
  obtain ⟨hg, hn⟩ := and_e (Cond.before_iff.mp (show (Jvm.Cond.and given_1 narrow_1).before args s = true from hpre))
  obtain ⟨hcnt, hg0⟩ := and_e hg
  obtain ⟨ha0, hg1⟩ := and_e hg0
  have ha1 := hg1
  obtain ⟨w0, w1, rfl⟩ : ∃ w0 w1 : Value, args = #[w0, w1] := by
    have hs : args.size = 2 := by simpa [Cond.value, given_1] using hcnt
    obtain ⟨L⟩ := args
    match L, hs with
    | [w0, w1], _ => exact ⟨w0, w1, rfl⟩
  have hw := fun d (hd : d ∈ tables_1) => atoms_spec (ws := Jvm.Cond.code x code maxLocals ret :: tables_1) hat d (List.mem_cons_of_mem _ hd)
  have hfit : Fit s := fun {y c} hc i hi => by
    obtain ⟨ha, rfl⟩ := Array.getElem?_eq_some_iff.mp hc
    have q := List.all_eq_true.mp ((Array.all_eq_true_iff_forall_mem.mp hF) _ (Array.getElem_mem ha)) i (List.mem_range.mpr hi)
    simpa [Array.getElem?_eq_getElem hi] using q
  obtain ⟨i0, ei0⟩ := is_v ha0
  obtain rfl : w0 = (.int i0) := Option.some.inj ei0
  obtain ⟨i1, ei1⟩ := is_v ha1
  obtain rfl : w1 = (.int i1) := Option.some.inj ei1
  obtain ⟨n, o, h1, h2, h3, _, L, rfl, ⟨rfl, N⟩, hq⟩ := rm0 l s _ hw tables_1 i0 i1 s.heap s.heap.size (Nat.le_refl _)  p e ha hc hk s m _ below hf ((Spec.applies_iff_loose hf).mp happ).1 ⟨rfl, State.Warmed39.refl s, rfl⟩ trivial
  refine ⟨n, _, h1, h2, h3, hpost _ _ _ _ _ _ ⟨Cond.after_iff.mpr rfl, Cond.after_iff.mpr (eq_i res_at (Term.int_eval (1)) rfl), trivial⟩ ⟨hq.1, hq.2.1, (hq.2.2.sift fun y hy => Or.inr (N y hy)).mono (by decide) (by decide)⟩⟩
theorem main_1_1 : Claimed_1_1 := comes_1 fun _ _ _ _ _ _ h hF => ⟨h.1, hF⟩
theorem main_1_2 : Claimed_1_2 := comes_1 fun _ _ _ _ _ _ h hF => ⟨h.2.1, hF⟩
end Jvm.Pilot.@@N@@
namespace Jvm.Pilot.@@N@@
open Jvm Jvm.ClassFile Sem Op Lib Jvm.Free Jvm.Stand Jvm.Pilot.@@N@@.Jvm.D
/-! MADE BY PROGRAM (witnessworld.py) out of the Statement's table words and the real class files: 11 classes; the members and pool entries that the words name. The judged class is class 1, her method 1. -/
namespace start1
open Jvm.ClassFile
def u (s : String) : CpInfo := .utf8 (stringToUtf16 s)
/-- a pool by its gaps: so many unusable entries, then the entry; so many at the end -/
def gap : Nat → List CpInfo → List CpInfo
  | 0, r => r
  | n + 1, r => .unusable :: gap n r
def poolList (es : List (Nat × CpInfo)) (last : Nat) : List CpInfo := es.foldr (fun e r => gap e.1 (e.2 :: r)) (gap last [])
def pool (es : List (Nat × CpInfo)) (last : Nat) : Array CpInfo := ⟨poolList es last⟩
def fileOf (pool : Array CpInfo) (this : Nat) (attrs : Array Attribute := #[]) (ms : Array MethodInfo := #[]) (fl : Nat := 33) (sup : Nat := 0) (ifs : Array Nat := #[]) (fds : Array FieldInfo := #[]) : ClassFile where
  minorVersion := 0
  majorVersion := 65
  constantPool := pool
  accessFlags := fl
  thisClass := this
  superClass := sup
  interfaces := ifs
  fields := fds
  methods := ms
  attributes := attrs
def plain (name : String) (sup : Option ClassId) : Class where
  name := name
  kind := .ordinary
  loader := none
  accessFlags := 33
  super := sup
  interfaces := #[]
  cf := none
  fields := #[]
  methods := #[]
  instanceTypes := #[]
  staticTypes := #[]
  resolved := #[]
  callSites := []
  init := .initialized
  statics := none
  mirror := none

def pool0 : Array CpInfo := pool [(5, u "<init>"), (0, u "()V"), (1, .class_ 10), (1, u "java/lang/Object")] 113

def k0m0 : Method := { name := "<init>", desc := "()V", sig := { parameters := [], returnType := none }, accessFlags := 1, code := none }
/-- java/lang/Object -/
def k0 : Class := { plain "java/lang/Object" none with
  accessFlags := 33
  interfaces := #[]
  cf := some (fileOf pool0 8 #[] #[{ accessFlags := 1, nameIndex := 5, descriptorIndex := 6, attributes := #[] }] 33 0 #[] #[])
  fields := #[]
  methods := #[k0m0]
  instanceTypes := #[]
  staticTypes := #[]
  resolved := Array.replicate 124 none
  statics := none }

def pool1 : Array CpInfo := pool [(2, .class_ 4), (1, u "java/lang/Object"), (0, u "<init>"), (0, u "()V"), (0, .integer 2147483647), (0, .methodref 9 10), (0, .class_ 11), (0, .nameAndType 12 13), (0, u "com/example/kontroller/kontroller/synthesis/StateGraphComplementPinLaw"), (0, u "put"), (0, u "([ZII)V"), (0, .methodref 15 16), (0, .class_ 17), (0, .nameAndType 18 19), (0, u "com/example/kontroller/kontroller/synthesis/StateGraph"), (0, u "complement"), (0, u "([Z)[Z"), (0, .methodref 9 21), (0, .nameAndType 22 23), (0, u "check"), (0, u "([Z[ZII)Z"), (2, u "law"), (0, u "(II)Z")] 5

def k1m0 : Method := { name := "<init>", desc := "()V", sig := { parameters := [], returnType := none }, accessFlags := 2, code := none }
def k1c1 : Code := { maxStack := 4, maxLocals := 5, code := code, exceptionTable := #[], attributes := #[] }
def k1m1 : Method := { name := "law", desc := "(II)Z", sig := { parameters := [.int, .int], returnType := some .boolean }, accessFlags := 9, code := some k1c1 }
def k1c2 : Code := { maxStack := 4, maxLocals := 3, code := method_3_code, exceptionTable := #[], attributes := #[] }
def k1m2 : Method := { name := "put", desc := "([ZII)V", sig := { parameters := [(.array .boolean), .int, .int], returnType := none }, accessFlags := 10, code := some k1c2 }
def k1c3 : Code := { maxStack := 2, maxLocals := 5, code := method_4_code, exceptionTable := #[], attributes := #[] }
def k1m3 : Method := { name := "check", desc := "([Z[ZII)Z", sig := { parameters := [(.array .boolean), (.array .boolean), .int, .int], returnType := some .boolean }, accessFlags := 10, code := some k1c3 }
/-- com/example/kontroller/kontroller/synthesis/StateGraphComplementPinLaw -/
def k1 : Class := { plain "com/example/kontroller/kontroller/synthesis/StateGraphComplementPinLaw" (some 0) with
  accessFlags := 49
  interfaces := #[]
  cf := some (fileOf pool1 9 #[] #[{ accessFlags := 2, nameIndex := 5, descriptorIndex := 6, attributes := #[] }, { accessFlags := 9, nameIndex := 26, descriptorIndex := 27, attributes := #[] }, { accessFlags := 10, nameIndex := 12, descriptorIndex := 13, attributes := #[] }, { accessFlags := 10, nameIndex := 22, descriptorIndex := 23, attributes := #[] }] 49 2 #[] #[])
  fields := #[]
  methods := #[k1m0, k1m1, k1m2, k1m3]
  instanceTypes := #[]
  staticTypes := #[]
  resolved := Array.replicate 33 none
  statics := none }

def pool2 : Array CpInfo := pool [(2, .class_ 4), (1, u "java/lang/Object"), (3, .class_ 10), (1, u "com/example/kontroller/kontroller/synthesis/StateGraph"), (0, u "policy"), (0, u "Lcom/example/kontroller/kontroller/policy/Automaton;"), (14, u "stateCount"), (0, u "I"), (5, u "eventCount"), (2, u "open"), (0, u "[Z"), (2, u "met"), (0, u "[I"), (2, u "low"), (37, u "allComponents"), (0, u "Ljava/util/List;"), (37, u "complement"), (0, u "([Z)[Z")] 10

def k2c0 : Code := { maxStack := 4, maxLocals := 3, code := prog_84_method_4_code, exceptionTable := #[], attributes := #[] }
def k2m0 : Method := { name := "complement", desc := "([Z)[Z", sig := { parameters := [(.array .boolean)], returnType := some (.array .boolean) }, accessFlags := 8, code := some k2c0 }
/-- com/example/kontroller/kontroller/synthesis/StateGraph -/
def k2 : Class := { plain "com/example/kontroller/kontroller/synthesis/StateGraph" (some 0) with
  accessFlags := 48
  interfaces := #[]
  cf := some (fileOf pool2 8 #[] #[{ accessFlags := 8, nameIndex := 122, descriptorIndex := 123, attributes := #[] }] 48 2 #[] #[{ accessFlags := 18, nameIndex := 11, descriptorIndex := 12, attributes := #[] }, { accessFlags := 18, nameIndex := 27, descriptorIndex := 28, attributes := #[] }, { accessFlags := 18, nameIndex := 34, descriptorIndex := 28, attributes := #[] }, { accessFlags := 18, nameIndex := 37, descriptorIndex := 38, attributes := #[] }, { accessFlags := 18, nameIndex := 41, descriptorIndex := 42, attributes := #[] }, { accessFlags := 18, nameIndex := 45, descriptorIndex := 42, attributes := #[] }, { accessFlags := 2, nameIndex := 83, descriptorIndex := 84, attributes := #[] }])
  fields := #[{ name := "policy", type := (.object "com/example/kontroller/kontroller/policy/Automaton"), accessFlags := 18, slot := 0, constantValue := 0 }, { name := "stateCount", type := .int, accessFlags := 18, slot := 1, constantValue := 0 }, { name := "eventCount", type := .int, accessFlags := 18, slot := 2, constantValue := 0 }, { name := "open", type := (.array .boolean), accessFlags := 18, slot := 3, constantValue := 0 }, { name := "met", type := (.array .int), accessFlags := 18, slot := 4, constantValue := 0 }, { name := "low", type := (.array .int), accessFlags := 18, slot := 5, constantValue := 0 }, { name := "allComponents", type := (.object "java/util/List"), accessFlags := 2, slot := 6, constantValue := 0 }]
  methods := #[k2m0]
  instanceTypes := #[(.object "com/example/kontroller/kontroller/policy/Automaton"), .int, .int, (.array .boolean), (.array .int), (.array .int), (.object "java/util/List")]
  staticTypes := #[]
  resolved := Array.replicate 134 none
  statics := none }

def pool3 : Array CpInfo := pool [(1, u "java/lang/Cloneable"), (0, .class_ 1), (0, u "java/lang/Object"), (0, .class_ 3)] 3

/-- java/lang/Cloneable -/
def k3 : Class := { plain "java/lang/Cloneable" (some 0) with
  accessFlags := 1537
  interfaces := #[]
  cf := some (fileOf pool3 2 #[] #[] 1537 4 #[] #[])
  fields := #[]
  methods := #[]
  instanceTypes := #[]
  staticTypes := #[]
  resolved := Array.replicate 8 none
  statics := none }

def pool4 : Array CpInfo := pool [(1, u "java/io/Serializable"), (0, .class_ 1), (0, u "java/lang/Object"), (0, .class_ 3)] 3

/-- java/io/Serializable -/
def k4 : Class := { plain "java/io/Serializable" (some 0) with
  accessFlags := 1537
  interfaces := #[]
  cf := some (fileOf pool4 2 #[] #[] 1537 4 #[] #[])
  fields := #[]
  methods := #[]
  instanceTypes := #[]
  staticTypes := #[]
  resolved := Array.replicate 8 none
  statics := none }

/-- the primitive boolean -/
def k5 : Class := { plain "boolean" none with kind := .primitive 'Z', accessFlags := 0x411 }
/-- [Z -/
def k6 : Class := { plain "[Z" (some 0) with kind := .array 5 .boolean, interfaces := #[3, 4], accessFlags := 1041 }

/-- the primitive byte -/
def k7 : Class := { plain "byte" none with kind := .primitive 'B', accessFlags := 0x411 }
/-- [B -/
def k8 : Class := { plain "[B" (some 0) with kind := .array 7 .byte, interfaces := #[3, 4], accessFlags := 1041 }

/-- the primitive int -/
def k9 : Class := { plain "int" none with kind := .primitive 'I', accessFlags := 0x411 }
/-- [I -/
def k10 : Class := { plain "[I" (some 0) with kind := .array 9 .int, interfaces := #[3, 4], accessFlags := 1041 }

def heap : Heap := #[]
def classes : Array Class := #[k0, k1, k2, k3, k4, k5, k6, k7, k8, k9, k10]
def interned : List (Array UInt16 × Addr) := []
def slotsUsed : Nat := 0
def theMethod : MethodId := ⟨1, 1⟩
def args0 : Array Value := #[.int 2, .int 77]
def aboutOver (below : List Frame) : State where
  vm := { classes := classes, interned := interned.toArray }
  heap := heap
  slotsUsed := slotsUsed
  threads := #[{ frames := .invoking theMethod args0 :: below }]
def below0 : List Frame := [.native { method := ⟨0, 0⟩, args := #[] }]
def about1 : State := aboutOver below0
def p0 : Program := .bare "" "" ""
def e0 : Env := launch0.env 0 0 0
theorem w_frames : about1.frames = Frame.invoking theMethod args0 :: below0 := rfl
set_option maxRecDepth 65536 in
theorem w_args : argsFit about1.vm theMethod args0 = true := by decide +kernel
set_option maxRecDepth 65536 in
theorem w_heap : heapFits about1 = true := by decide +kernel
set_option maxRecDepth 65536 in
theorem w_runnable : about1.curStatus? = some .runnable := by decide +kernel
set_option maxRecDepth 65536 in
theorem w_alone : about1.alone = true := by decide +kernel
set_option maxRecDepth 65536 in
theorem w_named : about1.methodNamed? x = some theMethod := by decide +kernel
set_option maxRecDepth 65536 in
theorem w_hears : about1.hears theMethod below0 = true := by decide +kernel
set_option maxRecDepth 65536 in
theorem w_ripe : about1.ripe theMethod args0 below0 = true := by decide +kernel
theorem w_running : about1.status = .running := rfl
set_option maxRecDepth 65536 in
theorem w_room : about1.hasRoom e0.platform room_1 = true :=
  launch0.hasRoom_least _ room_1 (by decide +kernel) (by decide +kernel) (by decide +kernel) (by decide +kernel) (by decide +kernel) (by decide +kernel)
theorem allAtoms_all (ts : List Jvm.Cond) (a : Array Jvm.Value) (st : Jvm.State) : (allAtoms ts).before a st = ts.all (fun c => c.before a st) := by
  induction ts with
  | nil => rfl
  | cons c t ih =>
    show (Jvm.Cond.and c (allAtoms t)).before a st = _
    rw [Jvm.Cond.before_and, ih, List.all_cons]
def words1 : List Jvm.Cond := Jvm.Cond.code x code maxLocals ret :: tables_1
/-- a 'code' word, met by the world's own term for the bytes: nothing is compared byte by byte -/
theorem code_word {y : MethodName} {bytes : ByteArray} {mx : Nat} {rt : Option FieldType} {a : Array Value} {s : State} {m : MethodId} {meth : Method} {c : Code} (h1 : s.methodNamed? y = some m) (h2 : s.vm.method? m = some meth) (h3 : meth.code = some c) (h4 : c.code = bytes)
    (h5 : (c.maxLocals == mx && c.exceptionTable.isEmpty && decide (c.maxStack ≤ mostOperands) && decide (meth.sig.returnType = rt) && !meth.locks && decide (parseMethodDescriptor y.desc = some meth.sig)) = true) : (Jvm.Cond.code y bytes mx rt).before a s = true := by
  simp only [Bool.and_eq_true, beq_iff_eq, Bool.not_eq_true', decide_eq_true_eq] at h5
  obtain ⟨⟨⟨⟨⟨g1, g2⟩, g3⟩, g4⟩, g5⟩, g6⟩ := h5
  simp [Cond.before, Cond.holds, Cond.value, h1, h2, h3, h4, g1, g2, g3, g4, g5, g6]
def isCode : Jvm.Cond → Bool
  | .code _ _ _ _ => true
  | _ => false
theorem all_split {L : List Jvm.Cond} {P : Jvm.Cond → Bool} (h1 : L.all (fun c => isCode c || P c) = true) (h2 : ∀ c ∈ L.filter isCode, P c = true) : L.all P = true := by
  refine List.all_eq_true.mpr fun c hc => ?_
  have h := List.all_eq_true.mp h1 c hc
  rcases Bool.eq_false_or_eq_true (isCode c) with hi | hi
  · exact h2 c (List.mem_filter.mpr ⟨hc, hi⟩)
  · simpa [hi] using h
set_option maxRecDepth 65536 in
theorem w_c0 : (Jvm.Cond.code x code maxLocals ret).before args0 about1 = true := code_word (m := ⟨1, 1⟩) (meth := k1m1) (c := k1c1) (by decide +kernel) rfl rfl rfl (by decide +kernel)
set_option maxRecDepth 65536 in
theorem w_c1 : (Jvm.Cond.code ({ cls := "com/example/kontroller/kontroller/synthesis/StateGraphComplementPinLaw", name := "put", desc := "([ZII)V" } : Jvm.MethodName) method_3_code (3 : Nat) (Option.none : Option Jvm.ClassFile.FieldType)).before args0 about1 = true := code_word (m := ⟨1, 2⟩) (meth := k1m2) (c := k1c2) (by decide +kernel) rfl rfl rfl (by decide +kernel)
set_option maxRecDepth 65536 in
theorem w_c2 : (Jvm.Cond.code ({ cls := "com/example/kontroller/kontroller/synthesis/StateGraph", name := "complement", desc := "([Z)[Z" } : Jvm.MethodName) prog_84_method_4_code (3 : Nat) (Option.some (Jvm.ClassFile.FieldType.array Jvm.ClassFile.FieldType.boolean))).before args0 about1 = true := code_word (m := ⟨2, 0⟩) (meth := k2m0) (c := k2c0) (by decide +kernel) rfl rfl rfl (by decide +kernel)
set_option maxRecDepth 65536 in
theorem w_c3 : (Jvm.Cond.code ({ cls := "com/example/kontroller/kontroller/synthesis/StateGraphComplementPinLaw", name := "check", desc := "([Z[ZII)Z" } : Jvm.MethodName) method_4_code (5 : Nat) (Option.some Jvm.ClassFile.FieldType.boolean)).before args0 about1 = true := code_word (m := ⟨1, 3⟩) (meth := k1m3) (c := k1c3) (by decide +kernel) rfl rfl rfl (by decide +kernel)
def codes1 : List Jvm.Cond := [Jvm.Cond.code x code maxLocals ret, Jvm.Cond.code ({ cls := "com/example/kontroller/kontroller/synthesis/StateGraphComplementPinLaw", name := "put", desc := "([ZII)V" } : Jvm.MethodName) method_3_code (3 : Nat) (Option.none : Option Jvm.ClassFile.FieldType), Jvm.Cond.code ({ cls := "com/example/kontroller/kontroller/synthesis/StateGraph", name := "complement", desc := "([Z)[Z" } : Jvm.MethodName) prog_84_method_4_code (3 : Nat) (Option.some (Jvm.ClassFile.FieldType.array Jvm.ClassFile.FieldType.boolean)), Jvm.Cond.code ({ cls := "com/example/kontroller/kontroller/synthesis/StateGraphComplementPinLaw", name := "check", desc := "([Z[ZII)Z" } : Jvm.MethodName) method_4_code (5 : Nat) (Option.some Jvm.ClassFile.FieldType.boolean)]
set_option maxRecDepth 65536 in
theorem codes_eq : words1.filter isCode = codes1 := rfl
theorem w_codes : ∀ c ∈ words1.filter isCode, c.before args0 about1 = true := by
  rw [codes_eq]
  intro c hc
  simp only [codes1, List.mem_cons, List.not_mem_nil, or_false] at hc
  rcases hc with rfl | rfl | rfl | rfl
  · exact w_c0
  · exact w_c1
  · exact w_c2
  · exact w_c3
set_option maxRecDepth 65536 in
theorem w_t1 : words1.all (fun c => isCode c || c.before args0 about1) = true := by decide +kernel
theorem w_tables : (allAtoms (Jvm.Cond.code x code maxLocals ret :: tables_1)).before args0 about1 = true := by
  rw [allAtoms_all]
  show words1.all (fun c => c.before args0 about1) = true
  refine all_split ?_ w_codes
  rw [w_t1]
set_option maxRecDepth 65536 in
theorem w_case : (Jvm.Cond.and given_1 narrow_1).before args0 about1 = true := by decide +kernel
theorem w_applies : (headSpec (Jvm.Cond.code x code maxLocals ret :: tables_1) room_1).applies x e0.platform about1 = true :=
  (Spec.applies_iff w_frames).mpr ⟨w_running, w_runnable, w_alone, w_named, w_hears, w_ripe, w_room, w_tables⟩
theorem atStart : AtStart classFile x code maxLocals ret World_1 tables_1 room_1 Calls_1 rest_1 Pre_1 launch0 p0 e0 about1 theMethod args0 below0 :=
  ⟨lists_1, trivial, launch0.admits_env _ _ _, launch0.least_env, fairChoices_fair.cas, fairChoices_fair.clock, w_frames, w_args, w_heap, w_applies, trivial, trivial, w_case⟩
end start1
theorem witness_1 : WitnessClaimed_1 := ⟨start1.p0, start1.e0, start1.about1, start1.theMethod, start1.args0, start1.below0, start1.atStart⟩
end Jvm.Pilot.@@N@@
