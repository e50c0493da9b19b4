import JvmDerived
import JvmDerived.Pilot.@@N@@Statement
import JvmDerived.Pilot.@@N@@Code
set_option linter.unusedVariables false
set_option linter.unusedSimpArgs false
namespace Jvm.RoadKit
open Sem ClassFile Op Lib Jvm.Stand Jvm.Free Jvm.LawKit
section OwnEnds
variable {p : Program} {l : Launch} {e : Env} {R : Room} {s : State} {m : MethodId} {args : Array Value} {below : List Frame} {meth : Method} {c : Code} {T T' : State} {locs : List Loc} {cells slots : Nat} {g g' : JFrame} {Q : Option Value → Heap → List Loc → Prop} {C N : Nat}
/-- from here (the state T, the frame g on top) the run ends, and what it leaves is Q -/
def RunsTo (p : Program) (e : Env) (below : List Frame) (s T : State) (g : JFrame) (Q : Option Value → Heap → List Loc → Prop) (C N : Nat) : Prop :=
  ∃ U o, Steps p.tables e below (T.setTop g) U ∧ U.status = .running ∧ Ended U below o ∧ ∃ v L, o = .returned v ∧ Q v U.heap L ∧ FrameEnd s o U L C N
theorem RunsTo.of (k : ∀ t, Steps p.tables e below (T'.setTop g') t → Steps p.tables e below (T.setTop g) t) (h : RunsTo p e below s T' g' Q C N) : RunsTo p e below s T g Q C N := by
  obtain ⟨U, o, k1, r⟩ := h
  exact ⟨U, o, k U k1, r⟩
theorem RunsTo.start (q : g = g') (h : RunsTo p e below s T g' Q C N) : ∃ U o, Steps p.tables e below (T.setTop g) U ∧ U.status = .running ∧ Ended U below o ∧ ∃ v L, o = .returned v ∧ Q v U.heap L ∧ FrameEnd s o U L C N := by
  subst q; exact h
theorem RunsTo.leave (X : Stand p l e R s m args below meth c T locs cells slots) {v : Option Value} (hv : meth.sig.returnType = none → v = none) (hlocks : meth.locks = false) (hq : Q v T.heap locs) (hC : cells ≤ C) (hN : slots ≤ N)
    (k : ∀ fs, (∀ (f : JFrame) (acts : List Action), f.method = m → f.locked = none → f.entered = [] → (doReturn e (T.setTop f) acts v).1 = T.setFrames fs) → Steps p.tables e below (T.setTop g) (T.setFrames fs)) : RunsTo p e below s T g Q C N := by
  obtain ⟨fs, hr, hrun, hended, hW, hsame⟩ := X.leave (v := v) hv hlocks
  exact ⟨_, _, k fs hr, hrun, hended, v, _, rfl, hq, ⟨_, rfl⟩, hW, hsame.mono hC hN⟩
theorem RunsTo.retI (X : Stand p l e R s m args below meth c T locs cells slots) (hx : p.tables.exec = Jvm.exec) {pc : Nat} {Ls : Array Slot} {z : Int32} {rest : List Value} (hret : meth.sig.returnType = some .int) (hlocks : meth.locks = false) (hd : decode c.code pc = .ok (.ireturn, 1)) (hq : Q (some (.int z)) T.heap locs) (hC : cells ≤ C) (hN : slots ≤ N) :
    RunsTo p e below s T (mkF m pc Ls (.int z :: rest)) Q C N := by
  refine RunsTo.leave X (fun h => by rw [hret] at h; cases h) hlocks hq hC hN fun fs hl => ?_
  have hm' : T.vm.method? m = some meth := X.method'
  have hn : narrow .int (.int z) = .int z := rfl
  show Steps p.tables e below (T.setTop { method := m, pc := pc, locals := Ls, stack := _ :: rest, locked := none }) _
  jvm_step X.here [X.here.top, hx, hd, hm', hret, hn]
  first | (intro acts; rw [hl _ acts rfl rfl rfl]) | rw [hl _ _ rfl rfl rfl]
  exact Steps.refl _
theorem RunsTo.retJ (X : Stand p l e R s m args below meth c T locs cells slots) (hx : p.tables.exec = Jvm.exec) {pc : Nat} {Ls : Array Slot} {z : Int64} {rest : List Value} (hret : meth.sig.returnType = some .long) (hlocks : meth.locks = false) (hd : decode c.code pc = .ok (.lreturn, 1)) (hq : Q (some (.long z)) T.heap locs) (hC : cells ≤ C) (hN : slots ≤ N) :
    RunsTo p e below s T (mkF m pc Ls (.long z :: rest)) Q C N := by
  refine RunsTo.leave X (fun h => by rw [hret] at h; cases h) hlocks hq hC hN fun fs hl => ?_
  have hm' : T.vm.method? m = some meth := X.method'
  show Steps p.tables e below (T.setTop { method := m, pc := pc, locals := Ls, stack := _ :: rest, locked := none }) _
  jvm_step X.here [X.here.top, hx, hd, hm', hret, narrow]
  first | (intro acts; rw [hl _ acts rfl rfl rfl]) | rw [hl _ _ rfl rfl rfl]
  exact Steps.refl _
theorem RunsTo.retA (X : Stand p l e R s m args below meth c T locs cells slots) (hx : p.tables.exec = Jvm.exec) {pc : Nat} {Ls : Array Slot} {z : Value} {ty : FieldType} (hret : meth.sig.returnType = some ty) (hty : ty.isReference = true) (hz : z.isRef = true) (hlocks : meth.locks = false) (hd : decode c.code pc = .ok (.areturn, 1)) (hq : Q (some z) T.heap locs) (hC : cells ≤ C) (hN : slots ≤ N) :
    RunsTo p e below s T (mkF m pc Ls [z]) Q C N :=
  RunsTo.leave X (fun h => by rw [hret] at h; cases h) hlocks hq hC hN fun fs hl => X.areturnOut hx hz hret hty hd hl
theorem RunsTo.retN (X : Stand p l e R s m args below meth c T locs cells slots) (hx : p.tables.exec = Jvm.exec) {pc : Nat} {Ls : Array Slot} {z : Int32} {t : FieldType} {rest : List Value} (hret : meth.sig.returnType = some t) (ht : t = .boolean ∨ t = .byte ∨ t = .char ∨ t = .short) (hlocks : meth.locks = false) (hd : decode c.code pc = .ok (.ireturn, 1)) (hq : Q (some (.int (nar t z))) T.heap locs) (hC : cells ≤ C) (hN : slots ≤ N) :
    RunsTo p e below s T (mkF m pc Ls (.int z :: rest)) Q C N :=
  RunsTo.leave X (fun h => by rw [hret] at h; cases h) hlocks hq hC hN fun fs hl => Jvm.RoadKit.retN X hx hret ht hd hl
theorem RunsTo.retV (X : Stand p l e R s m args below meth c T locs cells slots) (hx : p.tables.exec = Jvm.exec) {pc : Nat} {Ls : Array Slot} (hret : meth.sig.returnType = none) (hlocks : meth.locks = false) (hd : decode c.code pc = .ok (.return_, 1)) (hq : Q none T.heap locs) (hC : cells ≤ C) (hN : slots ≤ N) :
    RunsTo p e below s T (mkF m pc Ls []) Q C N :=
  RunsTo.leave X (fun _ => rfl) hlocks hq hC hN fun fs hl => X.returnOut hx hret hd hl
end OwnEnds
theorem nar_ref (ty : FieldType) {v : Value} (hv : v.isRef = true) : narrow ty v = v := by rcases ref_cases hv with rfl | ⟨a, rfl⟩ <;> cases ty <;> rfl
theorem fits_ref' {ty : FieldType} {v : Value} (h : ty.isReference = true) (hv : v.isRef = true) : fits ty v = true := by rcases ref_cases hv with rfl | ⟨a, rfl⟩ <;> cases ty <;> simp_all [fits, FieldType.isReference]
section OwnArf
variable {Z : State} {h h' : Heap} {a b : Addr} {c : Cell} {k : ClassId} {ty : FieldType} {z j : Int32} {f f' : Nat → Value} {v : Value} {sl : Nat} {ws : List Addr}
/-- an array: its kind, its length z, and what each place holds -/
def Arf (Z : State) (h : Heap) (a : Addr) (ty : FieldType) (z : Int32) (f : Nat → Value) : Prop := ∃ c : Cell, Arr Z h a c ty ∧ c.slots.size = z.toNatClampNeg ∧ ¬ z < 0 ∧ ∀ j, j < c.slots.size → c.slots[j]? = some (f j)
theorem Arf.lt (F : Arf Z h a ty z f) : a < h.size := by obtain ⟨c, A, -⟩ := F; exact A.lt
theorem Arf.ext (F : Arf Z h a ty z f) (E : Ext h h') : Arf Z h' a ty z f := by obtain ⟨c, A, r⟩ := F; exact ⟨c, A.ext E, r⟩
theorem Arf.other (F : Arf Z h b ty z f) (W : Wr h h' a sl v) (q : b ≠ a) : Arf Z h' b ty z f := by obtain ⟨c, A, r⟩ := F; exact ⟨c, A.other W q, r⟩
theorem Arf.keep (F : Arf Z h a ty z f) (K : Keep h h' ws) (q : a ∉ ws) : Arf Z h' a ty z f := by obtain ⟨c, A, r⟩ := F; exact ⟨c, ⟨K.2.1 a c A.1 q, A.2⟩, r⟩
theorem Arf.new (A : Arr Z h a (newA k ty z) ty) (q : ¬ z < 0) : Arf Z h a ty z (fun _ => defaultValue ty) := ⟨_, A, sz_new _ _ _, q, fun i hi => by rw [sz_new] at hi; simp [newA, hi]⟩
theorem Arf.congr (F : Arf Z h a ty z f) (q : ∀ i, i < z.toNatClampNeg → f i = f' i) : Arf Z h a ty z f' := by
  obtain ⟨c, A, S, M, H⟩ := F
  exact ⟨c, A, S, M, fun i hi => by rw [← q i (S ▸ hi)]; exact H i hi⟩
theorem Arf.set (A : Arr Z h a c ty) (S : c.slots.size = z.toNatClampNeg) (M : ¬ z < 0) (H : ∀ i, i < c.slots.size → c.slots[i]? = some (f i)) (W : Wr h h' a j.toNatClampNeg v) : Arf Z h' a ty z (fun i => if i = j.toNatClampNeg then v else f i) := by
  refine ⟨_, A.same W, by rw [sz_set]; exact S, M, fun i hi => ?_⟩
  rw [sz_set] at hi
  by_cases u : i = j.toNatClampNeg
  · subst u
    simp [Cell.setSlot, hi]
  · have : (c.setSlot j.toNatClampNeg v).slots[i]? = c.slots[i]? := by
      simp only [Cell.setSlot]; exact Array.getElem?_setIfInBounds_ne (Ne.symm u)
    rw [this]; show _ = some (if i = j.toNatClampNeg then v else f i); rw [if_neg u]; exact H i hi
end OwnArf
end Jvm.RoadKit
namespace Jvm.Pilot.@@N@@
open Jvm Jvm.ClassFile Sem Op Lib Jvm.Free Jvm.Stand Jvm.LawKit Jvm.RoadKit Bundle Jvm.Pilot.@@N@@.Jvm.D
/-! numbers -/
def own_max (x y : Int32) : Int32 := if x < y then y else x
def own_len (p l : Int32) : Int32 := own_max l (p / 8 + 1)
def own_w (a : Int32) : Int32 := nar .byte ((1 <<< (a &&& 31)).toInt8.toInt32)
def own_f (p : Int32) : Nat → Value := fun i => if i = (p / 8).toNatClampNeg then .int (own_w (p % 8)) else .int 0
theorem own_key : ∀ a b : Fin 8, ((own_w (Int32.ofInt (a.val : Int))) >>> ((Int32.ofInt (b.val : Int)) &&& 31)) &&& 1 = if (Int32.ofInt (a.val : Int)) = (Int32.ofInt (b.val : Int)) then 1 else 0 := by decide +kernel
theorem own_zero : ∀ b : Fin 8, ((0 : Int32) >>> ((Int32.ofInt (b.val : Int)) &&& 31)) &&& 1 = 0 := by decide +kernel
theorem own_fin (a : Int32) (h : 0 ≤ a.toInt ∧ a.toInt < 8) : ∃ k : Fin 8, a = Int32.ofInt (k.val : Int) := by
  refine ⟨⟨a.toInt.toNat, by omega⟩, ?_⟩
  rw [Int.toNat_of_nonneg h.1, Int32.ofInt_toInt]
theorem own_bits (a b : Int32) (ha : 0 ≤ a.toInt ∧ a.toInt < 8) (hb : 0 ≤ b.toInt ∧ b.toInt < 8) : (own_w a >>> (b &&& 31)) &&& 1 = if a = b then 1 else 0 := by
  obtain ⟨k, rfl⟩ := own_fin a ha
  obtain ⟨j, rfl⟩ := own_fin b hb
  exact own_key k j
theorem own_zbits (b : Int32) (hb : 0 ≤ b.toInt ∧ b.toInt < 8) : ((0 : Int32) >>> (b &&& 31)) &&& 1 = 0 := by
  obtain ⟨j, rfl⟩ := own_fin b hb
  exact own_zero j
theorem own_div (p : Int32) (h : 0 ≤ p.toInt) : (p / 8).toInt = p.toInt / 8 := (c_idiv p 8 8 rfl (by decide)).1 h
theorem own_rem (p : Int32) (h : 0 ≤ p.toInt) : (p % 8).toInt = p.toInt % 8 := (c_irem p 8 8 rfl).1 h
theorem own_shr (p : Int32) : (p >>> ((3 : Int32) &&& 31)).toInt = p.toInt / 8 := c_ishr p 3 3 (by decide)
theorem own_and7 (p : Int32) : (p &&& 7).toInt = p.toInt % 8 := c_mask p 7 3 (by decide) (by decide)
theorem own_lenI (p l : Int32) (hp : 0 ≤ p.toInt ∧ p.toInt ≤ 255) (hl : 0 ≤ l.toInt ∧ l.toInt ≤ 31) : (own_len p l).toInt = max l.toInt (p.toInt / 8 + 1) := by
  have h1 := own_div p hp.1
  have h2 := c_iadd (p / 8) 1
  have h3 := rng32 (p / 8 + 1)
  have h4 : (1 : Int32).toInt = 1 := rfl
  unfold own_len own_max
  split
  · rename_i h; rw [Int32.lt_iff_toInt_lt] at h; omega
  · rename_i h; rw [Int32.lt_iff_toInt_lt] at h; omega
theorem own_nat (j : Int32) (h : 0 ≤ j.toInt) : (j.toNatClampNeg : Int) = j.toInt := by simp only [Int32.toNatClampNeg]; omega
/-- what 'bit' reads -/
theorem own_read (p i : Int32) (hp : 0 ≤ p.toInt ∧ p.toInt ≤ 255) (hi : 0 ≤ i.toInt) :
    ∃ w : Int32, own_f p (i >>> ((3 : Int32) &&& 31)).toNatClampNeg = .int w ∧ (w >>> ((i &&& 7) &&& 31)) &&& 1 = if i = p then 1 else 0 := by
  have h1 := own_div p hp.1
  have h2 := own_rem p hp.1
  have h3 := own_shr i
  have h4 := own_and7 i
  have n1 := own_nat (p / 8) (by omega)
  have n2 := own_nat (i >>> ((3 : Int32) &&& 31)) (by omega)
  by_cases h : (i >>> ((3 : Int32) &&& 31)).toNatClampNeg = (p / 8).toNatClampNeg
  · refine ⟨own_w (p % 8), by simp only [own_f, if_pos h], ?_⟩
    rw [own_bits (p % 8) (i &&& 7) (by omega) (by omega)]
    have : (p % 8 = i &&& 7) ↔ i = p := by
      rw [← Int32.toInt_inj, ← Int32.toInt_inj]; omega
    simp only [this]
  · refine ⟨0, by simp only [own_f, if_neg h], ?_⟩
    rw [own_zbits _ (by omega), if_neg]
    intro q; subst q; omega
theorem d2_0 : decode jdk_29_method_65_code 0 = .ok (.iload_n 0, 1) := by decide +kernel
theorem d2_1 : decode jdk_29_method_65_code 1 = .ok (.iload_n 1, 1) := by decide +kernel
theorem d2_2 : decode jdk_29_method_65_code 2 = .ok (.if_icmp .lt 7, 3) := by decide +kernel
theorem d2_9 : decode jdk_29_method_65_code 9 = .ok (.iload_n 1, 1) := by decide +kernel
theorem d2_5 : decode jdk_29_method_65_code 5 = .ok (.iload_n 0, 1) := by decide +kernel
theorem d2_6 : decode jdk_29_method_65_code 6 = .ok (.goto 4, 3) := by decide +kernel
theorem d2_10 : decode jdk_29_method_65_code 10 = .ok (.ireturn, 1) := by decide +kernel
theorem ef_rm2 (m : MethodId) (x0 : Int32) (x1 : Int32) : entryFrame m #[(.int x0), (.int x1)] 2 = mkF m 0 #[.val (.int x0), .val (.int x1)] [] := by first | (simp [entryFrame, mkF, argsToLocals, Value.category]; done) | rfl
def Q2 (Z : State) (x0 : Int32) (x1 : Int32) (h0 : Heap) (n0 : Nat) (v : Option Value) (h : Heap) (L : List Loc) : Prop := v = some (.int (own_max x0 x1)) ∧ Fr n0 L ∧ h = h0
set_option maxRecDepth 65536 in
set_option maxHeartbeats 40000000 in
theorem rm2 (l : Launch) (Z : State) (a0 : Array Value) (hw : ∀ d ∈ tables_1, d.before a0 Z = true) (ws : List Jvm.Cond) (x0 : Int32) (x1 : Int32) (h0 : Heap) (n0 : Nat) (Z0 : n0 ≤ h0.size)  :
    MetFree l (⟨"java/lang/Math", "max", "(II)I"⟩ : MethodName) (head1 (Jvm.Cond.code (⟨"java/lang/Math", "max", "(II)I"⟩ : MethodName) jdk_29_method_65_code 2 (some .int) :: ws) ({ frames := 0, cells := 0, slots := 0, locals := 0 } : Room)) (fun as' U => as' = #[(.int x0), (.int x1)] ∧ Z.Warmed39 U.vm ∧ U.heap = h0) (fun _ _ _ _ _ => True) (fun _ U o U' => ∃ v L, o = .returned v ∧ Q2 Z x0 x1 h0 n0 v U'.heap L ∧ FrameEnd U o U' L ({ frames := 0, cells := 0, slots := 0, locals := 0 } : Room).cells ({ frames := 0, cells := 0, slots := 0, locals := 0 } : Room).slots) := by
  refine MetFree.of_bodySF (Jvm.Free.JP.mathPlain rfl (by decide +kernel)) hisR ?_
  intro p e s m args below meth c s₁ Bd hml0 hP hK
  obtain ⟨rfl, hZ, hh⟩ := hP
  have hx := Bd.exec
  have hby := Bd.bytes
  have hml : c.maxLocals = 2 := hml0
  have hown : s.vm.findClass "java/lang/Math" = some m.cls := findClass_of_methodNamed Bd.named
  have hnm := (name_of_methodNamed Bd.named Bd.method).1
  have X0 : Stand p l e ({ frames := 0, cells := 0, slots := 0, locals := 0 } : Room) s m #[(.int x0), (.int x1)] below meth c s₁ [] 0 0 := Stand.of_body Bd
  have e0 : s₁.heap = h0 := by rw [← hh, Bd.state]; rfl
  have N0 := Fr.nil n0
  refine RunsTo.start (ef_rm2 m x0 x1) ?_
  show RunsTo p e below s s₁ (mkF m 0 #[.val (.int x0), .val (.int x1)] []) (Q2 Z x0 x1 h0 n0) ({ frames := 0, cells := 0, slots := 0, locals := 0 } : Room).cells ({ frames := 0, cells := 0, slots := 0, locals := 0 } : Room).slots
  refine RunsTo.of (T' := s₁) (g' := (mkF m 2 #[.val (.int x0), .val (.int x1)] [(.int x1), (.int x0)])) (fun tgt_ kt => ?_) ?_
  · refine XS.iloadN X0.here hx rfl (hb hby d2_0) rfl ?_
    show Steps p.tables e below (s₁.setTop (mkF m 1 #[.val (.int x0), .val (.int x1)] [(.int x0)])) _
    refine XS.iloadN X0.here hx rfl (hb hby d2_1) rfl ?_
    show Steps p.tables e below (s₁.setTop (mkF m 2 #[.val (.int x0), .val (.int x1)] [(.int x1), (.int x0)])) _
    exact kt
  obtain ⟨y, hy⟩ : ∃ z : Int32, z = (if x0 < x1 then x1 else x0) := ⟨_, rfl⟩
  refine RunsTo.of (T' := s₁) (g' := (mkF m 10 #[.val (.int x0), .val (.int x1)] [(.int y)])) (fun tgt_ kt => ?_) ?_
  · by_cases hc2 : x0 < x1
    · refine XS.icmpYes X0.here hx rfl (pc0 := 2) (pc' := 9) rfl (hb hby d2_2) rfl (tlt hc2).1 (by decide) (by decide) ?_
      show Steps p.tables e below (s₁.setTop (mkF m 9 #[.val (.int x0), .val (.int x1)] [])) _
      try rw [if_pos hc2] at hy
      rw [hy] at kt
      refine XS.iloadN X0.here hx rfl (hb hby d2_9) rfl ?_
      show Steps p.tables e below (s₁.setTop (mkF m 10 #[.val (.int x0), .val (.int x1)] [(.int x1)])) _
      exact kt
    · refine XS.icmpNo X0.here hx rfl (hb hby d2_2) rfl (flt hc2).1 ?_
      show Steps p.tables e below (s₁.setTop (mkF m 5 #[.val (.int x0), .val (.int x1)] [])) _
      try rw [if_neg hc2] at hy
      rw [hy] at kt
      refine XS.iloadN X0.here hx rfl (hb hby d2_5) rfl ?_
      show Steps p.tables e below (s₁.setTop (mkF m 6 #[.val (.int x0), .val (.int x1)] [(.int x0)])) _
      refine XS.goto X0.here hx rfl (pc0 := 6) (pc' := 10) rfl (hb hby d2_6) (by decide) (by decide) ?_
      show Steps p.tables e below (s₁.setTop (mkF m 10 #[.val (.int x0), .val (.int x1)] [(.int x0)])) _
      exact kt
  refine RunsTo.retI X0 hx Bd.returns Bd.notSynchronized (hb hby d2_10) ?_ (by decide) (by decide)
  rw [e0, hy]
  exact ⟨rfl, N0, rfl⟩
theorem d1_0 : decode prog_86_method_14_code 0 = .ok (.iload_n 1, 1) := by decide +kernel
theorem d1_1 : decode prog_86_method_14_code 1 = .ok (.iload_n 0, 1) := by decide +kernel
theorem d1_2 : decode prog_86_method_14_code 2 = .ok (.bipush 8, 2) := by decide +kernel
theorem d1_4 : decode prog_86_method_14_code 4 = .ok (.idiv, 1) := by decide +kernel
theorem d1_5 : decode prog_86_method_14_code 5 = .ok (.iconst 1, 1) := by decide +kernel
theorem d1_6 : decode prog_86_method_14_code 6 = .ok (.iadd, 1) := by decide +kernel
theorem pd_0 : parseMethodDescriptor "(II)I" = some ⟨[.int, .int], some .int⟩ := by decide +kernel
theorem d1_7 : decode prog_86_method_14_code 7 = .ok (.invokestatic 174, 3) := by decide +kernel
theorem d1_10 : decode prog_86_method_14_code 10 = .ok (.newarray .byte, 2) := by decide +kernel
theorem d1_12 : decode prog_86_method_14_code 12 = .ok (.astore_n 2, 1) := by decide +kernel
theorem d1_13 : decode prog_86_method_14_code 13 = .ok (.aload_n 2, 1) := by decide +kernel
theorem d1_14 : decode prog_86_method_14_code 14 = .ok (.iload_n 0, 1) := by decide +kernel
theorem d1_15 : decode prog_86_method_14_code 15 = .ok (.bipush 8, 2) := by decide +kernel
theorem d1_17 : decode prog_86_method_14_code 17 = .ok (.idiv, 1) := by decide +kernel
theorem d1_18 : decode prog_86_method_14_code 18 = .ok (.iconst 1, 1) := by decide +kernel
theorem d1_19 : decode prog_86_method_14_code 19 = .ok (.iload_n 0, 1) := by decide +kernel
theorem d1_20 : decode prog_86_method_14_code 20 = .ok (.bipush 8, 2) := by decide +kernel
theorem d1_22 : decode prog_86_method_14_code 22 = .ok (.irem, 1) := by decide +kernel
theorem d1_23 : decode prog_86_method_14_code 23 = .ok (.ishl, 1) := by decide +kernel
theorem d1_24 : decode prog_86_method_14_code 24 = .ok (.i2b, 1) := by decide +kernel
theorem d1_25 : decode prog_86_method_14_code 25 = .ok (.bastore, 1) := by decide +kernel
theorem d1_26 : decode prog_86_method_14_code 26 = .ok (.aload_n 2, 1) := by decide +kernel
theorem d1_27 : decode prog_86_method_14_code 27 = .ok (.areturn, 1) := by decide +kernel
theorem pn_0 : plainName "com/example/roleweave/roleweave/tpm/Tpm" = true := by first | (simp [plainName, overriddenIn]; done) | decide +kernel
theorem ef_rm1 (m : MethodId) (x0 : Int32) (x1 : Int32) : entryFrame m #[(.int x0), (.int x1)] 3 = mkF m 0 #[.val (.int x0), .val (.int x1), .unset] [] := by first | (simp [entryFrame, mkF, argsToLocals, Value.category]; done) | rfl
def Q1 (Z : State) (x0 : Int32) (x1 : Int32) (h0 : Heap) (n0 : Nat) (v : Option Value) (h : Heap) (L : List Loc) : Prop := ∃ a : Addr, v = some (.ref a) ∧ Fr n0 L ∧ h0.size ≤ a ∧ Keep h0 h [] ∧ Arf Z h a .byte (own_len x0 x1) (own_f x0)
set_option maxRecDepth 65536 in
set_option maxHeartbeats 40000000 in
theorem rm1 (l : Launch) (Z : State) (a0 : Array Value) (hw : ∀ d ∈ tables_1, d.before a0 Z = true) (ws : List Jvm.Cond) (x0 : Int32) (x1 : Int32) (h0 : Heap) (n0 : Nat) (Z0 : n0 ≤ h0.size) (hp : 0 ≤ x0.toInt ∧ x0.toInt ≤ 255) (hl : 0 ≤ x1.toInt ∧ x1.toInt ≤ 31) :
    MetFree l (⟨"com/example/roleweave/roleweave/tpm/Tpm", "selecting", "(II)[B"⟩ : MethodName) (head1 (Jvm.Cond.code (⟨"com/example/roleweave/roleweave/tpm/Tpm", "selecting", "(II)[B"⟩ : MethodName) prog_86_method_14_code 3 (some (.array .byte)) :: ws) ({ frames := 1, cells := 1, slots := 32, locals := 13 } : Room)) (fun as' U => as' = #[(.int x0), (.int x1)] ∧ Z.Warmed39 U.vm ∧ U.heap = h0) (fun _ _ _ _ _ => True) (fun _ U o U' => ∃ v L, o = .returned v ∧ Q1 Z x0 x1 h0 n0 v U'.heap L ∧ FrameEnd U o U' L ({ frames := 1, cells := 1, slots := 32, locals := 13 } : Room).cells ({ frames := 1, cells := 1, slots := 32, locals := 13 } : Room).slots) := by
  refine MetFree.of_bodySF (plainFor_of_name pn_0) hisR ?_
  intro p e s m args below meth c s₁ Bd hml0 hP hK
  obtain ⟨rfl, hZ, hh⟩ := hP
  have hx := Bd.exec
  have hby := Bd.bytes
  have hml : c.maxLocals = 3 := hml0
  have hown : s.vm.findClass "com/example/roleweave/roleweave/tpm/Tpm" = some m.cls := findClass_of_methodNamed Bd.named
  have hnm := (name_of_methodNamed Bd.named Bd.method).1
  have X0 : Stand p l e ({ frames := 1, cells := 1, slots := 32, locals := 13 } : Room) s m #[(.int x0), (.int x1)] below meth c s₁ [] 0 0 := Stand.of_body Bd
  have e0 : s₁.heap = h0 := by rw [← hh, Bd.state]; rfl
  have N0 := Fr.nil n0
  refine RunsTo.start (ef_rm1 m x0 x1) ?_
  show RunsTo p e below s s₁ (mkF m 0 #[.val (.int x0), .val (.int x1), .unset] []) (Q1 Z x0 x1 h0 n0) ({ frames := 1, cells := 1, slots := 32, locals := 13 } : Room).cells ({ frames := 1, cells := 1, slots := 32, locals := 13 } : Room).slots
  refine RunsTo.of (T' := s₁) (g' := (mkF m 7 #[.val (.int x0), .val (.int x1), .unset] [(.int ((x0 / (8 : Int32)) + (1 : Int32))), (.int x1)])) (fun tgt_ kt => ?_) ?_
  · refine XS.iloadN X0.here hx rfl (hb hby d1_0) rfl ?_
    show Steps p.tables e below (s₁.setTop (mkF m 1 #[.val (.int x0), .val (.int x1), .unset] [(.int x1)])) _
    refine XS.iloadN X0.here hx rfl (hb hby d1_1) rfl ?_
    show Steps p.tables e below (s₁.setTop (mkF m 2 #[.val (.int x0), .val (.int x1), .unset] [(.int x0), (.int x1)])) _
    refine XS.bipush X0.here hx rfl (hb hby d1_2) ?_
    show Steps p.tables e below (s₁.setTop (mkF m 4 #[.val (.int x0), .val (.int x1), .unset] [(.int (8 : Int32)), (.int x0), (.int x1)])) _
    refine XS.idiv X0.here hx rfl (hb hby d1_4) rfl (by decide) ?_
    show Steps p.tables e below (s₁.setTop (mkF m 5 #[.val (.int x0), .val (.int x1), .unset] [(.int (x0 / (8 : Int32))), (.int x1)])) _
    refine XS.iconst X0.here hx rfl (hb hby d1_5) ?_
    show Steps p.tables e below (s₁.setTop (mkF m 6 #[.val (.int x0), .val (.int x1), .unset] [(.int (1 : Int32)), (.int (x0 / (8 : Int32))), (.int x1)])) _
    refine XS.iadd X0.here hx rfl (hb hby d1_6) rfl ?_
    show Steps p.tables e below (s₁.setTop (mkF m 7 #[.val (.int x0), .val (.int x1), .unset] [(.int ((x0 / (8 : Int32)) + (1 : Int32))), (.int x1)])) _
    exact kt
  obtain ⟨_, _, ⟨T1, L1, k1, n1⟩, -, X1, ⟨Lc1, hQ1, l1, y1, z1⟩, st1⟩ := Jvm.LawKit.callS X0 hx (y := (⟨"java/lang/Math", "max", "(II)I"⟩ : MethodName)) hown (mvT hZ (hw _ (List.mem_of_getElem? (i := 4) rfl))) (mvT hZ (hw _ (List.mem_of_getElem? (i := 5) rfl))) (mvT hZ (hw _ (List.mem_of_getElem? (i := 6) rfl))) (mvT hZ (hw _ (List.mem_of_getElem? (i := 7) rfl))) (by decide) (backOf (W := 0) (rm2 l Z a0 hw [] x1 (x0 / 8 + 1) h0 n0 Z0 ) hZ (hw _ (List.mem_of_getElem? (i := 7) rfl)) (hw _ (List.mem_of_getElem? (i := 6) rfl)) (by decide) (by decide)) (g := (mkF m 7 #[.val (.int x0), .val (.int x1), .unset] [(.int ((x0 / (8 : Int32)) + (1 : Int32))), (.int x1)])) rfl (by rw [hml]; rfl) (argsL := [(.int x1), (.int ((x0 / (8 : Int32)) + (1 : Int32)))]) (rest := []) (lenOf pd_0 rfl) rfl (by show 2 * 0 + _ ≤ _; exact Nat.le_of_eq rfl) (hb hby d1_7) (fun _ _ => ⟨rfl, e0, (by decide : 0 + 0 ≤ _), (by decide : 0 + 0 ≤ _)⟩)
  dsimp only [Pt.U, Pt.locs, Pt.cells, Pt.slots] at X1 l1 y1 z1 st1 hQ1
  subst l1 y1 z1
  obtain ⟨rfl, N1q, e1⟩ := hQ1
  have N1 := Fr.app N0 N1q
  refine RunsTo.of (T' := T1) (g' := (mkF m 10 #[.val (.int x0), .val (.int x1), .unset] [(.int (own_len x0 x1))])) st1 ?_
  have hI := own_lenI x0 x1 hp hl
  have hdv := own_div x0 hp.1
  have hneg : ¬ own_len x0 x1 < 0 := by rw [Int32.lt_iff_toInt_lt]; show ¬ _ < (0 : Int); omega
  have hcp : (own_len x0 x1).toNatClampNeg ≤ 32 := by have := own_nat (own_len x0 x1) (by omega); omega
  obtain ⟨T2, h2, k2, X2, e2, E2, A2, st2⟩ := newP X1 hx hZ (hw _ (List.mem_of_getElem? (i := 8) rfl)) e1 (g := (mkF m 10 #[.val (.int x0), .val (.int x1), .unset] [(.int (own_len x0 x1))])) rfl (hb hby d1_10) rfl hneg (cap := 32) hcp (by decide) (by decide) (by decide)
  obtain ⟨a, g2⟩ : ∃ z, z = h0.size := ⟨_, rfl⟩
  rw [← g2] at A2 st2
  have Z2 : n0 ≤ h2.size := Nat.le_trans Z0 E2.1
  have g_a : n0 ≤ a := Nat.le_trans Z0 (Nat.le_of_eq g2.symm)
  have V_a : Arf Z h2 a .byte (own_len x0 x1) (fun _ => (Value.int (0 : Int32))) := Arf.new A2 hneg
  refine RunsTo.of (T' := T2) (g' := (mkF m 12 #[.val (.int x0), .val (.int x1), .unset] [(.ref a)])) st2 ?_
  refine RunsTo.of (T' := T2) (g' := (mkF m 25 #[.val (.int x0), .val (.int x1), .val (.ref a)] [(.int ((1 : Int32) <<< ((x0 % (8 : Int32)) &&& 31)).toInt8.toInt32), (.int (x0 / (8 : Int32))), (.ref a)])) (fun tgt_ kt => ?_) ?_
  · refine XS.astoreN X2.here hx rfl (hb hby d1_12) rfl rfl (l' := #[.val (.int x0), .val (.int x1), .val (.ref a)]) rfl ?_
    show Steps p.tables e below (T2.setTop (mkF m 13 #[.val (.int x0), .val (.int x1), .val (.ref a)] [])) _
    refine XS.aloadN X2.here hx rfl (hb hby d1_13) rfl rfl ?_
    show Steps p.tables e below (T2.setTop (mkF m 14 #[.val (.int x0), .val (.int x1), .val (.ref a)] [(.ref a)])) _
    refine XS.iloadN X2.here hx rfl (hb hby d1_14) rfl ?_
    show Steps p.tables e below (T2.setTop (mkF m 15 #[.val (.int x0), .val (.int x1), .val (.ref a)] [(.int x0), (.ref a)])) _
    refine XS.bipush X2.here hx rfl (hb hby d1_15) ?_
    show Steps p.tables e below (T2.setTop (mkF m 17 #[.val (.int x0), .val (.int x1), .val (.ref a)] [(.int (8 : Int32)), (.int x0), (.ref a)])) _
    refine XS.idiv X2.here hx rfl (hb hby d1_17) rfl (by decide) ?_
    show Steps p.tables e below (T2.setTop (mkF m 18 #[.val (.int x0), .val (.int x1), .val (.ref a)] [(.int (x0 / (8 : Int32))), (.ref a)])) _
    refine XS.iconst X2.here hx rfl (hb hby d1_18) ?_
    show Steps p.tables e below (T2.setTop (mkF m 19 #[.val (.int x0), .val (.int x1), .val (.ref a)] [(.int (1 : Int32)), (.int (x0 / (8 : Int32))), (.ref a)])) _
    refine XS.iloadN X2.here hx rfl (hb hby d1_19) rfl ?_
    show Steps p.tables e below (T2.setTop (mkF m 20 #[.val (.int x0), .val (.int x1), .val (.ref a)] [(.int x0), (.int (1 : Int32)), (.int (x0 / (8 : Int32))), (.ref a)])) _
    refine XS.bipush X2.here hx rfl (hb hby d1_20) ?_
    show Steps p.tables e below (T2.setTop (mkF m 22 #[.val (.int x0), .val (.int x1), .val (.ref a)] [(.int (8 : Int32)), (.int x0), (.int (1 : Int32)), (.int (x0 / (8 : Int32))), (.ref a)])) _
    refine XS.irem X2.here hx rfl (hb hby d1_22) rfl (by decide) ?_
    rw [irem_eq_mod]
    show Steps p.tables e below (T2.setTop (mkF m 23 #[.val (.int x0), .val (.int x1), .val (.ref a)] [(.int (x0 % (8 : Int32))), (.int (1 : Int32)), (.int (x0 / (8 : Int32))), (.ref a)])) _
    refine XS.ishl X2.here hx rfl (hb hby d1_23) rfl ?_
    show Steps p.tables e below (T2.setTop (mkF m 24 #[.val (.int x0), .val (.int x1), .val (.ref a)] [(.int ((1 : Int32) <<< ((x0 % (8 : Int32)) &&& 31))), (.int (x0 / (8 : Int32))), (.ref a)])) _
    refine XS.i2b X2.here hx rfl (hb hby d1_24) rfl ?_
    show Steps p.tables e below (T2.setTop (mkF m 25 #[.val (.int x0), .val (.int x1), .val (.ref a)] [(.int ((1 : Int32) <<< ((x0 % (8 : Int32)) &&& 31)).toInt8.toInt32), (.int (x0 / (8 : Int32))), (.ref a)])) _
    exact kt
  obtain ⟨cl_a_3, Ar_a_3, S_a_3, M_a_3, H_a_3⟩ := id V_a
  have hin_a_3 : ¬ ((x0 / (8 : Int32)) < 0 ∨ cl_a_3.slots.size ≤ ((x0 / (8 : Int32))).toNatClampNeg) := inb_of S_a_3 ⟨by rw [Int32.lt_iff_toInt_lt]; show ¬ _ < (0 : Int); omega, by rw [Int32.lt_iff_toInt_lt]; omega⟩
  obtain ⟨T4, h4, X4, e4, W4, st4⟩ := stB X2 hx hZ e2 Ar_a_3 (j := (x0 / (8 : Int32))) hin_a_3 (g := (mkF m 25 #[.val (.int x0), .val (.int x1), .val (.ref a)] [(.int ((1 : Int32) <<< ((x0 % (8 : Int32)) &&& 31)).toInt8.toInt32), (.int (x0 / (8 : Int32))), (.ref a)])) rfl rfl (hb hby d1_25)
  have N4 := Fr.snoc X4 N1 g_a
  have Z4 : n0 ≤ h4.size := Nat.le_trans Z2 (Nat.le_of_eq W4.size.symm)
  have V_a : Arf Z h4 a .byte (own_len x0 x1) (fun jj => if jj = ((x0 / (8 : Int32))).toNatClampNeg then (Value.int (nar .byte ((1 : Int32) <<< ((x0 % (8 : Int32)) &&& 31)).toInt8.toInt32)) else (fun _ => (Value.int (0 : Int32))) jj) := Arf.set Ar_a_3 S_a_3 M_a_3 H_a_3 W4
  have V_a : Arf Z h4 a .byte (own_len x0 x1) (own_f x0) := V_a.congr (fun i hi => rfl)
  refine RunsTo.of (T' := T4) (g' := (mkF m 26 #[.val (.int x0), .val (.int x1), .val (.ref a)] [])) st4 ?_
  refine RunsTo.of (T' := T4) (g' := (mkF m 27 #[.val (.int x0), .val (.int x1), .val (.ref a)] [(.ref a)])) (fun tgt_ kt => ?_) ?_
  · refine XS.aloadN X4.here hx rfl (hb hby d1_26) rfl rfl ?_
    show Steps p.tables e below (T4.setTop (mkF m 27 #[.val (.int x0), .val (.int x1), .val (.ref a)] [(.ref a)])) _
    exact kt
  refine RunsTo.retA X4 hx Bd.returns rfl rfl Bd.notSynchronized (hb hby d1_27) ?_ (by decide) (by decide)
  rw [e4]
  exact ⟨a, rfl, N4, Nat.le_of_eq g2.symm, ((Keep.refl h0 []).ext E2).wr W4 (Or.inr (Nat.le_of_eq g2.symm)), V_a⟩
theorem d3_0 : decode method_2_code 0 = .ok (.aload_n 0, 1) := by decide +kernel
theorem d3_1 : decode method_2_code 1 = .ok (.iload_n 1, 1) := by decide +kernel
theorem d3_2 : decode method_2_code 2 = .ok (.iconst 3, 1) := by decide +kernel
theorem d3_3 : decode method_2_code 3 = .ok (.ishr, 1) := by decide +kernel
theorem d3_4 : decode method_2_code 4 = .ok (.baload, 1) := by decide +kernel
theorem d3_5 : decode method_2_code 5 = .ok (.iload_n 1, 1) := by decide +kernel
theorem d3_6 : decode method_2_code 6 = .ok (.bipush 7, 2) := by decide +kernel
theorem d3_8 : decode method_2_code 8 = .ok (.iand, 1) := by decide +kernel
theorem d3_9 : decode method_2_code 9 = .ok (.ishr, 1) := by decide +kernel
theorem d3_10 : decode method_2_code 10 = .ok (.iconst 1, 1) := by decide +kernel
theorem d3_11 : decode method_2_code 11 = .ok (.iand, 1) := by decide +kernel
theorem d3_12 : decode method_2_code 12 = .ok (.ireturn, 1) := by decide +kernel
theorem pn_1 : plainName "com/example/roleweave/roleweave/tpm/TpmSelectingPinLaw" = true := by first | (simp [plainName, overriddenIn]; done) | decide +kernel
theorem ef_rm3 (m : MethodId) (x0 : Addr) (x1 : Int32) : entryFrame m #[(.ref x0), (.int x1)] 2 = mkF m 0 #[.val (.ref x0), .val (.int x1)] [] := by first | (simp [entryFrame, mkF, argsToLocals, Value.category]; done) | rfl
def Q3 (Z : State) (a : Addr) (x1 : Int32) (z w : Int32) (f : Nat → Value) (h0 : Heap) (n0 : Nat) (v : Option Value) (h : Heap) (L : List Loc) : Prop := v = some (.int ((w >>> ((x1 &&& 7) &&& 31)) &&& 1)) ∧ Fr n0 L ∧ h = h0
set_option maxRecDepth 65536 in
set_option maxHeartbeats 40000000 in
theorem rm3 (l : Launch) (Z : State) (a0 : Array Value) (hw : ∀ d ∈ tables_1, d.before a0 Z = true) (ws : List Jvm.Cond) (a : Addr) (x1 : Int32) (z w : Int32) (f : Nat → Value) (h0 : Heap) (n0 : Nat) (Z0 : n0 ≤ h0.size) (V_a : Arf Z h0 a .byte z f) (hin : ¬ (x1 >>> ((3 : Int32) &&& 31)) < 0 ∧ (x1 >>> ((3 : Int32) &&& 31)) < z) (hf : f (x1 >>> ((3 : Int32) &&& 31)).toNatClampNeg = .int w) :
    MetFree l (⟨"com/example/roleweave/roleweave/tpm/TpmSelectingPinLaw", "bit", "([BI)I"⟩ : MethodName) (head1 (Jvm.Cond.code (⟨"com/example/roleweave/roleweave/tpm/TpmSelectingPinLaw", "bit", "([BI)I"⟩ : MethodName) method_2_code 2 (some .int) :: ws) ({ frames := 0, cells := 0, slots := 0, locals := 0 } : Room)) (fun as' U => as' = #[(.ref a), (.int x1)] ∧ Z.Warmed39 U.vm ∧ U.heap = h0) (fun _ _ _ _ _ => True) (fun _ U o U' => ∃ v L, o = .returned v ∧ Q3 Z a x1 z w f h0 n0 v U'.heap L ∧ FrameEnd U o U' L ({ frames := 0, cells := 0, slots := 0, locals := 0 } : Room).cells ({ frames := 0, cells := 0, slots := 0, locals := 0 } : Room).slots) := by
  refine MetFree.of_bodySF (plainFor_of_name pn_1) hisR ?_
  intro p e s m args below meth c s₁ Bd hml0 hP hK
  obtain ⟨rfl, hZ, hh⟩ := hP
  have hx := Bd.exec
  have hby := Bd.bytes
  have hml : c.maxLocals = 2 := hml0
  have hown : s.vm.findClass "com/example/roleweave/roleweave/tpm/TpmSelectingPinLaw" = some m.cls := findClass_of_methodNamed Bd.named
  have hnm := (name_of_methodNamed Bd.named Bd.method).1
  have X0 : Stand p l e ({ frames := 0, cells := 0, slots := 0, locals := 0 } : Room) s m #[(.ref a), (.int x1)] below meth c s₁ [] 0 0 := Stand.of_body Bd
  have e0 : s₁.heap = h0 := by rw [← hh, Bd.state]; rfl
  have N0 := Fr.nil n0
  refine RunsTo.start (ef_rm3 m a x1) ?_
  show RunsTo p e below s s₁ (mkF m 0 #[.val (.ref a), .val (.int x1)] []) (Q3 Z a x1 z w f h0 n0) ({ frames := 0, cells := 0, slots := 0, locals := 0 } : Room).cells ({ frames := 0, cells := 0, slots := 0, locals := 0 } : Room).slots
  refine RunsTo.of (T' := s₁) (g' := (mkF m 4 #[.val (.ref a), .val (.int x1)] [(.int (x1 >>> ((3 : Int32) &&& 31))), (.ref a)])) (fun tgt_ kt => ?_) ?_
  · refine XS.aloadN X0.here hx rfl (hb hby d3_0) rfl rfl ?_
    show Steps p.tables e below (s₁.setTop (mkF m 1 #[.val (.ref a), .val (.int x1)] [(.ref a)])) _
    refine XS.iloadN X0.here hx rfl (hb hby d3_1) rfl ?_
    show Steps p.tables e below (s₁.setTop (mkF m 2 #[.val (.ref a), .val (.int x1)] [(.int x1), (.ref a)])) _
    refine XS.iconst X0.here hx rfl (hb hby d3_2) ?_
    show Steps p.tables e below (s₁.setTop (mkF m 3 #[.val (.ref a), .val (.int x1)] [(.int (3 : Int32)), (.int x1), (.ref a)])) _
    refine XS.ishr X0.here hx rfl (hb hby d3_3) rfl ?_
    show Steps p.tables e below (s₁.setTop (mkF m 4 #[.val (.ref a), .val (.int x1)] [(.int (x1 >>> ((3 : Int32) &&& 31))), (.ref a)])) _
    exact kt
  obtain ⟨cl_a_1, Ar_a_1, S_a_1, M_a_1, H_a_1⟩ := id V_a
  have hin_a_1 : ¬ ((x1 >>> ((3 : Int32) &&& 31)) < 0 ∨ cl_a_1.slots.size ≤ ((x1 >>> ((3 : Int32) &&& 31))).toNatClampNeg) := inb_of S_a_1 hin
  have hat_a_1 : cl_a_1.slots[((x1 >>> ((3 : Int32) &&& 31))).toNatClampNeg]? = some (.int w) := (H_a_1 _ (Nat.lt_of_not_le fun y => hin_a_1 (Or.inr y))).trans (congrArg some hf)
  refine RunsTo.of (T' := s₁) (g' := (mkF m 5 #[.val (.ref a), .val (.int x1)] [(.int w)])) (fun tgt_ kt => ?_) ?_
  · refine X0.baloadBytes hx (j := (x1 >>> ((3 : Int32) &&& 31))) (v := (.int w)) (by rw [e0]; exact Ar_a_1.1) (State.isArrayOf_alike hZ.alike Ar_a_1.2.1) Ar_a_1.2.2 hin_a_1 hat_a_1 (g := (mkF m 4 #[.val (.ref a), .val (.int x1)] [(.int (x1 >>> ((3 : Int32) &&& 31))), (.ref a)])) rfl rfl (hb hby d3_4) _ ?_
    show Steps p.tables e below (s₁.setTop (mkF m 5 #[.val (.ref a), .val (.int x1)] [(.int w)])) _
    exact kt
  refine RunsTo.of (T' := s₁) (g' := (mkF m 12 #[.val (.ref a), .val (.int x1)] [(.int ((w >>> ((x1 &&& (7 : Int32)) &&& 31)) &&& (1 : Int32)))])) (fun tgt_ kt => ?_) ?_
  · refine XS.iloadN X0.here hx rfl (hb hby d3_5) rfl ?_
    show Steps p.tables e below (s₁.setTop (mkF m 6 #[.val (.ref a), .val (.int x1)] [(.int x1), (.int w)])) _
    refine XS.bipush X0.here hx rfl (hb hby d3_6) ?_
    show Steps p.tables e below (s₁.setTop (mkF m 8 #[.val (.ref a), .val (.int x1)] [(.int (7 : Int32)), (.int x1), (.int w)])) _
    refine XS.iand X0.here hx rfl (hb hby d3_8) rfl ?_
    show Steps p.tables e below (s₁.setTop (mkF m 9 #[.val (.ref a), .val (.int x1)] [(.int (x1 &&& (7 : Int32))), (.int w)])) _
    refine XS.ishr X0.here hx rfl (hb hby d3_9) rfl ?_
    show Steps p.tables e below (s₁.setTop (mkF m 10 #[.val (.ref a), .val (.int x1)] [(.int (w >>> ((x1 &&& (7 : Int32)) &&& 31)))])) _
    refine XS.iconst X0.here hx rfl (hb hby d3_10) ?_
    show Steps p.tables e below (s₁.setTop (mkF m 11 #[.val (.ref a), .val (.int x1)] [(.int (1 : Int32)), (.int (w >>> ((x1 &&& (7 : Int32)) &&& 31)))])) _
    refine XS.iand X0.here hx rfl (hb hby d3_11) rfl ?_
    show Steps p.tables e below (s₁.setTop (mkF m 12 #[.val (.ref a), .val (.int x1)] [(.int ((w >>> ((x1 &&& (7 : Int32)) &&& 31)) &&& (1 : Int32)))])) _
    exact kt
  refine RunsTo.retI X0 hx Bd.returns Bd.notSynchronized (hb hby d3_12) ?_ (by decide) (by decide)
  rw [e0]
  exact ⟨rfl, N0, rfl⟩
theorem pd_1 : parseMethodDescriptor "(II)[B" = some ⟨[.int, .int], some (.array .byte)⟩ := by decide +kernel
theorem pd_2 : parseMethodDescriptor "([BI)I" = some ⟨[(.array .byte), .int], some .int⟩ := by decide +kernel
theorem ef_rm0 (m : MethodId) (x0 : Int32) (x1 : Int32) (x2 : Int32) : entryFrame m #[(.int x0), (.int x1), (.int x2)] maxLocals = mkF m 0 #[.val (.int x0), .val (.int x1), .val (.int x2), .unset, .unset, .unset, .unset, .unset, .unset] [] := by first | (simp [entryFrame, mkF, argsToLocals, Value.category, maxLocals]; done) | rfl
def Q0 (Z : State) (x0 : Int32) (x1 : Int32) (x2 : Int32) (h0 : Heap) (n0 : Nat) (v : Option Value) (h : Heap) (L : List Loc) : Prop := v = some (.int 1) ∧ Fr n0 L
set_option maxRecDepth 65536 in
set_option maxHeartbeats 40000000 in
theorem rm0 (l : Launch) (Z : State) (a0 : Array Value) (hw : ∀ d ∈ tables_1, d.before a0 Z = true) (ws : List Jvm.Cond) (x0 : Int32) (x1 : Int32) (x2 : Int32) (h0 : Heap) (n0 : Nat) (Z0 : n0 ≤ h0.size)  :
    MetFree l x (head1 (Jvm.Cond.code x code maxLocals ret :: ws) room_1) (fun as' U => as' = #[(.int x0), (.int x1), (.int x2)] ∧ Z.Warmed39 U.vm ∧ U.heap = h0) (fun _ _ _ _ _ => True) (fun _ U o U' => ∃ v L, o = .returned v ∧ Q0 Z x0 x1 x2 h0 n0 v U'.heap L ∧ FrameEnd U o U' L room_1.cells room_1.slots) := by
  refine MetFree.of_bodySF (plainFor_of_name pn_1) hisR ?_
  intro p e s m args below meth c s₁ Bd hml0 hP hK
  obtain ⟨rfl, hZ, hh⟩ := hP
  have hx := Bd.exec
  have hby := Bd.bytes
  have hml : c.maxLocals = 9 := hml0
  have hown : s.vm.findClass "com/example/roleweave/roleweave/tpm/TpmSelectingPinLaw" = some m.cls := findClass_of_methodNamed Bd.named
  have hnm := (name_of_methodNamed Bd.named Bd.method).1
  have X0 : Stand p l e room_1 s m #[(.int x0), (.int x1), (.int x2)] below meth c s₁ [] 0 0 := Stand.of_body Bd
  have e0 : s₁.heap = h0 := by rw [← hh, Bd.state]; rfl
  have N0 := Fr.nil n0
  refine RunsTo.start (ef_rm0 m x0 x1 x2) ?_
  show RunsTo p e below s s₁ (mkF m 0 #[.val (.int x0), .val (.int x1), .val (.int x2), .unset, .unset, .unset, .unset, .unset, .unset] []) (Q0 Z x0 x1 x2 h0 n0) room_1.cells room_1.slots
  refine RunsTo.of (T' := s₁) (g' := (mkF m 15 #[.val (.int x0), .val (.int x1), .val (.int x2), .val (.int (x0 &&& (255 : Int32))), .val (.int (x1 &&& (31 : Int32))), .unset, .unset, .unset, .unset] [(.int (x1 &&& (31 : Int32))), (.int (x0 &&& (255 : Int32)))])) (fun tgt_ kt => ?_) ?_
  · refine XS.iloadN X0.here hx rfl (hb hby at_0) rfl ?_
    show Steps p.tables e below (s₁.setTop (mkF m 1 #[.val (.int x0), .val (.int x1), .val (.int x2), .unset, .unset, .unset, .unset, .unset, .unset] [(.int x0)])) _
    refine XS.sipush X0.here hx rfl (hb hby at_1) ?_
    show Steps p.tables e below (s₁.setTop (mkF m 4 #[.val (.int x0), .val (.int x1), .val (.int x2), .unset, .unset, .unset, .unset, .unset, .unset] [(.int (255 : Int32)), (.int x0)])) _
    refine XS.iand X0.here hx rfl (hb hby at_4) rfl ?_
    show Steps p.tables e below (s₁.setTop (mkF m 5 #[.val (.int x0), .val (.int x1), .val (.int x2), .unset, .unset, .unset, .unset, .unset, .unset] [(.int (x0 &&& (255 : Int32)))])) _
    refine XS.istoreN X0.here hx rfl (hb hby at_5) rfl (l' := #[.val (.int x0), .val (.int x1), .val (.int x2), .val (.int (x0 &&& (255 : Int32))), .unset, .unset, .unset, .unset, .unset]) rfl ?_
    show Steps p.tables e below (s₁.setTop (mkF m 6 #[.val (.int x0), .val (.int x1), .val (.int x2), .val (.int (x0 &&& (255 : Int32))), .unset, .unset, .unset, .unset, .unset] [])) _
    refine XS.iloadN X0.here hx rfl (hb hby at_6) rfl ?_
    show Steps p.tables e below (s₁.setTop (mkF m 7 #[.val (.int x0), .val (.int x1), .val (.int x2), .val (.int (x0 &&& (255 : Int32))), .unset, .unset, .unset, .unset, .unset] [(.int x1)])) _
    refine XS.bipush X0.here hx rfl (hb hby at_7) ?_
    show Steps p.tables e below (s₁.setTop (mkF m 9 #[.val (.int x0), .val (.int x1), .val (.int x2), .val (.int (x0 &&& (255 : Int32))), .unset, .unset, .unset, .unset, .unset] [(.int (31 : Int32)), (.int x1)])) _
    refine XS.iand X0.here hx rfl (hb hby at_9) rfl ?_
    show Steps p.tables e below (s₁.setTop (mkF m 10 #[.val (.int x0), .val (.int x1), .val (.int x2), .val (.int (x0 &&& (255 : Int32))), .unset, .unset, .unset, .unset, .unset] [(.int (x1 &&& (31 : Int32)))])) _
    refine XS.istore X0.here hx rfl (hb hby at_10) rfl (l' := #[.val (.int x0), .val (.int x1), .val (.int x2), .val (.int (x0 &&& (255 : Int32))), .val (.int (x1 &&& (31 : Int32))), .unset, .unset, .unset, .unset]) rfl ?_
    show Steps p.tables e below (s₁.setTop (mkF m 12 #[.val (.int x0), .val (.int x1), .val (.int x2), .val (.int (x0 &&& (255 : Int32))), .val (.int (x1 &&& (31 : Int32))), .unset, .unset, .unset, .unset] [])) _
    refine XS.iloadN X0.here hx rfl (hb hby at_12) rfl ?_
    show Steps p.tables e below (s₁.setTop (mkF m 13 #[.val (.int x0), .val (.int x1), .val (.int x2), .val (.int (x0 &&& (255 : Int32))), .val (.int (x1 &&& (31 : Int32))), .unset, .unset, .unset, .unset] [(.int (x0 &&& (255 : Int32)))])) _
    refine XS.iload X0.here hx rfl (hb hby at_13) rfl ?_
    show Steps p.tables e below (s₁.setTop (mkF m 15 #[.val (.int x0), .val (.int x1), .val (.int x2), .val (.int (x0 &&& (255 : Int32))), .val (.int (x1 &&& (31 : Int32))), .unset, .unset, .unset, .unset] [(.int (x1 &&& (31 : Int32))), (.int (x0 &&& (255 : Int32)))])) _
    exact kt
  have hmp := c_mask x0 255 8 (by decide) (by decide)
  have hml' := c_mask x1 31 5 (by decide) (by decide)
  obtain ⟨pp, hpp⟩ : ∃ z : Int32, z = (x0 &&& (255 : Int32)) := ⟨_, rfl⟩
  rw [← hpp]
  obtain ⟨ll, hll⟩ : ∃ z : Int32, z = (x1 &&& (31 : Int32)) := ⟨_, rfl⟩
  rw [← hll]
  rw [← hpp] at hmp
  rw [← hll] at hml'
  have hp : 0 ≤ pp.toInt ∧ pp.toInt ≤ 255 := by omega
  have hl : 0 ≤ ll.toInt ∧ ll.toInt ≤ 31 := by omega
  clear hmp hml'
  obtain ⟨_, _, ⟨T1, L1, k1, n1⟩, -, X1, ⟨Lc1, hQ1, l1, y1, z1⟩, st1⟩ := Jvm.LawKit.callS X0 hx (y := (⟨"com/example/roleweave/roleweave/tpm/Tpm", "selecting", "(II)[B"⟩ : MethodName)) hown (mvT hZ (hw _ (List.mem_of_getElem? (i := 0) rfl))) (mvT hZ (hw _ (List.mem_of_getElem? (i := 1) rfl))) (mvT hZ (hw _ (List.mem_of_getElem? (i := 2) rfl))) (mvT hZ (hw _ (List.mem_of_getElem? (i := 3) rfl))) (by decide) (backOf (W := 0) (rm1 l Z a0 hw [] pp ll h0 n0 Z0 hp hl) hZ (hw _ (List.mem_of_getElem? (i := 3) rfl)) (hw _ (List.mem_of_getElem? (i := 2) rfl)) (by decide) (by decide)) (g := (mkF m 15 #[.val (.int x0), .val (.int x1), .val (.int x2), .val (.int pp), .val (.int ll), .unset, .unset, .unset, .unset] [(.int ll), (.int pp)])) rfl (by rw [hml]; rfl) (argsL := [(.int pp), (.int ll)]) (rest := []) (lenOf pd_1 rfl) rfl (by show 2 * 0 + _ ≤ _; exact Nat.le_of_eq rfl) (hb hby at_15) (fun _ _ => ⟨rfl, e0, (by decide : 0 + 1 ≤ _), (by decide : 0 + 32 ≤ _)⟩)
  dsimp only [Pt.U, Pt.locs, Pt.cells, Pt.slots] at X1 l1 y1 z1 st1 hQ1
  subst l1 y1 z1
  obtain ⟨a, rfl, N1q, ga1, K1, V_a⟩ := hQ1
  have N1 := Fr.app N0 N1q
  have Z1 : n0 ≤ T1.heap.size := Nat.le_trans Z0 K1.1
  refine RunsTo.of (T' := T1) (g' := (mkF m 18 #[.val (.int x0), .val (.int x1), .val (.int x2), .val (.int pp), .val (.int ll), .unset, .unset, .unset, .unset] [(.ref a)])) st1 ?_
  have hI := own_lenI pp ll hp hl
  refine RunsTo.of (T' := T1) (g' := (mkF m 22 #[.val (.int x0), .val (.int x1), .val (.int x2), .val (.int pp), .val (.int ll), .val (.ref a), .unset, .unset, .unset] [(.ref a)])) (fun tgt_ kt => ?_) ?_
  · refine XS.astore X1.here hx rfl (hb hby at_18) rfl rfl (l' := #[.val (.int x0), .val (.int x1), .val (.int x2), .val (.int pp), .val (.int ll), .val (.ref a), .unset, .unset, .unset]) rfl ?_
    show Steps p.tables e below (T1.setTop (mkF m 20 #[.val (.int x0), .val (.int x1), .val (.int x2), .val (.int pp), .val (.int ll), .val (.ref a), .unset, .unset, .unset] [])) _
    refine XS.aload X1.here hx rfl (hb hby at_20) rfl rfl ?_
    show Steps p.tables e below (T1.setTop (mkF m 22 #[.val (.int x0), .val (.int x1), .val (.int x2), .val (.int pp), .val (.int ll), .val (.ref a), .unset, .unset, .unset] [(.ref a)])) _
    exact kt
  obtain ⟨cl_a_2, Ar_a_2, S_a_2, M_a_2, H_a_2⟩ := id V_a
  refine RunsTo.of (T' := T1) (g' := (mkF m 23 #[.val (.int x0), .val (.int x1), .val (.int x2), .val (.int pp), .val (.int ll), .val (.ref a), .unset, .unset, .unset] [(.int (own_len pp ll))])) (fun tgt_ kt => ?_) ?_
  · refine X1.arraylength hx Ar_a_2.1 (State.isArrayOf_alike hZ.alike Ar_a_2.2.1) (g := (mkF m 22 #[.val (.int x0), .val (.int x1), .val (.int x2), .val (.int pp), .val (.int ll), .val (.ref a), .unset, .unset, .unset] [(.ref a)])) rfl rfl (hb hby at_22) _ ?_
    rw [len_of S_a_2 M_a_2]
    show Steps p.tables e below (T1.setTop (mkF m 23 #[.val (.int x0), .val (.int x1), .val (.int x2), .val (.int pp), .val (.int ll), .val (.ref a), .unset, .unset, .unset] [(.int (own_len pp ll))])) _
    exact kt
  refine RunsTo.of (T' := T1) (g' := (mkF m 29 #[.val (.int x0), .val (.int x1), .val (.int x2), .val (.int pp), .val (.int ll), .val (.ref a), .val (.int (own_len pp ll)), .unset, .unset] [(.int ll), (.int (own_len pp ll))])) (fun tgt_ kt => ?_) ?_
  · refine XS.istore X1.here hx rfl (hb hby at_23) rfl (l' := #[.val (.int x0), .val (.int x1), .val (.int x2), .val (.int pp), .val (.int ll), .val (.ref a), .val (.int (own_len pp ll)), .unset, .unset]) rfl ?_
    show Steps p.tables e below (T1.setTop (mkF m 25 #[.val (.int x0), .val (.int x1), .val (.int x2), .val (.int pp), .val (.int ll), .val (.ref a), .val (.int (own_len pp ll)), .unset, .unset] [])) _
    refine XS.iload X1.here hx rfl (hb hby at_25) rfl ?_
    show Steps p.tables e below (T1.setTop (mkF m 27 #[.val (.int x0), .val (.int x1), .val (.int x2), .val (.int pp), .val (.int ll), .val (.ref a), .val (.int (own_len pp ll)), .unset, .unset] [(.int (own_len pp ll))])) _
    refine XS.iload X1.here hx rfl (hb hby at_27) rfl ?_
    show Steps p.tables e below (T1.setTop (mkF m 29 #[.val (.int x0), .val (.int x1), .val (.int x2), .val (.int pp), .val (.int ll), .val (.ref a), .val (.int (own_len pp ll)), .unset, .unset] [(.int ll), (.int (own_len pp ll))])) _
    exact kt
  obtain ⟨zz, hzz⟩ : ∃ z : Int32, z = own_len pp ll := ⟨_, rfl⟩
  rw [← hzz] at V_a hI ⊢
  have h8 := c_imul zz 8
  have h8r := rng32 (zz * 8)
  have e8 : (8 : Int32).toInt = 8 := rfl
  have e1 : (1 : Int32).toInt = 1 := rfl
  rw [e8] at h8
  have hz8 : (zz * 8).toInt = zz.toInt * 8 := by omega
  have hs1 := c_isub zz 1
  have hs1r := rng32 (zz - 1)
  rw [e1] at hs1
  have hz1 : (zz - 1).toInt = zz.toInt - 1 := by omega
  have h18 := c_imul (zz - 1) 8
  have h18r := rng32 ((zz - 1) * 8)
  rw [e8] at h18
  have hz18 : ((zz - 1) * 8).toInt = (zz.toInt - 1) * 8 := by omega
  refine RunsTo.of (T' := T1) (g' := (mkF m 49 #[.val (.int x0), .val (.int x1), .val (.int x2), .val (.int pp), .val (.int ll), .val (.ref a), .val (.int zz), .unset, .unset] [(.int ll), (.int zz)])) (fun tgt_ kt => ?_) ?_
  · refine XS.icmpYes X1.here hx rfl (pc0 := 29) (pc' := 34) rfl (hb hby at_29) rfl (flt (show ¬ zz < ll by rw [Int32.lt_iff_toInt_lt]; omega)).2.1 (by decide) (by decide) ?_
    show Steps p.tables e below (T1.setTop (mkF m 34 #[.val (.int x0), .val (.int x1), .val (.int x2), .val (.int pp), .val (.int ll), .val (.ref a), .val (.int zz), .unset, .unset] [])) _
    refine XS.iload X1.here hx rfl (hb hby at_34) rfl ?_
    show Steps p.tables e below (T1.setTop (mkF m 36 #[.val (.int x0), .val (.int x1), .val (.int x2), .val (.int pp), .val (.int ll), .val (.ref a), .val (.int zz), .unset, .unset] [(.int zz)])) _
    refine XS.bipush X1.here hx rfl (hb hby at_36) ?_
    show Steps p.tables e below (T1.setTop (mkF m 38 #[.val (.int x0), .val (.int x1), .val (.int x2), .val (.int pp), .val (.int ll), .val (.ref a), .val (.int zz), .unset, .unset] [(.int (8 : Int32)), (.int zz)])) _
    refine XS.imul X1.here hx rfl (hb hby at_38) rfl ?_
    show Steps p.tables e below (T1.setTop (mkF m 39 #[.val (.int x0), .val (.int x1), .val (.int x2), .val (.int pp), .val (.int ll), .val (.ref a), .val (.int zz), .unset, .unset] [(.int (zz * (8 : Int32)))])) _
    refine XS.iloadN X1.here hx rfl (hb hby at_39) rfl ?_
    show Steps p.tables e below (T1.setTop (mkF m 40 #[.val (.int x0), .val (.int x1), .val (.int x2), .val (.int pp), .val (.int ll), .val (.ref a), .val (.int zz), .unset, .unset] [(.int pp), (.int (zz * (8 : Int32)))])) _
    refine XS.icmpYes X1.here hx rfl (pc0 := 40) (pc' := 45) rfl (hb hby at_40) rfl (tlt (show pp < zz * 8 by rw [Int32.lt_iff_toInt_lt]; omega)).2.2.1 (by decide) (by decide) ?_
    show Steps p.tables e below (T1.setTop (mkF m 45 #[.val (.int x0), .val (.int x1), .val (.int x2), .val (.int pp), .val (.int ll), .val (.ref a), .val (.int zz), .unset, .unset] [])) _
    refine XS.iload X1.here hx rfl (hb hby at_45) rfl ?_
    show Steps p.tables e below (T1.setTop (mkF m 47 #[.val (.int x0), .val (.int x1), .val (.int x2), .val (.int pp), .val (.int ll), .val (.ref a), .val (.int zz), .unset, .unset] [(.int zz)])) _
    refine XS.iload X1.here hx rfl (hb hby at_47) rfl ?_
    show Steps p.tables e below (T1.setTop (mkF m 49 #[.val (.int x0), .val (.int x1), .val (.int x2), .val (.int pp), .val (.int ll), .val (.ref a), .val (.int zz), .unset, .unset] [(.int ll), (.int zz)])) _
    exact kt
  refine RunsTo.of (T' := T1) (g' := (mkF m 65 #[.val (.int x0), .val (.int x1), .val (.int x2), .val (.int pp), .val (.int ll), .val (.ref a), .val (.int zz), .unset, .unset] [])) (fun tgt_ kt => ?_) ?_
  · by_cases hc49 : zz = ll
    · refine XS.icmpYes X1.here hx rfl (pc0 := 49) (pc' := 65) rfl (hb hby at_49) rfl (teq hc49).1 (by decide) (by decide) ?_
      show Steps p.tables e below (T1.setTop (mkF m 65 #[.val (.int x0), .val (.int x1), .val (.int x2), .val (.int pp), .val (.int ll), .val (.ref a), .val (.int zz), .unset, .unset] [])) _
      exact kt
    · refine XS.icmpNo X1.here hx rfl (hb hby at_49) rfl (feq hc49).1 ?_
      show Steps p.tables e below (T1.setTop (mkF m 52 #[.val (.int x0), .val (.int x1), .val (.int x2), .val (.int pp), .val (.int ll), .val (.ref a), .val (.int zz), .unset, .unset] [])) _
      refine XS.iload X1.here hx rfl (hb hby at_52) rfl ?_
      show Steps p.tables e below (T1.setTop (mkF m 54 #[.val (.int x0), .val (.int x1), .val (.int x2), .val (.int pp), .val (.int ll), .val (.ref a), .val (.int zz), .unset, .unset] [(.int zz)])) _
      refine XS.iconst X1.here hx rfl (hb hby at_54) ?_
      show Steps p.tables e below (T1.setTop (mkF m 55 #[.val (.int x0), .val (.int x1), .val (.int x2), .val (.int pp), .val (.int ll), .val (.ref a), .val (.int zz), .unset, .unset] [(.int (1 : Int32)), (.int zz)])) _
      refine XS.isub X1.here hx rfl (hb hby at_55) rfl ?_
      show Steps p.tables e below (T1.setTop (mkF m 56 #[.val (.int x0), .val (.int x1), .val (.int x2), .val (.int pp), .val (.int ll), .val (.ref a), .val (.int zz), .unset, .unset] [(.int (zz - (1 : Int32)))])) _
      refine XS.bipush X1.here hx rfl (hb hby at_56) ?_
      show Steps p.tables e below (T1.setTop (mkF m 58 #[.val (.int x0), .val (.int x1), .val (.int x2), .val (.int pp), .val (.int ll), .val (.ref a), .val (.int zz), .unset, .unset] [(.int (8 : Int32)), (.int (zz - (1 : Int32)))])) _
      refine XS.imul X1.here hx rfl (hb hby at_58) rfl ?_
      show Steps p.tables e below (T1.setTop (mkF m 59 #[.val (.int x0), .val (.int x1), .val (.int x2), .val (.int pp), .val (.int ll), .val (.ref a), .val (.int zz), .unset, .unset] [(.int ((zz - (1 : Int32)) * (8 : Int32)))])) _
      refine XS.iloadN X1.here hx rfl (hb hby at_59) rfl ?_
      show Steps p.tables e below (T1.setTop (mkF m 60 #[.val (.int x0), .val (.int x1), .val (.int x2), .val (.int pp), .val (.int ll), .val (.ref a), .val (.int zz), .unset, .unset] [(.int pp), (.int ((zz - (1 : Int32)) * (8 : Int32)))])) _
      refine XS.icmpYes X1.here hx rfl (pc0 := 60) (pc' := 65) rfl (hb hby at_60) rfl (flt (show ¬ pp < (zz - 1) * 8 by rw [Int32.lt_iff_toInt_lt]; rw [← Int32.toInt_inj] at hc49; omega)).2.2.2 (by decide) (by decide) ?_
      show Steps p.tables e below (T1.setTop (mkF m 65 #[.val (.int x0), .val (.int x1), .val (.int x2), .val (.int pp), .val (.int ll), .val (.ref a), .val (.int zz), .unset, .unset] [])) _
      exact kt
  refine RunsTo.of (T' := T1) (g' := (mkF m 68 #[.val (.int x0), .val (.int x1), .val (.int x2), .val (.int pp), .val (.int ll), .val (.ref a), .val (.int zz), .unset, .unset] [(.int pp), (.ref a)])) (fun tgt_ kt => ?_) ?_
  · refine XS.aload X1.here hx rfl (hb hby at_65) rfl rfl ?_
    show Steps p.tables e below (T1.setTop (mkF m 67 #[.val (.int x0), .val (.int x1), .val (.int x2), .val (.int pp), .val (.int ll), .val (.ref a), .val (.int zz), .unset, .unset] [(.ref a)])) _
    refine XS.iloadN X1.here hx rfl (hb hby at_67) rfl ?_
    show Steps p.tables e below (T1.setTop (mkF m 68 #[.val (.int x0), .val (.int x1), .val (.int x2), .val (.int pp), .val (.int ll), .val (.ref a), .val (.int zz), .unset, .unset] [(.int pp), (.ref a)])) _
    exact kt
  have hshp := own_shr pp
  obtain ⟨wp, hwp1, hwp2⟩ := own_read pp pp hp hp.1
  obtain ⟨_, _, ⟨T3, L3, k3, n3⟩, -, X3, ⟨Lc3, hQ3, l3, y3, z3⟩, st3⟩ := Jvm.LawKit.callS X1 hx (y := (⟨"com/example/roleweave/roleweave/tpm/TpmSelectingPinLaw", "bit", "([BI)I"⟩ : MethodName)) hown (mvT hZ (hw _ (List.mem_of_getElem? (i := 9) rfl))) (mvT hZ (hw _ (List.mem_of_getElem? (i := 10) rfl))) (mvT hZ (hw _ (List.mem_of_getElem? (i := 11) rfl))) (mvT hZ (hw _ (List.mem_of_getElem? (i := 12) rfl))) (by decide) (backOf (W := 0) (rm3 l Z a0 hw [] a pp zz wp (own_f pp) T1.heap n0 Z1 V_a ⟨by rw [Int32.lt_iff_toInt_lt]; show ¬ _ < (0 : Int); omega, by rw [Int32.lt_iff_toInt_lt]; omega⟩ hwp1) hZ (hw _ (List.mem_of_getElem? (i := 12) rfl)) (hw _ (List.mem_of_getElem? (i := 11) rfl)) (by decide) (by decide)) (g := (mkF m 68 #[.val (.int x0), .val (.int x1), .val (.int x2), .val (.int pp), .val (.int ll), .val (.ref a), .val (.int zz), .unset, .unset] [(.int pp), (.ref a)])) rfl (by rw [hml]; rfl) (argsL := [(.ref a), (.int pp)]) (rest := []) (lenOf pd_2 rfl) rfl (by show 2 * 0 + _ ≤ _; exact Nat.le_of_eq rfl) (hb hby at_68) (fun _ _ => ⟨rfl, rfl, (by decide : 1 + 0 ≤ _), (by decide : 32 + 0 ≤ _)⟩)
  dsimp only [Pt.U, Pt.locs, Pt.cells, Pt.slots] at X3 l3 y3 z3 st3 hQ3
  subst l3 y3 z3
  obtain ⟨rfl, N3q, e3⟩ := hQ3
  have N3 := Fr.app N1 N3q
  refine RunsTo.of (T' := T3) (g' := (mkF m 71 #[.val (.int x0), .val (.int x1), .val (.int x2), .val (.int pp), .val (.int ll), .val (.ref a), .val (.int zz), .unset, .unset] [(.int ((wp >>> ((pp &&& 7) &&& 31)) &&& 1))])) st3 ?_
  refine RunsTo.of (T' := T3) (g' := (mkF m 92 #[.val (.int x0), .val (.int x1), .val (.int x2), .val (.int pp), .val (.int ll), .val (.ref a), .val (.int zz), .val (.int ((x2 &&& (2147483647 : Int32)) % (zz * (8 : Int32)))), .unset] [(.int pp), (.int ((x2 &&& (2147483647 : Int32)) % (zz * (8 : Int32))))])) (fun tgt_ kt => ?_) ?_
  · refine XS.iconst X3.here hx rfl (hb hby at_71) ?_
    show Steps p.tables e below (T3.setTop (mkF m 72 #[.val (.int x0), .val (.int x1), .val (.int x2), .val (.int pp), .val (.int ll), .val (.ref a), .val (.int zz), .unset, .unset] [(.int (1 : Int32)), (.int ((wp >>> ((pp &&& 7) &&& 31)) &&& 1))])) _
    refine XS.icmpYes X3.here hx rfl (pc0 := 72) (pc' := 77) rfl (hb hby at_72) rfl (teq (by rw [hwp2, if_pos rfl])).1 (by decide) (by decide) ?_
    show Steps p.tables e below (T3.setTop (mkF m 77 #[.val (.int x0), .val (.int x1), .val (.int x2), .val (.int pp), .val (.int ll), .val (.ref a), .val (.int zz), .unset, .unset] [])) _
    refine XS.iloadN X3.here hx rfl (hb hby at_77) rfl ?_
    show Steps p.tables e below (T3.setTop (mkF m 78 #[.val (.int x0), .val (.int x1), .val (.int x2), .val (.int pp), .val (.int ll), .val (.ref a), .val (.int zz), .unset, .unset] [(.int x2)])) _
    refine X3.ldcInt hx hown (mvT hZ (hw _ (List.mem_of_getElem? (i := 13) rfl))) (g := (mkF m 78 #[.val (.int x0), .val (.int x1), .val (.int x2), .val (.int pp), .val (.int ll), .val (.ref a), .val (.int zz), .unset, .unset] [(.int x2)])) rfl (hb hby at_78) _ ?_
    show Steps p.tables e below (T3.setTop (mkF m 80 #[.val (.int x0), .val (.int x1), .val (.int x2), .val (.int pp), .val (.int ll), .val (.ref a), .val (.int zz), .unset, .unset] [(.int (2147483647 : Int32)), (.int x2)])) _
    refine XS.iand X3.here hx rfl (hb hby at_80) rfl ?_
    show Steps p.tables e below (T3.setTop (mkF m 81 #[.val (.int x0), .val (.int x1), .val (.int x2), .val (.int pp), .val (.int ll), .val (.ref a), .val (.int zz), .unset, .unset] [(.int (x2 &&& (2147483647 : Int32)))])) _
    refine XS.iload X3.here hx rfl (hb hby at_81) rfl ?_
    show Steps p.tables e below (T3.setTop (mkF m 83 #[.val (.int x0), .val (.int x1), .val (.int x2), .val (.int pp), .val (.int ll), .val (.ref a), .val (.int zz), .unset, .unset] [(.int zz), (.int (x2 &&& (2147483647 : Int32)))])) _
    refine XS.bipush X3.here hx rfl (hb hby at_83) ?_
    show Steps p.tables e below (T3.setTop (mkF m 85 #[.val (.int x0), .val (.int x1), .val (.int x2), .val (.int pp), .val (.int ll), .val (.ref a), .val (.int zz), .unset, .unset] [(.int (8 : Int32)), (.int zz), (.int (x2 &&& (2147483647 : Int32)))])) _
    refine XS.imul X3.here hx rfl (hb hby at_85) rfl ?_
    show Steps p.tables e below (T3.setTop (mkF m 86 #[.val (.int x0), .val (.int x1), .val (.int x2), .val (.int pp), .val (.int ll), .val (.ref a), .val (.int zz), .unset, .unset] [(.int (zz * (8 : Int32))), (.int (x2 &&& (2147483647 : Int32)))])) _
    refine XS.irem X3.here hx rfl (hb hby at_86) rfl (fun q => by rw [← Int32.toInt_inj] at q; have : (0 : Int32).toInt = 0 := rfl; omega) ?_
    rw [irem_eq_mod]
    show Steps p.tables e below (T3.setTop (mkF m 87 #[.val (.int x0), .val (.int x1), .val (.int x2), .val (.int pp), .val (.int ll), .val (.ref a), .val (.int zz), .unset, .unset] [(.int ((x2 &&& (2147483647 : Int32)) % (zz * (8 : Int32))))])) _
    refine XS.istore X3.here hx rfl (hb hby at_87) rfl (l' := #[.val (.int x0), .val (.int x1), .val (.int x2), .val (.int pp), .val (.int ll), .val (.ref a), .val (.int zz), .val (.int ((x2 &&& (2147483647 : Int32)) % (zz * (8 : Int32)))), .unset]) rfl ?_
    show Steps p.tables e below (T3.setTop (mkF m 89 #[.val (.int x0), .val (.int x1), .val (.int x2), .val (.int pp), .val (.int ll), .val (.ref a), .val (.int zz), .val (.int ((x2 &&& (2147483647 : Int32)) % (zz * (8 : Int32)))), .unset] [])) _
    refine XS.iload X3.here hx rfl (hb hby at_89) rfl ?_
    show Steps p.tables e below (T3.setTop (mkF m 91 #[.val (.int x0), .val (.int x1), .val (.int x2), .val (.int pp), .val (.int ll), .val (.ref a), .val (.int zz), .val (.int ((x2 &&& (2147483647 : Int32)) % (zz * (8 : Int32)))), .unset] [(.int ((x2 &&& (2147483647 : Int32)) % (zz * (8 : Int32))))])) _
    refine XS.iloadN X3.here hx rfl (hb hby at_91) rfl ?_
    show Steps p.tables e below (T3.setTop (mkF m 92 #[.val (.int x0), .val (.int x1), .val (.int x2), .val (.int pp), .val (.int ll), .val (.ref a), .val (.int zz), .val (.int ((x2 &&& (2147483647 : Int32)) % (zz * (8 : Int32)))), .unset] [(.int pp), (.int ((x2 &&& (2147483647 : Int32)) % (zz * (8 : Int32))))])) _
    exact kt
  have hms := c_mask x2 2147483647 31 (by decide) (by decide)
  have hrm := (c_iremV (x2 &&& 2147483647) (zz * 8)).1 (by omega) (by omega)
  obtain ⟨ii, hii⟩ : ∃ z : Int32, z = ((x2 &&& (2147483647 : Int32)) % (zz * (8 : Int32))) := ⟨_, rfl⟩
  rw [← hii]
  rw [← hii] at hrm
  obtain ⟨y, hy⟩ : ∃ z : Int32, z = (if ii = pp then (1 : Int32) else (0 : Int32)) := ⟨_, rfl⟩
  refine RunsTo.of (T' := T3) (g' := (mkF m 100 #[.val (.int x0), .val (.int x1), .val (.int x2), .val (.int pp), .val (.int ll), .val (.ref a), .val (.int zz), .val (.int ii), .unset] [(.int y)])) (fun tgt_ kt => ?_) ?_
  · by_cases hc92 : ii = pp
    · refine XS.icmpNo X3.here hx rfl (hb hby at_92) rfl (teq hc92).2 ?_
      show Steps p.tables e below (T3.setTop (mkF m 95 #[.val (.int x0), .val (.int x1), .val (.int x2), .val (.int pp), .val (.int ll), .val (.ref a), .val (.int zz), .val (.int ii), .unset] [])) _
      try rw [if_pos hc92] at hy
      rw [hy] at kt
      refine XS.iconst X3.here hx rfl (hb hby at_95) ?_
      show Steps p.tables e below (T3.setTop (mkF m 96 #[.val (.int x0), .val (.int x1), .val (.int x2), .val (.int pp), .val (.int ll), .val (.ref a), .val (.int zz), .val (.int ii), .unset] [(.int (1 : Int32))])) _
      refine XS.goto X3.here hx rfl (pc0 := 96) (pc' := 100) rfl (hb hby at_96) (by decide) (by decide) ?_
      show Steps p.tables e below (T3.setTop (mkF m 100 #[.val (.int x0), .val (.int x1), .val (.int x2), .val (.int pp), .val (.int ll), .val (.ref a), .val (.int zz), .val (.int ii), .unset] [(.int (1 : Int32))])) _
      exact kt
    · refine XS.icmpYes X3.here hx rfl (pc0 := 92) (pc' := 99) rfl (hb hby at_92) rfl (feq hc92).2 (by decide) (by decide) ?_
      show Steps p.tables e below (T3.setTop (mkF m 99 #[.val (.int x0), .val (.int x1), .val (.int x2), .val (.int pp), .val (.int ll), .val (.ref a), .val (.int zz), .val (.int ii), .unset] [])) _
      try rw [if_neg hc92] at hy
      rw [hy] at kt
      refine XS.iconst X3.here hx rfl (hb hby at_99) ?_
      show Steps p.tables e below (T3.setTop (mkF m 100 #[.val (.int x0), .val (.int x1), .val (.int x2), .val (.int pp), .val (.int ll), .val (.ref a), .val (.int zz), .val (.int ii), .unset] [(.int (0 : Int32))])) _
      exact kt
  refine RunsTo.of (T' := T3) (g' := (mkF m 106 #[.val (.int x0), .val (.int x1), .val (.int x2), .val (.int pp), .val (.int ll), .val (.ref a), .val (.int zz), .val (.int ii), .val (.int y)] [(.int ii), (.ref a)])) (fun tgt_ kt => ?_) ?_
  · refine XS.istore X3.here hx rfl (hb hby at_100) rfl (l' := #[.val (.int x0), .val (.int x1), .val (.int x2), .val (.int pp), .val (.int ll), .val (.ref a), .val (.int zz), .val (.int ii), .val (.int y)]) rfl ?_
    show Steps p.tables e below (T3.setTop (mkF m 102 #[.val (.int x0), .val (.int x1), .val (.int x2), .val (.int pp), .val (.int ll), .val (.ref a), .val (.int zz), .val (.int ii), .val (.int y)] [])) _
    refine XS.aload X3.here hx rfl (hb hby at_102) rfl rfl ?_
    show Steps p.tables e below (T3.setTop (mkF m 104 #[.val (.int x0), .val (.int x1), .val (.int x2), .val (.int pp), .val (.int ll), .val (.ref a), .val (.int zz), .val (.int ii), .val (.int y)] [(.ref a)])) _
    refine XS.iload X3.here hx rfl (hb hby at_104) rfl ?_
    show Steps p.tables e below (T3.setTop (mkF m 106 #[.val (.int x0), .val (.int x1), .val (.int x2), .val (.int pp), .val (.int ll), .val (.ref a), .val (.int zz), .val (.int ii), .val (.int y)] [(.int ii), (.ref a)])) _
    exact kt
  have hshi := own_shr ii
  obtain ⟨wi, hwi1, hwi2⟩ := own_read pp ii hp hrm.1
  obtain ⟨_, _, ⟨T4, L4, k4, n4⟩, -, X4, ⟨Lc4, hQ4, l4, y4, z4⟩, st4⟩ := Jvm.LawKit.callS X3 hx (y := (⟨"com/example/roleweave/roleweave/tpm/TpmSelectingPinLaw", "bit", "([BI)I"⟩ : MethodName)) hown (mvT hZ (hw _ (List.mem_of_getElem? (i := 9) rfl))) (mvT hZ (hw _ (List.mem_of_getElem? (i := 10) rfl))) (mvT hZ (hw _ (List.mem_of_getElem? (i := 11) rfl))) (mvT hZ (hw _ (List.mem_of_getElem? (i := 12) rfl))) (by decide) (backOf (W := 0) (rm3 l Z a0 hw [] a ii zz wi (own_f pp) T1.heap n0 Z1 V_a ⟨by rw [Int32.lt_iff_toInt_lt]; show ¬ _ < (0 : Int); omega, by rw [Int32.lt_iff_toInt_lt]; omega⟩ hwi1) hZ (hw _ (List.mem_of_getElem? (i := 12) rfl)) (hw _ (List.mem_of_getElem? (i := 11) rfl)) (by decide) (by decide)) (g := (mkF m 106 #[.val (.int x0), .val (.int x1), .val (.int x2), .val (.int pp), .val (.int ll), .val (.ref a), .val (.int zz), .val (.int ii), .val (.int y)] [(.int ii), (.ref a)])) rfl (by rw [hml]; rfl) (argsL := [(.ref a), (.int ii)]) (rest := []) (lenOf pd_2 rfl) rfl (by show 2 * 0 + _ ≤ _; exact Nat.le_of_eq rfl) (hb hby at_106) (fun _ _ => ⟨rfl, e3, (by decide : 1 + 0 ≤ _), (by decide : 32 + 0 ≤ _)⟩)
  dsimp only [Pt.U, Pt.locs, Pt.cells, Pt.slots] at X4 l4 y4 z4 st4 hQ4
  subst l4 y4 z4
  obtain ⟨rfl, N4q, e4⟩ := hQ4
  have N4 := Fr.app N3 N4q
  refine RunsTo.of (T' := T4) (g' := (mkF m 109 #[.val (.int x0), .val (.int x1), .val (.int x2), .val (.int pp), .val (.int ll), .val (.ref a), .val (.int zz), .val (.int ii), .val (.int y)] [(.int ((wi >>> ((ii &&& 7) &&& 31)) &&& 1))])) st4 ?_
  refine RunsTo.of (T' := T4) (g' := (mkF m 119 #[.val (.int x0), .val (.int x1), .val (.int x2), .val (.int pp), .val (.int ll), .val (.ref a), .val (.int zz), .val (.int ii), .val (.int y)] [(.int (1 : Int32))])) (fun tgt_ kt => ?_) ?_
  · refine XS.iload X4.here hx rfl (hb hby at_109) rfl ?_
    show Steps p.tables e below (T4.setTop (mkF m 111 #[.val (.int x0), .val (.int x1), .val (.int x2), .val (.int pp), .val (.int ll), .val (.ref a), .val (.int zz), .val (.int ii), .val (.int y)] [(.int y), (.int ((wi >>> ((ii &&& 7) &&& 31)) &&& 1))])) _
    refine XS.icmpNo X4.here hx rfl (hb hby at_111) rfl (teq (by rw [hwi2, hy])).2 ?_
    show Steps p.tables e below (T4.setTop (mkF m 114 #[.val (.int x0), .val (.int x1), .val (.int x2), .val (.int pp), .val (.int ll), .val (.ref a), .val (.int zz), .val (.int ii), .val (.int y)] [])) _
    refine XS.iconst X4.here hx rfl (hb hby at_114) ?_
    show Steps p.tables e below (T4.setTop (mkF m 115 #[.val (.int x0), .val (.int x1), .val (.int x2), .val (.int pp), .val (.int ll), .val (.ref a), .val (.int zz), .val (.int ii), .val (.int y)] [(.int (1 : Int32))])) _
    refine XS.goto X4.here hx rfl (pc0 := 115) (pc' := 119) rfl (hb hby at_115) (by decide) (by decide) ?_
    show Steps p.tables e below (T4.setTop (mkF m 119 #[.val (.int x0), .val (.int x1), .val (.int x2), .val (.int pp), .val (.int ll), .val (.ref a), .val (.int zz), .val (.int ii), .val (.int y)] [(.int (1 : Int32))])) _
    exact kt
  refine RunsTo.retN X4 hx (t := .boolean) Bd.returns (by simp) Bd.notSynchronized (hb hby at_119) ?_ (by decide) (by decide)
  rw [e4]
  exact ⟨rfl, N4⟩
set_option maxRecDepth 65536 in
set_option maxHeartbeats 40000000 in
theorem comes_1 {Post : Tables → Env → Array Value → State → Outcome → State → Prop} (hpost : ∀ tb e args s v u, (limb_1_1.after args s (.returned v) u = true ∧ limb_1_2.after args s (.returned v) u = true ∧ True) → FrameEnd s (.returned v) u (Jvm.fieldLocs frame_1_writes args s ++ Jvm.arrayLocs frame_1_arrays args s ++ Jvm.staticLocs frame_1_statics s) 16 128 → Post tb e args s (.returned v) u) :
    ArmFor flags0 classFile x code maxLocals ret World_1 tables_1 room_1 Calls_1 rest_1 Pre_1 Post := by
  intro l hfl _ _ p e ha hc hk s m args below hf hA hF happ hP
  obtain ⟨hcalls, hrest, hpre⟩ := hP
  obtain ⟨-, -, -, hnamed, -, -, -, hat⟩ := (Spec.applies_iff hf).mp happ
  obtain ⟨hg, hn⟩ := and_e (Cond.before_iff.mp (show (Jvm.Cond.and given_1 narrow_1).before args s = true from hpre))
  obtain ⟨hcnt, hg0⟩ := and_e hg
  obtain ⟨ha0, hg1⟩ := and_e hg0
  obtain ⟨ha1, hg2⟩ := and_e hg1
  have ha2 := hg2
  obtain ⟨w0, w1, w2, rfl⟩ : ∃ w0 w1 w2 : Value, args = #[w0, w1, w2] := by
    have hs : args.size = 3 := by simpa [Cond.value, given_1] using hcnt
    obtain ⟨L⟩ := args
    match L, hs with
    | [w0, w1, w2], _ => exact ⟨w0, w1, w2, rfl⟩
  have hw := fun d (hd : d ∈ tables_1) => atoms_spec (ws := Jvm.Cond.code x code maxLocals ret :: tables_1) hat d (List.mem_cons_of_mem _ hd)
  have hfit : Fit s := fun {y c} hc i hi => by
    obtain ⟨ha, rfl⟩ := Array.getElem?_eq_some_iff.mp hc
    have q := List.all_eq_true.mp ((Array.all_eq_true_iff_forall_mem.mp hF) _ (Array.getElem_mem ha)) i (List.mem_range.mpr hi)
    simpa [Array.getElem?_eq_getElem hi] using q
  obtain ⟨i0, ei0⟩ := is_v ha0
  obtain rfl : w0 = (.int i0) := Option.some.inj ei0
  obtain ⟨i1, ei1⟩ := is_v ha1
  obtain rfl : w1 = (.int i1) := Option.some.inj ei1
  obtain ⟨i2, ei2⟩ := is_v ha2
  obtain rfl : w2 = (.int i2) := Option.some.inj ei2
  obtain ⟨n, o, h1, h2, h3, _, L, rfl, ⟨rfl, N⟩, hq⟩ := rm0 l s _ hw tables_1 i0 i1 i2 s.heap s.heap.size (Nat.le_refl _)  p e ha hc hk s m _ below hf ((Spec.applies_iff_loose hf).mp happ).1 ⟨rfl, State.Warmed39.refl s, rfl⟩ trivial
  refine ⟨n, _, h1, h2, h3, hpost _ _ _ _ _ _ ⟨Cond.after_iff.mpr rfl, Cond.after_iff.mpr (eq_i res_at (Term.int_eval (1)) rfl), trivial⟩ ⟨hq.1, hq.2.1, (hq.2.2.sift fun y hy => Or.inr (N y hy)).mono (by decide) (by decide)⟩⟩
theorem main_1_1 : Claimed_1_1 := comes_1 fun _ _ _ _ _ _ h hF => ⟨h.1, hF⟩
theorem main_1_2 : Claimed_1_2 := comes_1 fun _ _ _ _ _ _ h hF => ⟨h.2.1, hF⟩
end Jvm.Pilot.@@N@@
namespace Jvm.Pilot.@@N@@
open Jvm Jvm.ClassFile Sem Op Lib Jvm.Free Jvm.Stand Jvm.Pilot.@@N@@.Jvm.D
/-! MADE BY PROGRAM (witnessworld.py) out of the Statement's table words and the real class files: 12 classes; the members and pool entries that the words name. The judged class is class 1, her method 2. -/
namespace start1
open Jvm.ClassFile
def u (s : String) : CpInfo := .utf8 (stringToUtf16 s)
/-- a pool by its gaps: so many unusable entries, then the entry; so many at the end -/
def gap : Nat → List CpInfo → List CpInfo
  | 0, r => r
  | n + 1, r => .unusable :: gap n r
def poolList (es : List (Nat × CpInfo)) (last : Nat) : List CpInfo := es.foldr (fun e r => gap e.1 (e.2 :: r)) (gap last [])
def pool (es : List (Nat × CpInfo)) (last : Nat) : Array CpInfo := ⟨poolList es last⟩
def fileOf (pool : Array CpInfo) (this : Nat) (attrs : Array Attribute := #[]) (ms : Array MethodInfo := #[]) (fl : Nat := 33) (sup : Nat := 0) (ifs : Array Nat := #[]) (fds : Array FieldInfo := #[]) : ClassFile where
  minorVersion := 0
  majorVersion := 65
  constantPool := pool
  accessFlags := fl
  thisClass := this
  superClass := sup
  interfaces := ifs
  fields := fds
  methods := ms
  attributes := attrs
def plain (name : String) (sup : Option ClassId) : Class where
  name := name
  kind := .ordinary
  loader := none
  accessFlags := 33
  super := sup
  interfaces := #[]
  cf := none
  fields := #[]
  methods := #[]
  instanceTypes := #[]
  staticTypes := #[]
  resolved := #[]
  callSites := []
  init := .initialized
  statics := none
  mirror := none

def pool0 : Array CpInfo := pool [(5, u "<init>"), (0, u "()V"), (1, .class_ 10), (1, u "java/lang/Object")] 113

def k0m0 : Method := { name := "<init>", desc := "()V", sig := { parameters := [], returnType := none }, accessFlags := 1, code := none }
/-- java/lang/Object -/
def k0 : Class := { plain "java/lang/Object" none with
  accessFlags := 33
  interfaces := #[]
  cf := some (fileOf pool0 8 #[] #[{ accessFlags := 1, nameIndex := 5, descriptorIndex := 6, attributes := #[] }] 33 0 #[] #[])
  fields := #[]
  methods := #[k0m0]
  instanceTypes := #[]
  staticTypes := #[]
  resolved := Array.replicate 124 none
  statics := none }

def pool1 : Array CpInfo := pool [(2, .class_ 4), (1, u "java/lang/Object"), (0, u "<init>"), (0, u "()V"), (0, .methodref 8 9), (0, .class_ 10), (0, .nameAndType 11 12), (0, u "com/example/roleweave/roleweave/tpm/Tpm"), (0, u "selecting"), (0, u "(II)[B"), (0, .methodref 14 15), (0, .class_ 16), (0, .nameAndType 17 18), (0, u "com/example/roleweave/roleweave/tpm/TpmSelectingPinLaw"), (0, u "bit"), (0, u "([BI)I"), (0, .integer 2147483647), (2, u "law"), (0, u "(III)Z")] 5

def k1m0 : Method := { name := "<init>", desc := "()V", sig := { parameters := [], returnType := none }, accessFlags := 1, code := none }
def k1c1 : Code := { maxStack := 3, maxLocals := 2, code := method_2_code, exceptionTable := #[], attributes := #[] }
def k1m1 : Method := { name := "bit", desc := "([BI)I", sig := { parameters := [(.array .byte), .int], returnType := some .int }, accessFlags := 10, code := some k1c1 }
def k1c2 : Code := { maxStack := 3, maxLocals := 9, code := code, exceptionTable := #[], attributes := #[] }
def k1m2 : Method := { name := "law", desc := "(III)Z", sig := { parameters := [.int, .int, .int], returnType := some .boolean }, accessFlags := 9, code := some k1c2 }
/-- com/example/roleweave/roleweave/tpm/TpmSelectingPinLaw -/
def k1 : Class := { plain "com/example/roleweave/roleweave/tpm/TpmSelectingPinLaw" (some 0) with
  accessFlags := 49
  interfaces := #[]
  cf := some (fileOf pool1 14 #[] #[{ accessFlags := 1, nameIndex := 5, descriptorIndex := 6, attributes := #[] }, { accessFlags := 10, nameIndex := 17, descriptorIndex := 18, attributes := #[] }, { accessFlags := 9, nameIndex := 22, descriptorIndex := 23, attributes := #[] }] 49 2 #[] #[])
  fields := #[]
  methods := #[k1m0, k1m1, k1m2]
  instanceTypes := #[]
  staticTypes := #[]
  resolved := Array.replicate 29 none
  statics := none }

def pool2 : Array CpInfo := pool [(1, .class_ 2), (0, u "java/lang/AutoCloseable"), (0, .class_ 4), (0, u "java/lang/Object")] 7

/-- java/lang/AutoCloseable -/
def k2 : Class := { plain "java/lang/AutoCloseable" (some 0) with
  accessFlags := 1537
  interfaces := #[]
  cf := some (fileOf pool2 1 #[] #[] 1537 3 #[] #[])
  fields := #[]
  methods := #[]
  instanceTypes := #[]
  staticTypes := #[]
  resolved := Array.replicate 12 none
  statics := none }

def pool3 : Array CpInfo := pool [(1, .class_ 2), (0, u "java/io/Closeable"), (0, .class_ 4), (0, u "java/lang/Object"), (0, .class_ 6), (0, u "java/lang/AutoCloseable")] 7

/-- java/io/Closeable -/
def k3 : Class := { plain "java/io/Closeable" (some 0) with
  accessFlags := 1537
  interfaces := #[2]
  cf := some (fileOf pool3 1 #[] #[] 1537 3 #[5] #[])
  fields := #[]
  methods := #[]
  instanceTypes := #[]
  staticTypes := #[]
  resolved := Array.replicate 14 none
  statics := none }

def pool4 : Array CpInfo := pool [(2, .class_ 4), (1, u "java/lang/Object"), (3, .class_ 10), (1, u "com/example/roleweave/roleweave/tpm/Tpm"), (0, u "in"), (0, u "Ljava/io/InputStream;"), (2, u "out"), (0, u "Ljava/io/OutputStream;"), (2, u "connection"), (0, u "Ljava/io/Closeable;"), (70, .class_ 93), (1, u "com/example/roleweave/roleweave/tpm/Tpm$Loaded"), (26, u "selecting"), (0, u "(II)[B"), (36, .class_ 160), (1, u "java/lang/Math"), (1, u "(II)I"), (7, .class_ 171), (0, u "com/example/roleweave/roleweave/tpm/Tpm$Signed"), (2, .methodref 158 175), (0, .nameAndType 176 162), (0, u "max"), (25, .class_ 204), (1, u "com/example/roleweave/roleweave/tpm/Tpm$Reading"), (27, u "SEND_AGAIN"), (0, u "Ljava/util/Set;"), (85, .class_ 321), (1, u "java/io/Closeable"), (46, .class_ 369), (0, u "com/example/roleweave/roleweave/tpm/Tpm$Key"), (4, .class_ 376), (1, u "com/example/roleweave/roleweave/tpm/Tpm$KeyUse"), (10, u "RESPONSE_MILLIS"), (0, u "I"), (2, u "HEADER_BYTES"), (1, u "MOST_RESPONSE_BYTES"), (1, u "LEAST_SELECT_BYTES"), (3, u "MOST_SENDS"), (0, u "AGAIN_AFTER_MILLIS"), (1, u "ST_NO_SESSIONS"), (0, u "ST_SESSIONS"), (0, u "CC_CREATE_PRIMARY"), (1, u "CREATE_PRIMARY"), (0, u "Ljava/lang/String;"), (0, u "CC_CERTIFY"), (1, u "CC_ECDH_ZGEN"), (1, u "CC_HMAC"), (1, u "CC_PCR_RESET"), (1, u "CC_QUOTE"), (1, u "CC_FLUSH_CONTEXT"), (1, u "CC_PCR_EXTEND"), (1, u "RH_OWNER"), (0, u "RS_PW"), (0, u "PASSWORD_AUTHORIZATION_BYTES"), (1, u "ALG_SHA256"), (1, u "ALG_NULL"), (1, u "ALG_KEYEDHASH"), (1, u "ALG_HMAC"), (1, u "HMAC_KEY_ATTRIBUTES"), (0, u "SHA256_BYTES"), (1, u "P256_BYTES"), (0, u "MOST_DIGEST_BYTES")] 134

def k4c0 : Code := { maxStack := 5, maxLocals := 3, code := prog_86_method_14_code, exceptionTable := #[], attributes := #[] }
def k4m0 : Method := { name := "selecting", desc := "(II)[B", sig := { parameters := [.int, .int], returnType := some (.array .byte) }, accessFlags := 8, code := some k4c0 }
/-- com/example/roleweave/roleweave/tpm/Tpm -/
def k4 : Class := { plain "com/example/roleweave/roleweave/tpm/Tpm" (some 0) with
  accessFlags := 49
  interfaces := #[3]
  cf := some (fileOf pool4 8 #[.nestMembers #[202, 91, 374, 170, 368]] #[{ accessFlags := 8, nameIndex := 120, descriptorIndex := 121, attributes := #[] }] 49 2 #[319] #[{ accessFlags := 24, nameIndex := 387, descriptorIndex := 388, attributes := #[] }, { accessFlags := 26, nameIndex := 391, descriptorIndex := 388, attributes := #[] }, { accessFlags := 26, nameIndex := 393, descriptorIndex := 388, attributes := #[] }, { accessFlags := 26, nameIndex := 395, descriptorIndex := 388, attributes := #[] }, { accessFlags := 26, nameIndex := 232, descriptorIndex := 233, attributes := #[] }, { accessFlags := 26, nameIndex := 399, descriptorIndex := 388, attributes := #[] }, { accessFlags := 26, nameIndex := 400, descriptorIndex := 388, attributes := #[] }, { accessFlags := 26, nameIndex := 402, descriptorIndex := 388, attributes := #[] }, { accessFlags := 26, nameIndex := 403, descriptorIndex := 388, attributes := #[] }, { accessFlags := 26, nameIndex := 404, descriptorIndex := 388, attributes := #[] }, { accessFlags := 26, nameIndex := 406, descriptorIndex := 407, attributes := #[] }, { accessFlags := 26, nameIndex := 408, descriptorIndex := 388, attributes := #[] }, { accessFlags := 26, nameIndex := 410, descriptorIndex := 388, attributes := #[] }, { accessFlags := 26, nameIndex := 412, descriptorIndex := 388, attributes := #[] }, { accessFlags := 26, nameIndex := 414, descriptorIndex := 388, attributes := #[] }, { accessFlags := 26, nameIndex := 416, descriptorIndex := 388, attributes := #[] }, { accessFlags := 26, nameIndex := 418, descriptorIndex := 388, attributes := #[] }, { accessFlags := 26, nameIndex := 420, descriptorIndex := 388, attributes := #[] }, { accessFlags := 26, nameIndex := 422, descriptorIndex := 388, attributes := #[] }, { accessFlags := 26, nameIndex := 423, descriptorIndex := 388, attributes := #[] }, { accessFlags := 26, nameIndex := 424, descriptorIndex := 388, attributes := #[] }, { accessFlags := 26, nameIndex := 426, descriptorIndex := 388, attributes := #[] }, { accessFlags := 26, nameIndex := 428, descriptorIndex := 388, attributes := #[] }, { accessFlags := 26, nameIndex := 430, descriptorIndex := 388, attributes := #[] }, { accessFlags := 26, nameIndex := 432, descriptorIndex := 388, attributes := #[] }, { accessFlags := 26, nameIndex := 434, descriptorIndex := 388, attributes := #[] }, { accessFlags := 25, nameIndex := 435, descriptorIndex := 388, attributes := #[] }, { accessFlags := 24, nameIndex := 437, descriptorIndex := 388, attributes := #[] }, { accessFlags := 24, nameIndex := 438, descriptorIndex := 388, attributes := #[] }, { accessFlags := 18, nameIndex := 11, descriptorIndex := 12, attributes := #[] }, { accessFlags := 18, nameIndex := 15, descriptorIndex := 16, attributes := #[] }, { accessFlags := 18, nameIndex := 19, descriptorIndex := 20, attributes := #[] }])
  fields := #[{ name := "RESPONSE_MILLIS", type := .int, accessFlags := 24, slot := 0, constantValue := 0 }, { name := "HEADER_BYTES", type := .int, accessFlags := 26, slot := 1, constantValue := 0 }, { name := "MOST_RESPONSE_BYTES", type := .int, accessFlags := 26, slot := 2, constantValue := 0 }, { name := "LEAST_SELECT_BYTES", type := .int, accessFlags := 26, slot := 3, constantValue := 0 }, { name := "SEND_AGAIN", type := (.object "java/util/Set"), accessFlags := 26, slot := 4, constantValue := 0 }, { name := "MOST_SENDS", type := .int, accessFlags := 26, slot := 5, constantValue := 0 }, { name := "AGAIN_AFTER_MILLIS", type := .int, accessFlags := 26, slot := 6, constantValue := 0 }, { name := "ST_NO_SESSIONS", type := .int, accessFlags := 26, slot := 7, constantValue := 0 }, { name := "ST_SESSIONS", type := .int, accessFlags := 26, slot := 8, constantValue := 0 }, { name := "CC_CREATE_PRIMARY", type := .int, accessFlags := 26, slot := 9, constantValue := 0 }, { name := "CREATE_PRIMARY", type := (.object "java/lang/String"), accessFlags := 26, slot := 10, constantValue := 0 }, { name := "CC_CERTIFY", type := .int, accessFlags := 26, slot := 11, constantValue := 0 }, { name := "CC_ECDH_ZGEN", type := .int, accessFlags := 26, slot := 12, constantValue := 0 }, { name := "CC_HMAC", type := .int, accessFlags := 26, slot := 13, constantValue := 0 }, { name := "CC_PCR_RESET", type := .int, accessFlags := 26, slot := 14, constantValue := 0 }, { name := "CC_QUOTE", type := .int, accessFlags := 26, slot := 15, constantValue := 0 }, { name := "CC_FLUSH_CONTEXT", type := .int, accessFlags := 26, slot := 16, constantValue := 0 }, { name := "CC_PCR_EXTEND", type := .int, accessFlags := 26, slot := 17, constantValue := 0 }, { name := "RH_OWNER", type := .int, accessFlags := 26, slot := 18, constantValue := 0 }, { name := "RS_PW", type := .int, accessFlags := 26, slot := 19, constantValue := 0 }, { name := "PASSWORD_AUTHORIZATION_BYTES", type := .int, accessFlags := 26, slot := 20, constantValue := 0 }, { name := "ALG_SHA256", type := .int, accessFlags := 26, slot := 21, constantValue := 0 }, { name := "ALG_NULL", type := .int, accessFlags := 26, slot := 22, constantValue := 0 }, { name := "ALG_KEYEDHASH", type := .int, accessFlags := 26, slot := 23, constantValue := 0 }, { name := "ALG_HMAC", type := .int, accessFlags := 26, slot := 24, constantValue := 0 }, { name := "HMAC_KEY_ATTRIBUTES", type := .int, accessFlags := 26, slot := 25, constantValue := 0 }, { name := "SHA256_BYTES", type := .int, accessFlags := 25, slot := 26, constantValue := 0 }, { name := "P256_BYTES", type := .int, accessFlags := 24, slot := 27, constantValue := 0 }, { name := "MOST_DIGEST_BYTES", type := .int, accessFlags := 24, slot := 28, constantValue := 0 }, { name := "in", type := (.object "java/io/InputStream"), accessFlags := 18, slot := 0, constantValue := 0 }, { name := "out", type := (.object "java/io/OutputStream"), accessFlags := 18, slot := 1, constantValue := 0 }, { name := "connection", type := (.object "java/io/Closeable"), accessFlags := 18, slot := 2, constantValue := 0 }]
  methods := #[k4m0]
  instanceTypes := #[(.object "java/io/InputStream"), (.object "java/io/OutputStream"), (.object "java/io/Closeable")]
  staticTypes := #[.int, .int, .int, .int, (.object "java/util/Set"), .int, .int, .int, .int, .int, (.object "java/lang/String"), .int, .int, .int, .int, .int, .int, .int, .int, .int, .int, .int, .int, .int, .int, .int, .int, .int, .int]
  resolved := Array.replicate 573 none
  statics := none }

def pool5 : Array CpInfo := pool [(1, .class_ 2), (0, u "java/lang/Math"), (1, .class_ 6), (1, u "java/lang/Object"), (0, u "<init>"), (0, u "()V"), (89, .class_ 100), (1, u "java/lang/Math$RandomNumberGeneratorHolder"), (71, u "negativeZeroFloatBits"), (0, u "J"), (2, u "negativeZeroDoubleBits"), (21, u "max"), (46, u "$assertionsDisabled"), (0, u "Z"), (88, u "(II)I"), (2, u "twoToTheDoubleScaleDown"), (0, u "D"), (4, u "twoToTheDoubleScaleUp"), (9, u "E"), (3, u "PI"), (2, u "TAU"), (2, u "DEGREES_TO_RADIANS"), (0, u "RADIANS_TO_DEGREES")] 94

def k5m0 : Method := { name := "<init>", desc := "()V", sig := { parameters := [], returnType := none }, accessFlags := 2, code := none }
def k5c1 : Code := { maxStack := 2, maxLocals := 2, code := jdk_29_method_65_code, exceptionTable := #[], attributes := #[] }
def k5m1 : Method := { name := "max", desc := "(II)I", sig := { parameters := [.int, .int], returnType := some .int }, accessFlags := 9, code := some k5c1 }
/-- java/lang/Math -/
def k5 : Class := { plain "java/lang/Math" (some 0) with
  accessFlags := 49
  interfaces := #[]
  cf := some (fileOf pool5 1 #[.nestMembers #[98]] #[{ accessFlags := 2, nameIndex := 7, descriptorIndex := 8, attributes := #[] }, { accessFlags := 9, nameIndex := 198, descriptorIndex := 335, attributes := #[] }] 49 4 #[] #[{ accessFlags := 25, nameIndex := 354, descriptorIndex := 339, attributes := #[] }, { accessFlags := 25, nameIndex := 358, descriptorIndex := 339, attributes := #[] }, { accessFlags := 25, nameIndex := 361, descriptorIndex := 339, attributes := #[] }, { accessFlags := 26, nameIndex := 364, descriptorIndex := 339, attributes := #[] }, { accessFlags := 26, nameIndex := 365, descriptorIndex := 339, attributes := #[] }, { accessFlags := 26, nameIndex := 172, descriptorIndex := 173, attributes := #[] }, { accessFlags := 26, nameIndex := 176, descriptorIndex := 173, attributes := #[] }, { accessFlags := 8, nameIndex := 344, descriptorIndex := 339, attributes := #[] }, { accessFlags := 8, nameIndex := 338, descriptorIndex := 339, attributes := #[] }, { accessFlags := 4120, nameIndex := 245, descriptorIndex := 246, attributes := #[] }])
  fields := #[{ name := "E", type := .double, accessFlags := 25, slot := 0, constantValue := 0 }, { name := "PI", type := .double, accessFlags := 25, slot := 1, constantValue := 0 }, { name := "TAU", type := .double, accessFlags := 25, slot := 2, constantValue := 0 }, { name := "DEGREES_TO_RADIANS", type := .double, accessFlags := 26, slot := 3, constantValue := 0 }, { name := "RADIANS_TO_DEGREES", type := .double, accessFlags := 26, slot := 4, constantValue := 0 }, { name := "negativeZeroFloatBits", type := .long, accessFlags := 26, slot := 5, constantValue := 0 }, { name := "negativeZeroDoubleBits", type := .long, accessFlags := 26, slot := 6, constantValue := 0 }, { name := "twoToTheDoubleScaleUp", type := .double, accessFlags := 8, slot := 7, constantValue := 0 }, { name := "twoToTheDoubleScaleDown", type := .double, accessFlags := 8, slot := 8, constantValue := 0 }, { name := "$assertionsDisabled", type := .boolean, accessFlags := 4120, slot := 9, constantValue := 0 }]
  methods := #[k5m0, k5m1]
  instanceTypes := #[]
  staticTypes := #[.double, .double, .double, .double, .double, .long, .long, .double, .double, .boolean]
  resolved := Array.replicate 460 none
  statics := none }

def pool6 : Array CpInfo := pool [(1, u "java/lang/Cloneable"), (0, .class_ 1), (0, u "java/lang/Object"), (0, .class_ 3)] 3

/-- java/lang/Cloneable -/
def k6 : Class := { plain "java/lang/Cloneable" (some 0) with
  accessFlags := 1537
  interfaces := #[]
  cf := some (fileOf pool6 2 #[] #[] 1537 4 #[] #[])
  fields := #[]
  methods := #[]
  instanceTypes := #[]
  staticTypes := #[]
  resolved := Array.replicate 8 none
  statics := none }

def pool7 : Array CpInfo := pool [(1, u "java/io/Serializable"), (0, .class_ 1), (0, u "java/lang/Object"), (0, .class_ 3)] 3

/-- java/io/Serializable -/
def k7 : Class := { plain "java/io/Serializable" (some 0) with
  accessFlags := 1537
  interfaces := #[]
  cf := some (fileOf pool7 2 #[] #[] 1537 4 #[] #[])
  fields := #[]
  methods := #[]
  instanceTypes := #[]
  staticTypes := #[]
  resolved := Array.replicate 8 none
  statics := none }

/-- the primitive byte -/
def k8 : Class := { plain "byte" none with kind := .primitive 'B', accessFlags := 0x411 }
/-- [B -/
def k9 : Class := { plain "[B" (some 0) with kind := .array 8 .byte, interfaces := #[6, 7], accessFlags := 1041 }

/-- the primitive int -/
def k10 : Class := { plain "int" none with kind := .primitive 'I', accessFlags := 0x411 }
/-- [I -/
def k11 : Class := { plain "[I" (some 0) with kind := .array 10 .int, interfaces := #[6, 7], accessFlags := 1041 }

def heap : Heap := #[]
def classes : Array Class := #[k0, k1, k2, k3, k4, k5, k6, k7, k8, k9, k10, k11]
def interned : List (Array UInt16 × Addr) := []
def slotsUsed : Nat := 0
def theMethod : MethodId := ⟨1, 2⟩
def args0 : Array Value := #[.int 77, .int 5, .int 300]
def aboutOver (below : List Frame) : State where
  vm := { classes := classes, interned := interned.toArray }
  heap := heap
  slotsUsed := slotsUsed
  threads := #[{ frames := .invoking theMethod args0 :: below }]
def below0 : List Frame := [.native { method := ⟨0, 0⟩, args := #[] }]
def about1 : State := aboutOver below0
def p0 : Program := .bare "" "" ""
def e0 : Env := launch0.env 0 0 0
theorem w_frames : about1.frames = Frame.invoking theMethod args0 :: below0 := rfl
set_option maxRecDepth 65536 in
theorem w_args : argsFit about1.vm theMethod args0 = true := by decide +kernel
set_option maxRecDepth 65536 in
theorem w_heap : heapFits about1 = true := by decide +kernel
set_option maxRecDepth 65536 in
theorem w_runnable : about1.curStatus? = some .runnable := by decide +kernel
set_option maxRecDepth 65536 in
theorem w_alone : about1.alone = true := by decide +kernel
set_option maxRecDepth 65536 in
theorem w_named : about1.methodNamed? x = some theMethod := by decide +kernel
set_option maxRecDepth 65536 in
theorem w_hears : about1.hears theMethod below0 = true := by decide +kernel
set_option maxRecDepth 65536 in
theorem w_ripe : about1.ripe theMethod args0 below0 = true := by decide +kernel
theorem w_running : about1.status = .running := rfl
set_option maxRecDepth 65536 in
theorem w_room : about1.hasRoom e0.platform room_1 = true :=
  launch0.hasRoom_least _ room_1 (by decide +kernel) (by decide +kernel) (by decide +kernel) (by decide +kernel) (by decide +kernel) (by decide +kernel)
theorem allAtoms_all (ts : List Jvm.Cond) (a : Array Jvm.Value) (st : Jvm.State) : (allAtoms ts).before a st = ts.all (fun c => c.before a st) := by
  induction ts with
  | nil => rfl
  | cons c t ih =>
    show (Jvm.Cond.and c (allAtoms t)).before a st = _
    rw [Jvm.Cond.before_and, ih, List.all_cons]
def words1 : List Jvm.Cond := Jvm.Cond.code x code maxLocals ret :: tables_1
/-- a 'code' word, met by the world's own term for the bytes: nothing is compared byte by byte -/
theorem code_word {y : MethodName} {bytes : ByteArray} {mx : Nat} {rt : Option FieldType} {a : Array Value} {s : State} {m : MethodId} {meth : Method} {c : Code} (h1 : s.methodNamed? y = some m) (h2 : s.vm.method? m = some meth) (h3 : meth.code = some c) (h4 : c.code = bytes)
    (h5 : (c.maxLocals == mx && c.exceptionTable.isEmpty && decide (c.maxStack ≤ mostOperands) && decide (meth.sig.returnType = rt) && !meth.locks && decide (parseMethodDescriptor y.desc = some meth.sig)) = true) : (Jvm.Cond.code y bytes mx rt).before a s = true := by
  simp only [Bool.and_eq_true, beq_iff_eq, Bool.not_eq_true', decide_eq_true_eq] at h5
  obtain ⟨⟨⟨⟨⟨g1, g2⟩, g3⟩, g4⟩, g5⟩, g6⟩ := h5
  simp [Cond.before, Cond.holds, Cond.value, h1, h2, h3, h4, g1, g2, g3, g4, g5, g6]
def isCode : Jvm.Cond → Bool
  | .code _ _ _ _ => true
  | _ => false
theorem all_split {L : List Jvm.Cond} {P : Jvm.Cond → Bool} (h1 : L.all (fun c => isCode c || P c) = true) (h2 : ∀ c ∈ L.filter isCode, P c = true) : L.all P = true := by
  refine List.all_eq_true.mpr fun c hc => ?_
  have h := List.all_eq_true.mp h1 c hc
  rcases Bool.eq_false_or_eq_true (isCode c) with hi | hi
  · exact h2 c (List.mem_filter.mpr ⟨hc, hi⟩)
  · simpa [hi] using h
set_option maxRecDepth 65536 in
theorem w_c0 : (Jvm.Cond.code x code maxLocals ret).before args0 about1 = true := code_word (m := ⟨1, 2⟩) (meth := k1m2) (c := k1c2) (by decide +kernel) rfl rfl rfl (by decide +kernel)
set_option maxRecDepth 65536 in
theorem w_c1 : (Jvm.Cond.code ({ cls := "com/example/roleweave/roleweave/tpm/Tpm", name := "selecting", desc := "(II)[B" } : Jvm.MethodName) prog_86_method_14_code (3 : Nat) (Option.some (Jvm.ClassFile.FieldType.array Jvm.ClassFile.FieldType.byte))).before args0 about1 = true := code_word (m := ⟨4, 0⟩) (meth := k4m0) (c := k4c0) (by decide +kernel) rfl rfl rfl (by decide +kernel)
set_option maxRecDepth 65536 in
theorem w_c2 : (Jvm.Cond.code ({ cls := "java/lang/Math", name := "max", desc := "(II)I" } : Jvm.MethodName) jdk_29_method_65_code (2 : Nat) (Option.some Jvm.ClassFile.FieldType.int)).before args0 about1 = true := code_word (m := ⟨5, 1⟩) (meth := k5m1) (c := k5c1) (by decide +kernel) rfl rfl rfl (by decide +kernel)
set_option maxRecDepth 65536 in
theorem w_c3 : (Jvm.Cond.code ({ cls := "com/example/roleweave/roleweave/tpm/TpmSelectingPinLaw", name := "bit", desc := "([BI)I" } : Jvm.MethodName) method_2_code (2 : Nat) (Option.some Jvm.ClassFile.FieldType.int)).before args0 about1 = true := code_word (m := ⟨1, 1⟩) (meth := k1m1) (c := k1c1) (by decide +kernel) rfl rfl rfl (by decide +kernel)
def codes1 : List Jvm.Cond := [Jvm.Cond.code x code maxLocals ret, Jvm.Cond.code ({ cls := "com/example/roleweave/roleweave/tpm/Tpm", name := "selecting", desc := "(II)[B" } : Jvm.MethodName) prog_86_method_14_code (3 : Nat) (Option.some (Jvm.ClassFile.FieldType.array Jvm.ClassFile.FieldType.byte)), Jvm.Cond.code ({ cls := "java/lang/Math", name := "max", desc := "(II)I" } : Jvm.MethodName) jdk_29_method_65_code (2 : Nat) (Option.some Jvm.ClassFile.FieldType.int), Jvm.Cond.code ({ cls := "com/example/roleweave/roleweave/tpm/TpmSelectingPinLaw", name := "bit", desc := "([BI)I" } : Jvm.MethodName) method_2_code (2 : Nat) (Option.some Jvm.ClassFile.FieldType.int)]
set_option maxRecDepth 65536 in
theorem codes_eq : words1.filter isCode = codes1 := rfl
theorem w_codes : ∀ c ∈ words1.filter isCode, c.before args0 about1 = true := by
  rw [codes_eq]
  intro c hc
  simp only [codes1, List.mem_cons, List.not_mem_nil, or_false] at hc
  rcases hc with rfl | rfl | rfl | rfl
  · exact w_c0
  · exact w_c1
  · exact w_c2
  · exact w_c3
set_option maxRecDepth 65536 in
theorem w_t1 : words1.all (fun c => isCode c || c.before args0 about1) = true := by decide +kernel
theorem w_tables : (allAtoms (Jvm.Cond.code x code maxLocals ret :: tables_1)).before args0 about1 = true := by
  rw [allAtoms_all]
  show words1.all (fun c => c.before args0 about1) = true
  refine all_split ?_ w_codes
  rw [w_t1]
set_option maxRecDepth 65536 in
theorem w_case : (Jvm.Cond.and given_1 narrow_1).before args0 about1 = true := by decide +kernel
theorem w_applies : (headSpec (Jvm.Cond.code x code maxLocals ret :: tables_1) room_1).applies x e0.platform about1 = true :=
  (Spec.applies_iff w_frames).mpr ⟨w_running, w_runnable, w_alone, w_named, w_hears, w_ripe, w_room, w_tables⟩
theorem atStart : AtStart classFile x code maxLocals ret World_1 tables_1 room_1 Calls_1 rest_1 Pre_1 launch0 p0 e0 about1 theMethod args0 below0 :=
  ⟨lists_1, trivial, launch0.admits_env _ _ _, launch0.least_env, fairChoices_fair.cas, fairChoices_fair.clock, w_frames, w_args, w_heap, w_applies, trivial, trivial, w_case⟩
end start1
theorem witness_1 : WitnessClaimed_1 := ⟨start1.p0, start1.e0, start1.about1, start1.theMethod, start1.args0, start1.below0, start1.atStart⟩
end Jvm.Pilot.@@N@@
