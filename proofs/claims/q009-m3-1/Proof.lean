import JvmDerived
import JvmDerived.Pilot.@@N@@Statement
import JvmDerived.Pilot.@@N@@Code
set_option linter.unusedVariables false
set_option linter.unusedSimpArgs false
namespace Jvm.RoadKit
open Sem ClassFile Op Lib Jvm.Stand Jvm.Free Jvm.LawKit
section OwnEnds
variable {p : Program} {l : Launch} {e : Env} {R : Room} {s : State} {m : MethodId} {args : Array Value} {below : List Frame} {meth : Method} {c : Code} {T T' : State} {locs : List Loc} {cells slots : Nat} {g g' : JFrame} {Q : Option Value → Heap → List Loc → Prop} {C N : Nat}
/-- from here (the state T, the frame g on top) the run ends, and what it leaves is Q -/
def RunsTo (p : Program) (e : Env) (below : List Frame) (s T : State) (g : JFrame) (Q : Option Value → Heap → List Loc → Prop) (C N : Nat) : Prop :=
  ∃ U o, Steps p.tables e below (T.setTop g) U ∧ U.status = .running ∧ Ended U below o ∧ ∃ v L, o = .returned v ∧ Q v U.heap L ∧ FrameEnd s o U L C N
theorem RunsTo.of (k : ∀ t, Steps p.tables e below (T'.setTop g') t → Steps p.tables e below (T.setTop g) t) (h : RunsTo p e below s T' g' Q C N) : RunsTo p e below s T g Q C N := by
  obtain ⟨U, o, k1, r⟩ := h
  exact ⟨U, o, k U k1, r⟩
theorem RunsTo.start (q : g = g') (h : RunsTo p e below s T g' Q C N) : ∃ U o, Steps p.tables e below (T.setTop g) U ∧ U.status = .running ∧ Ended U below o ∧ ∃ v L, o = .returned v ∧ Q v U.heap L ∧ FrameEnd s o U L C N := by
  subst q; exact h
theorem RunsTo.leave (X : Stand p l e R s m args below meth c T locs cells slots) {v : Option Value} (hv : meth.sig.returnType = none → v = none) (hlocks : meth.locks = false) (hq : Q v T.heap locs) (hC : cells ≤ C) (hN : slots ≤ N)
    (k : ∀ fs, (∀ (f : JFrame) (acts : List Action), f.method = m → f.locked = none → f.entered = [] → (doReturn e (T.setTop f) acts v).1 = T.setFrames fs) → Steps p.tables e below (T.setTop g) (T.setFrames fs)) : RunsTo p e below s T g Q C N := by
  obtain ⟨fs, hr, hrun, hended, hW, hsame⟩ := X.leave (v := v) hv hlocks
  exact ⟨_, _, k fs hr, hrun, hended, v, _, rfl, hq, ⟨_, rfl⟩, hW, hsame.mono hC hN⟩
theorem RunsTo.retI (X : Stand p l e R s m args below meth c T locs cells slots) (hx : p.tables.exec = Jvm.exec) {pc : Nat} {Ls : Array Slot} {z : Int32} {rest : List Value} (hret : meth.sig.returnType = some .int) (hlocks : meth.locks = false) (hd : decode c.code pc = .ok (.ireturn, 1)) (hq : Q (some (.int z)) T.heap locs) (hC : cells ≤ C) (hN : slots ≤ N) :
    RunsTo p e below s T (mkF m pc Ls (.int z :: rest)) Q C N := by
  refine RunsTo.leave X (fun h => by rw [hret] at h; cases h) hlocks hq hC hN fun fs hl => ?_
  have hm' : T.vm.method? m = some meth := X.method'
  have hn : narrow .int (.int z) = .int z := rfl
  show Steps p.tables e below (T.setTop { method := m, pc := pc, locals := Ls, stack := _ :: rest, locked := none }) _
  jvm_step X.here [X.here.top, hx, hd, hm', hret, hn]
  first | (intro acts; rw [hl _ acts rfl rfl rfl]) | rw [hl _ _ rfl rfl rfl]
  exact Steps.refl _
theorem RunsTo.retJ (X : Stand p l e R s m args below meth c T locs cells slots) (hx : p.tables.exec = Jvm.exec) {pc : Nat} {Ls : Array Slot} {z : Int64} {rest : List Value} (hret : meth.sig.returnType = some .long) (hlocks : meth.locks = false) (hd : decode c.code pc = .ok (.lreturn, 1)) (hq : Q (some (.long z)) T.heap locs) (hC : cells ≤ C) (hN : slots ≤ N) :
    RunsTo p e below s T (mkF m pc Ls (.long z :: rest)) Q C N := by
  refine RunsTo.leave X (fun h => by rw [hret] at h; cases h) hlocks hq hC hN fun fs hl => ?_
  have hm' : T.vm.method? m = some meth := X.method'
  show Steps p.tables e below (T.setTop { method := m, pc := pc, locals := Ls, stack := _ :: rest, locked := none }) _
  jvm_step X.here [X.here.top, hx, hd, hm', hret, narrow]
  first | (intro acts; rw [hl _ acts rfl rfl rfl]) | rw [hl _ _ rfl rfl rfl]
  exact Steps.refl _
theorem RunsTo.retA (X : Stand p l e R s m args below meth c T locs cells slots) (hx : p.tables.exec = Jvm.exec) {pc : Nat} {Ls : Array Slot} {z : Value} {ty : FieldType} (hret : meth.sig.returnType = some ty) (hty : ty.isReference = true) (hz : z.isRef = true) (hlocks : meth.locks = false) (hd : decode c.code pc = .ok (.areturn, 1)) (hq : Q (some z) T.heap locs) (hC : cells ≤ C) (hN : slots ≤ N) :
    RunsTo p e below s T (mkF m pc Ls [z]) Q C N :=
  RunsTo.leave X (fun h => by rw [hret] at h; cases h) hlocks hq hC hN fun fs hl => X.areturnOut hx hz hret hty hd hl
theorem RunsTo.retN (X : Stand p l e R s m args below meth c T locs cells slots) (hx : p.tables.exec = Jvm.exec) {pc : Nat} {Ls : Array Slot} {z : Int32} {t : FieldType} {rest : List Value} (hret : meth.sig.returnType = some t) (ht : t = .boolean ∨ t = .byte ∨ t = .char ∨ t = .short) (hlocks : meth.locks = false) (hd : decode c.code pc = .ok (.ireturn, 1)) (hq : Q (some (.int (nar t z))) T.heap locs) (hC : cells ≤ C) (hN : slots ≤ N) :
    RunsTo p e below s T (mkF m pc Ls (.int z :: rest)) Q C N :=
  RunsTo.leave X (fun h => by rw [hret] at h; cases h) hlocks hq hC hN fun fs hl => Jvm.RoadKit.retN X hx hret ht hd hl
theorem RunsTo.retV (X : Stand p l e R s m args below meth c T locs cells slots) (hx : p.tables.exec = Jvm.exec) {pc : Nat} {Ls : Array Slot} (hret : meth.sig.returnType = none) (hlocks : meth.locks = false) (hd : decode c.code pc = .ok (.return_, 1)) (hq : Q none T.heap locs) (hC : cells ≤ C) (hN : slots ≤ N) :
    RunsTo p e below s T (mkF m pc Ls []) Q C N :=
  RunsTo.leave X (fun _ => rfl) hlocks hq hC hN fun fs hl => X.returnOut hx hret hd hl
end OwnEnds
theorem nar_ref (ty : FieldType) {v : Value} (hv : v.isRef = true) : narrow ty v = v := by rcases ref_cases hv with rfl | ⟨a, rfl⟩ <;> cases ty <;> rfl
theorem fits_ref' {ty : FieldType} {v : Value} (h : ty.isReference = true) (hv : v.isRef = true) : fits ty v = true := by rcases ref_cases hv with rfl | ⟨a, rfl⟩ <;> cases ty <;> simp_all [fits, FieldType.isReference]
section OwnArf
variable {Z : State} {h h' : Heap} {a b : Addr} {c : Cell} {k : ClassId} {ty : FieldType} {z j : Int32} {f f' : Nat → Value} {v : Value} {sl : Nat} {ws : List Addr}
/-- an array: its kind, its length z, and what each place holds -/
def Arf (Z : State) (h : Heap) (a : Addr) (ty : FieldType) (z : Int32) (f : Nat → Value) : Prop := ∃ c : Cell, Arr Z h a c ty ∧ c.slots.size = z.toNatClampNeg ∧ ¬ z < 0 ∧ ∀ j, j < c.slots.size → c.slots[j]? = some (f j)
theorem Arf.lt (F : Arf Z h a ty z f) : a < h.size := by obtain ⟨c, A, -⟩ := F; exact A.lt
theorem Arf.ext (F : Arf Z h a ty z f) (E : Ext h h') : Arf Z h' a ty z f := by obtain ⟨c, A, r⟩ := F; exact ⟨c, A.ext E, r⟩
theorem Arf.other (F : Arf Z h b ty z f) (W : Wr h h' a sl v) (q : b ≠ a) : Arf Z h' b ty z f := by obtain ⟨c, A, r⟩ := F; exact ⟨c, A.other W q, r⟩
theorem Arf.keep (F : Arf Z h a ty z f) (K : Keep h h' ws) (q : a ∉ ws) : Arf Z h' a ty z f := by obtain ⟨c, A, r⟩ := F; exact ⟨c, ⟨K.2.1 a c A.1 q, A.2⟩, r⟩
theorem Arf.new (A : Arr Z h a (newA k ty z) ty) (q : ¬ z < 0) : Arf Z h a ty z (fun _ => defaultValue ty) := ⟨_, A, sz_new _ _ _, q, fun i hi => by rw [sz_new] at hi; simp [newA, hi]⟩
theorem Arf.congr (F : Arf Z h a ty z f) (q : ∀ i, i < z.toNatClampNeg → f i = f' i) : Arf Z h a ty z f' := by
  obtain ⟨c, A, S, M, H⟩ := F
  exact ⟨c, A, S, M, fun i hi => by rw [← q i (S ▸ hi)]; exact H i hi⟩
theorem Arf.set (A : Arr Z h a c ty) (S : c.slots.size = z.toNatClampNeg) (M : ¬ z < 0) (H : ∀ i, i < c.slots.size → c.slots[i]? = some (f i)) (W : Wr h h' a j.toNatClampNeg v) : Arf Z h' a ty z (fun i => if i = j.toNatClampNeg then v else f i) := by
  refine ⟨_, A.same W, by rw [sz_set]; exact S, M, fun i hi => ?_⟩
  rw [sz_set] at hi
  by_cases u : i = j.toNatClampNeg
  · subst u
    simp [Cell.setSlot, hi]
  · have : (c.setSlot j.toNatClampNeg v).slots[i]? = c.slots[i]? := by
      simp only [Cell.setSlot]; exact Array.getElem?_setIfInBounds_ne (Ne.symm u)
    rw [this]; show _ = some (if i = j.toNatClampNeg then v else f i); rw [if_neg u]; exact H i hi
end OwnArf
end Jvm.RoadKit
namespace Jvm.Pilot.@@N@@
open Jvm Jvm.ClassFile Sem Op Lib Jvm.Free Jvm.Stand Jvm.LawKit Jvm.RoadKit Bundle Jvm.Pilot.@@N@@.Jvm.D
/-! the plain law -/
def own_any (c : Nat → Int32) : Nat → Int32
  | 0 => 0
  | k + 1 => if own_any c k = 0 then c k else own_any c k
theorem own_stay (c : Nat → Int32) (k : Nat) (h : own_any c k ≠ 0) : ∀ d, own_any c (k + d) = own_any c k
  | 0 => rfl
  | d + 1 => by
    show (if own_any c (k + d) = 0 then c (k + d) else own_any c (k + d)) = _
    rw [own_stay c k h d, if_neg h]
def own_bs (y1 y2 y3 y4 : Int32) (i : Nat) : Int32 := if i = 3 then nar .boolean y4 else if i = 2 then nar .boolean y3 else if i = 1 then nar .boolean y2 else if i = 0 then nar .boolean y1 else 0
def own_pick (s0 s1 s2 : Int32) (k : Nat) : Int32 := if k = 0 then s0 else if k = 1 then s1 else s2
theorem own_b01 (y1 y2 y3 y4 : Int32) (i : Nat) : own_bs y1 y2 y3 y4 i = 0 ∨ own_bs y1 y2 y3 y4 i = 1 := by
  have h : ∀ y : Int32, nar .boolean y = 0 ∨ nar .boolean y = 1 := fun y => and_one y
  unfold own_bs
  repeat' split
  all_goals first | exact h _ | exact Or.inl rfl
theorem own_and3 (x : Int32) : (x &&& 3) = 0 ∨ (x &&& 3) = 1 ∨ (x &&& 3) = 2 ∨ (x &&& 3) = 3 := by
  have h := c_mask x 3 2 (by decide) (by decide)
  rw [← Int32.toInt_inj, ← Int32.toInt_inj, ← Int32.toInt_inj, ← Int32.toInt_inj]
  simp only [show (0 : Int32).toInt = 0 from rfl, show (1 : Int32).toInt = 1 from rfl, show (2 : Int32).toInt = 2 from rfl, show (3 : Int32).toInt = 3 from rfl]
  omega
theorem own_in4 (x : Int32) : ¬ (x &&& 3) < 0 ∧ (x &&& 3) < 4 := by
  have h := c_mask x 3 2 (by decide) (by decide)
  rw [Int32.lt_iff_toInt_lt, Int32.lt_iff_toInt_lt]
  simp only [show (0 : Int32).toInt = 0 from rfl, show (4 : Int32).toInt = 4 from rfl]
  omega
theorem own_nat (j : Int32) (h : 0 ≤ j.toInt) : (j.toNatClampNeg : Int) = j.toInt := by simp only [Int32.toNatClampNeg]; omega
theorem d1_0 : decode prog_84_method_10_code 0 = .ok (.iconst 0, 1) := by decide +kernel
theorem d1_1 : decode prog_84_method_10_code 1 = .ok (.istore_n 2, 1) := by decide +kernel
theorem d1_2 : decode prog_84_method_10_code 2 = .ok (.iconst 0, 1) := by decide +kernel
theorem d1_3 : decode prog_84_method_10_code 3 = .ok (.istore_n 3, 1) := by decide +kernel
theorem d1_4 : decode prog_84_method_10_code 4 = .ok (.iload_n 3, 1) := by decide +kernel
theorem d1_5 : decode prog_84_method_10_code 5 = .ok (.aload_n 0, 1) := by decide +kernel
theorem d1_6 : decode prog_84_method_10_code 6 = .ok (.arraylength, 1) := by decide +kernel
theorem d1_7 : decode prog_84_method_10_code 7 = .ok (.if_icmp .ge 19, 3) := by decide +kernel
theorem d1_26 : decode prog_84_method_10_code 26 = .ok (.iload_n 2, 1) := by decide +kernel
theorem d1_27 : decode prog_84_method_10_code 27 = .ok (.ireturn, 1) := by decide +kernel
theorem d1_10 : decode prog_84_method_10_code 10 = .ok (.iload_n 2, 1) := by decide +kernel
theorem d1_11 : decode prog_84_method_10_code 11 = .ok (.ifCond .ne 15, 3) := by decide +kernel
theorem d1_14 : decode prog_84_method_10_code 14 = .ok (.aload_n 1, 1) := by decide +kernel
theorem d1_15 : decode prog_84_method_10_code 15 = .ok (.aload_n 0, 1) := by decide +kernel
theorem d1_16 : decode prog_84_method_10_code 16 = .ok (.iload_n 3, 1) := by decide +kernel
theorem d1_17 : decode prog_84_method_10_code 17 = .ok (.iaload, 1) := by decide +kernel
theorem d1_18 : decode prog_84_method_10_code 18 = .ok (.baload, 1) := by decide +kernel
theorem d1_19 : decode prog_84_method_10_code 19 = .ok (.istore_n 2, 1) := by decide +kernel
theorem d1_20 : decode prog_84_method_10_code 20 = .ok (.iinc 3 1, 3) := by decide +kernel
theorem d1_23 : decode prog_84_method_10_code 23 = .ok (.goto (-19), 3) := by decide +kernel
theorem pn_0 : plainName "com/example/kontroller/kontroller/synthesis/StateGraph" = true := by first | (simp [plainName, overriddenIn]; done) | decide +kernel
theorem ef_rm1 (m : MethodId) (x0 : Addr) (x1 : Addr) : entryFrame m #[(.ref x0), (.ref x1)] 4 = mkF m 0 #[.val (.ref x0), .val (.ref x1), .unset, .unset] [] := by first | (simp [entryFrame, mkF, argsToLocals, Value.category]; done) | rfl
def Q1 (Z : State) (a : Addr) (b : Addr) (z z2 : Int32) (fa fb : Nat → Value) (cc : Nat → Int32) (h0 : Heap) (n0 : Nat) (v : Option Value) (h : Heap) (L : List Loc) : Prop := v = some (.int (nar .boolean (own_any cc z.toNatClampNeg))) ∧ Fr n0 L ∧ h = h0
set_option maxRecDepth 65536 in
set_option maxHeartbeats 40000000 in
theorem rm1 (l : Launch) (Z : State) (a0 : Array Value) (hw : ∀ d ∈ tables_1, d.before a0 Z = true) (ws : List Jvm.Cond) (a : Addr) (b : Addr) (z z2 : Int32) (fa fb : Nat → Value) (cc : Nat → Int32) (h0 : Heap) (n0 : Nat) (Z0 : n0 ≤ h0.size) (V_a : Arf Z h0 a .int z fa) (V_b : Arf Z h0 b .boolean z2 fb) (hc : ∀ k, k < z.toNatClampNeg → ∃ j : Int32, fa k = .int j ∧ (¬ j < 0 ∧ j < z2) ∧ fb j.toNatClampNeg = .int (cc k)) :
    MetFree l (⟨"com/example/kontroller/kontroller/synthesis/StateGraph", "any", "([I[Z)Z"⟩ : MethodName) (head1 (Jvm.Cond.code (⟨"com/example/kontroller/kontroller/synthesis/StateGraph", "any", "([I[Z)Z"⟩ : MethodName) prog_84_method_10_code 4 (some .boolean) :: ws) ({ frames := 0, cells := 0, slots := 0, locals := 0 } : Room)) (fun as' U => as' = #[(.ref a), (.ref b)] ∧ Z.Warmed39 U.vm ∧ U.heap = h0) (fun _ _ _ _ _ => True) (fun _ U o U' => ∃ v L, o = .returned v ∧ Q1 Z a b z z2 fa fb cc h0 n0 v U'.heap L ∧ FrameEnd U o U' L ({ frames := 0, cells := 0, slots := 0, locals := 0 } : Room).cells ({ frames := 0, cells := 0, slots := 0, locals := 0 } : Room).slots) := by
  refine MetFree.of_bodySF (plainFor_of_name pn_0) hisR ?_
  intro p e s m args below meth c s₁ Bd hml0 hP hK
  obtain ⟨rfl, hZ, hh⟩ := hP
  have hx := Bd.exec
  have hby := Bd.bytes
  have hml : c.maxLocals = 4 := hml0
  have hown : s.vm.findClass "com/example/kontroller/kontroller/synthesis/StateGraph" = some m.cls := findClass_of_methodNamed Bd.named
  have hnm := (name_of_methodNamed Bd.named Bd.method).1
  have X0 : Stand p l e ({ frames := 0, cells := 0, slots := 0, locals := 0 } : Room) s m #[(.ref a), (.ref b)] below meth c s₁ [] 0 0 := Stand.of_body Bd
  have e0 : s₁.heap = h0 := by rw [← hh, Bd.state]; rfl
  have N0 := Fr.nil n0
  refine RunsTo.start (ef_rm1 m a b) ?_
  show RunsTo p e below s s₁ (mkF m 0 #[.val (.ref a), .val (.ref b), .unset, .unset] []) (Q1 Z a b z z2 fa fb cc h0 n0) ({ frames := 0, cells := 0, slots := 0, locals := 0 } : Room).cells ({ frames := 0, cells := 0, slots := 0, locals := 0 } : Room).slots
  refine RunsTo.of (T' := s₁) (g' := (mkF m 4 #[.val (.ref a), .val (.ref b), .val (.int (0 : Int32)), .val (.int (0 : Int32))] [])) (fun tgt_ kt => ?_) ?_
  · refine XS.iconst X0.here hx rfl (hb hby d1_0) ?_
    show Steps p.tables e below (s₁.setTop (mkF m 1 #[.val (.ref a), .val (.ref b), .unset, .unset] [(.int (0 : Int32))])) _
    refine XS.istoreN X0.here hx rfl (hb hby d1_1) rfl (l' := #[.val (.ref a), .val (.ref b), .val (.int (0 : Int32)), .unset]) rfl ?_
    show Steps p.tables e below (s₁.setTop (mkF m 2 #[.val (.ref a), .val (.ref b), .val (.int (0 : Int32)), .unset] [])) _
    refine XS.iconst X0.here hx rfl (hb hby d1_2) ?_
    show Steps p.tables e below (s₁.setTop (mkF m 3 #[.val (.ref a), .val (.ref b), .val (.int (0 : Int32)), .unset] [(.int (0 : Int32))])) _
    refine XS.istoreN X0.here hx rfl (hb hby d1_3) rfl (l' := #[.val (.ref a), .val (.ref b), .val (.int (0 : Int32)), .val (.int (0 : Int32))]) rfl ?_
    show Steps p.tables e below (s₁.setTop (mkF m 4 #[.val (.ref a), .val (.ref b), .val (.int (0 : Int32)), .val (.int (0 : Int32))] [])) _
    exact kt
  have hz0 : 0 ≤ z.toInt := by
    obtain ⟨_, _, _, hM, _⟩ := id V_a
    rw [Int32.lt_iff_toInt_lt] at hM; have : (0 : Int32).toInt = 0 := rfl; omega
  have loop : ∀ (r : Nat) (i y : Int32), 0 ≤ i.toInt → i.toInt + r = z.toInt → y = own_any cc i.toNatClampNeg → RunsTo p e below s s₁ (mkF m 4 #[.val (.ref a), .val (.ref b), .val (.int y), .val (.int i)] []) (Q1 Z a b z z2 fa fb cc h0 n0) ({ frames := 0, cells := 0, slots := 0, locals := 0 } : Room).cells ({ frames := 0, cells := 0, slots := 0, locals := 0 } : Room).slots := by
    intro r
    induction r with
    | zero =>
      intro i y hi hr hy
      have hiz : i = z := by rw [← Int32.toInt_inj]; omega
      subst hiz
      refine RunsTo.of (T' := s₁) (g' := (mkF m 6 #[.val (.ref a), .val (.ref b), .val (.int y), .val (.int i)] [(.ref a), (.int i)])) (fun tgt_ kt => ?_) ?_
      · refine XS.iloadN X0.here hx rfl (hb hby d1_4) rfl ?_
        show Steps p.tables e below (s₁.setTop (mkF m 5 #[.val (.ref a), .val (.ref b), .val (.int y), .val (.int i)] [(.int i)])) _
        refine XS.aloadN X0.here hx rfl (hb hby d1_5) rfl rfl ?_
        show Steps p.tables e below (s₁.setTop (mkF m 6 #[.val (.ref a), .val (.ref b), .val (.int y), .val (.int i)] [(.ref a), (.int i)])) _
        exact kt
      obtain ⟨cl_a_1, Ar_a_1, S_a_1, M_a_1, H_a_1⟩ := id V_a
      refine RunsTo.of (T' := s₁) (g' := (mkF m 7 #[.val (.ref a), .val (.ref b), .val (.int y), .val (.int i)] [(.int i), (.int i)])) (fun tgt_ kt => ?_) ?_
      · refine X0.arraylength hx (by rw [e0]; exact Ar_a_1.1) (State.isArrayOf_alike hZ.alike Ar_a_1.2.1) (g := (mkF m 6 #[.val (.ref a), .val (.ref b), .val (.int y), .val (.int i)] [(.ref a), (.int i)])) rfl rfl (hb hby d1_6) _ ?_
        rw [len_of S_a_1 M_a_1]
        show Steps p.tables e below (s₁.setTop (mkF m 7 #[.val (.ref a), .val (.ref b), .val (.int y), .val (.int i)] [(.int i), (.int i)])) _
        exact kt
      refine RunsTo.of (T' := s₁) (g' := (mkF m 27 #[.val (.ref a), .val (.ref b), .val (.int y), .val (.int i)] [(.int y)])) (fun tgt_ kt => ?_) ?_
      · refine XS.icmpYes X0.here hx rfl (pc0 := 7) (pc' := 26) rfl (hb hby d1_7) rfl (flt (show ¬ i < i by rw [Int32.lt_iff_toInt_lt]; omega)).2.1 (by decide) (by decide) ?_
        show Steps p.tables e below (s₁.setTop (mkF m 26 #[.val (.ref a), .val (.ref b), .val (.int y), .val (.int i)] [])) _
        refine XS.iloadN X0.here hx rfl (hb hby d1_26) rfl ?_
        show Steps p.tables e below (s₁.setTop (mkF m 27 #[.val (.ref a), .val (.ref b), .val (.int y), .val (.int i)] [(.int y)])) _
        exact kt
      refine RunsTo.retN X0 hx (t := .boolean) Bd.returns (by simp) Bd.notSynchronized (hb hby d1_27) ?_ (by decide) (by decide)
      rw [e0, hy]
      exact ⟨rfl, N0, rfl⟩
    | succ r ih =>
      intro i y hi hr hy
      refine RunsTo.of (T' := s₁) (g' := (mkF m 6 #[.val (.ref a), .val (.ref b), .val (.int y), .val (.int i)] [(.ref a), (.int i)])) (fun tgt_ kt => ?_) ?_
      · refine XS.iloadN X0.here hx rfl (hb hby d1_4) rfl ?_
        show Steps p.tables e below (s₁.setTop (mkF m 5 #[.val (.ref a), .val (.ref b), .val (.int y), .val (.int i)] [(.int i)])) _
        refine XS.aloadN X0.here hx rfl (hb hby d1_5) rfl rfl ?_
        show Steps p.tables e below (s₁.setTop (mkF m 6 #[.val (.ref a), .val (.ref b), .val (.int y), .val (.int i)] [(.ref a), (.int i)])) _
        exact kt
      obtain ⟨cl_a_2, Ar_a_2, S_a_2, M_a_2, H_a_2⟩ := id V_a
      refine RunsTo.of (T' := s₁) (g' := (mkF m 7 #[.val (.ref a), .val (.ref b), .val (.int y), .val (.int i)] [(.int z), (.int i)])) (fun tgt_ kt => ?_) ?_
      · refine X0.arraylength hx (by rw [e0]; exact Ar_a_2.1) (State.isArrayOf_alike hZ.alike Ar_a_2.2.1) (g := (mkF m 6 #[.val (.ref a), .val (.ref b), .val (.int y), .val (.int i)] [(.ref a), (.int i)])) rfl rfl (hb hby d1_6) _ ?_
        rw [len_of S_a_2 M_a_2]
        show Steps p.tables e below (s₁.setTop (mkF m 7 #[.val (.ref a), .val (.ref b), .val (.int y), .val (.int i)] [(.int z), (.int i)])) _
        exact kt
      have hlt : i < z := by rw [Int32.lt_iff_toInt_lt]; omega
      have hn := own_nat i hi
      have hnz := own_nat z hz0
      refine RunsTo.of (T' := s₁) (g' := (mkF m 11 #[.val (.ref a), .val (.ref b), .val (.int y), .val (.int i)] [(.int y)])) (fun tgt_ kt => ?_) ?_
      · refine XS.icmpNo X0.here hx rfl (hb hby d1_7) rfl (tlt hlt).2.1 ?_
        show Steps p.tables e below (s₁.setTop (mkF m 10 #[.val (.ref a), .val (.ref b), .val (.int y), .val (.int i)] [])) _
        refine XS.iloadN X0.here hx rfl (hb hby d1_10) rfl ?_
        show Steps p.tables e below (s₁.setTop (mkF m 11 #[.val (.ref a), .val (.ref b), .val (.int y), .val (.int i)] [(.int y)])) _
        exact kt
      by_cases hy0 : y = (0 : Int32)
      · refine RunsTo.of (T' := s₁) (g' := (mkF m 17 #[.val (.ref a), .val (.ref b), .val (.int y), .val (.int i)] [(.int i), (.ref a), (.ref b)])) (fun tgt_ kt => ?_) ?_
        · refine XS.ifNo X0.here hx rfl (hb hby d1_11) rfl ((if0 _ _).trans (teq hy0).2) ?_
          show Steps p.tables e below (s₁.setTop (mkF m 14 #[.val (.ref a), .val (.ref b), .val (.int y), .val (.int i)] [])) _
          refine XS.aloadN X0.here hx rfl (hb hby d1_14) rfl rfl ?_
          show Steps p.tables e below (s₁.setTop (mkF m 15 #[.val (.ref a), .val (.ref b), .val (.int y), .val (.int i)] [(.ref b)])) _
          refine XS.aloadN X0.here hx rfl (hb hby d1_15) rfl rfl ?_
          show Steps p.tables e below (s₁.setTop (mkF m 16 #[.val (.ref a), .val (.ref b), .val (.int y), .val (.int i)] [(.ref a), (.ref b)])) _
          refine XS.iloadN X0.here hx rfl (hb hby d1_16) rfl ?_
          show Steps p.tables e below (s₁.setTop (mkF m 17 #[.val (.ref a), .val (.ref b), .val (.int y), .val (.int i)] [(.int i), (.ref a), (.ref b)])) _
          exact kt
        obtain ⟨jx, hj1, hj2, hj3⟩ := hc i.toNatClampNeg (by omega)
        obtain ⟨cl_a_3, Ar_a_3, S_a_3, M_a_3, H_a_3⟩ := id V_a
        have hin_a_3 : ¬ (i < 0 ∨ cl_a_3.slots.size ≤ (i).toNatClampNeg) := inb_of S_a_3 ⟨by rw [Int32.lt_iff_toInt_lt]; show ¬ _ < (0 : Int); omega, hlt⟩
        have hat_a_3 : cl_a_3.slots[(i).toNatClampNeg]? = some (.int jx) := (H_a_3 _ (Nat.lt_of_not_le fun y => hin_a_3 (Or.inr y))).trans (congrArg some hj1)
        refine RunsTo.of (T' := s₁) (g' := (mkF m 18 #[.val (.ref a), .val (.ref b), .val (.int y), .val (.int i)] [(.int jx), (.ref b)])) (fun tgt_ kt => ?_) ?_
        · refine X0.iaload hx (j := i) (v := (.int jx)) (by rw [e0]; exact Ar_a_3.1) (State.isArrayOf_alike hZ.alike Ar_a_3.2.1) Ar_a_3.2.2 hin_a_3 hat_a_3 (g := (mkF m 17 #[.val (.ref a), .val (.ref b), .val (.int y), .val (.int i)] [(.int i), (.ref a), (.ref b)])) rfl rfl (hb hby d1_17) _ ?_
          show Steps p.tables e below (s₁.setTop (mkF m 18 #[.val (.ref a), .val (.ref b), .val (.int y), .val (.int i)] [(.int jx), (.ref b)])) _
          exact kt
        obtain ⟨cl_b_4, Ar_b_4, S_b_4, M_b_4, H_b_4⟩ := id V_b
        have hin_b_4 : ¬ (jx < 0 ∨ cl_b_4.slots.size ≤ (jx).toNatClampNeg) := inb_of S_b_4 hj2
        have hat_b_4 : cl_b_4.slots[(jx).toNatClampNeg]? = some (.int (cc i.toNatClampNeg)) := (H_b_4 _ (Nat.lt_of_not_le fun y => hin_b_4 (Or.inr y))).trans (congrArg some hj3)
        refine RunsTo.of (T' := s₁) (g' := (mkF m 19 #[.val (.ref a), .val (.ref b), .val (.int y), .val (.int i)] [(.int (cc i.toNatClampNeg))])) (fun tgt_ kt => ?_) ?_
        · refine X0.baloadBooleans hx (j := jx) (v := (.int (cc i.toNatClampNeg))) (by rw [e0]; exact Ar_b_4.1) (State.isArrayOf_alike hZ.alike Ar_b_4.2.1) Ar_b_4.2.2 hin_b_4 hat_b_4 (g := (mkF m 18 #[.val (.ref a), .val (.ref b), .val (.int y), .val (.int i)] [(.int jx), (.ref b)])) rfl rfl (hb hby d1_18) _ ?_
          show Steps p.tables e below (s₁.setTop (mkF m 19 #[.val (.ref a), .val (.ref b), .val (.int y), .val (.int i)] [(.int (cc i.toNatClampNeg))])) _
          exact kt
        refine RunsTo.of (T' := s₁) (g' := (mkF m 4 #[.val (.ref a), .val (.ref b), .val (.int (cc i.toNatClampNeg)), .val (.int (i + (1 : Int32)))] [])) (fun tgt_ kt => ?_) ?_
        · refine XS.istoreN X0.here hx rfl (hb hby d1_19) rfl (l' := #[.val (.ref a), .val (.ref b), .val (.int (cc i.toNatClampNeg)), .val (.int i)]) rfl ?_
          show Steps p.tables e below (s₁.setTop (mkF m 20 #[.val (.ref a), .val (.ref b), .val (.int (cc i.toNatClampNeg)), .val (.int i)] [])) _
          refine XS.iinc X0.here hx rfl (hb hby d1_20) rfl (l' := #[.val (.ref a), .val (.ref b), .val (.int (cc i.toNatClampNeg)), .val (.int (i + (1 : Int32)))]) rfl ?_
          show Steps p.tables e below (s₁.setTop (mkF m 23 #[.val (.ref a), .val (.ref b), .val (.int (cc i.toNatClampNeg)), .val (.int (i + (1 : Int32)))] [])) _
          refine XS.goto X0.here hx rfl (pc0 := 23) (pc' := 4) rfl (hb hby d1_23) (by decide) (by decide) ?_
          show Steps p.tables e below (s₁.setTop (mkF m 4 #[.val (.ref a), .val (.ref b), .val (.int (cc i.toNatClampNeg)), .val (.int (i + (1 : Int32)))] [])) _
          exact kt
        have h1 := c_iadd i 1
        have h1r := rng32 (i + 1)
        have hzr := rng32 z
        rw [show (1 : Int32).toInt = 1 from rfl] at h1
        have hi1 : (i + 1).toInt = i.toInt + 1 := by omega
        have hn1 := own_nat (i + 1) (by omega)
        have hnn : (i + 1).toNatClampNeg = i.toNatClampNeg + 1 := by omega
        exact ih (i + 1) (cc i.toNatClampNeg) (by omega) (by omega) (by rw [hnn]; show _ = if own_any cc i.toNatClampNeg = 0 then _ else _; rw [← hy, if_pos hy0])
      · refine RunsTo.of (T' := s₁) (g' := (mkF m 27 #[.val (.ref a), .val (.ref b), .val (.int y), .val (.int i)] [(.int y)])) (fun tgt_ kt => ?_) ?_
        · refine XS.ifYes X0.here hx rfl (pc0 := 11) (pc' := 26) rfl (hb hby d1_11) rfl ((if0 _ _).trans (feq hy0).2) (by decide) (by decide) ?_
          show Steps p.tables e below (s₁.setTop (mkF m 26 #[.val (.ref a), .val (.ref b), .val (.int y), .val (.int i)] [])) _
          refine XS.iloadN X0.here hx rfl (hb hby d1_26) rfl ?_
          show Steps p.tables e below (s₁.setTop (mkF m 27 #[.val (.ref a), .val (.ref b), .val (.int y), .val (.int i)] [(.int y)])) _
          exact kt
        refine RunsTo.retN X0 hx (t := .boolean) Bd.returns (by simp) Bd.notSynchronized (hb hby d1_27) ?_ (by decide) (by decide)
        rw [e0]
        have hst := own_stay cc i.toNatClampNeg (fun q => hy0 (hy.trans q)) (r + 1)
        rw [show i.toNatClampNeg + (r + 1) = z.toNatClampNeg by omega] at hst
        refine ⟨?_, N0, rfl⟩
        rw [hst, ← hy]
  exact loop z.toNatClampNeg 0 0 (Int.le_refl 0) (by have := own_nat z hz0; show (0 : Int) + _ = _; omega) rfl
theorem pd_0 : parseMethodDescriptor "([I[Z)Z" = some ⟨[(.array .int), (.array .boolean)], some .boolean⟩ := by decide +kernel
theorem pn_1 : plainName "com/example/kontroller/kontroller/synthesis/StateGraphAnyPinLaw" = true := by first | (simp [plainName, overriddenIn]; done) | decide +kernel
theorem ef_rm0 (m : MethodId) (x0 : Int32) (x1 : Int32) (x2 : Int32) (x3 : Int32) (x4 : Int32) : entryFrame m #[(.int x0), (.int x1), (.int x2), (.int x3), (.int x4)] maxLocals = mkF m 0 #[.val (.int x0), .val (.int x1), .val (.int x2), .val (.int x3), .val (.int x4), .unset, .unset, .unset, .unset, .unset, .unset, .unset] [] := by first | (simp [entryFrame, mkF, argsToLocals, Value.category, maxLocals]; done) | rfl
def Q0 (Z : State) (x0 : Int32) (x1 : Int32) (x2 : Int32) (x3 : Int32) (x4 : Int32) (h0 : Heap) (n0 : Nat) (v : Option Value) (h : Heap) (L : List Loc) : Prop := v = some (.int 1) ∧ Fr n0 L
set_option maxRecDepth 65536 in
set_option maxHeartbeats 40000000 in
theorem rm0 (l : Launch) (Z : State) (a0 : Array Value) (hw : ∀ d ∈ tables_1, d.before a0 Z = true) (ws : List Jvm.Cond) (x0 : Int32) (x1 : Int32) (x2 : Int32) (x3 : Int32) (x4 : Int32) (h0 : Heap) (n0 : Nat) (Z0 : n0 ≤ h0.size)  :
    MetFree l x (head1 (Jvm.Cond.code x code maxLocals ret :: ws) room_1) (fun as' U => as' = #[(.int x0), (.int x1), (.int x2), (.int x3), (.int x4)] ∧ Z.Warmed39 U.vm ∧ U.heap = h0) (fun _ _ _ _ _ => True) (fun _ U o U' => ∃ v L, o = .returned v ∧ Q0 Z x0 x1 x2 x3 x4 h0 n0 v U'.heap L ∧ FrameEnd U o U' L room_1.cells room_1.slots) := by
  refine MetFree.of_bodySF (plainFor_of_name pn_1) hisR ?_
  intro p e s m args below meth c s₁ Bd hml0 hP hK
  obtain ⟨rfl, hZ, hh⟩ := hP
  have hx := Bd.exec
  have hby := Bd.bytes
  have hml : c.maxLocals = 12 := hml0
  have hown : s.vm.findClass "com/example/kontroller/kontroller/synthesis/StateGraphAnyPinLaw" = some m.cls := findClass_of_methodNamed Bd.named
  have hnm := (name_of_methodNamed Bd.named Bd.method).1
  have X0 : Stand p l e room_1 s m #[(.int x0), (.int x1), (.int x2), (.int x3), (.int x4)] below meth c s₁ [] 0 0 := Stand.of_body Bd
  have e0 : s₁.heap = h0 := by rw [← hh, Bd.state]; rfl
  have N0 := Fr.nil n0
  refine RunsTo.start (ef_rm0 m x0 x1 x2 x3 x4) ?_
  show RunsTo p e below s s₁ (mkF m 0 #[.val (.int x0), .val (.int x1), .val (.int x2), .val (.int x3), .val (.int x4), .unset, .unset, .unset, .unset, .unset, .unset, .unset] []) (Q0 Z x0 x1 x2 x3 x4 h0 n0) room_1.cells room_1.slots
  refine RunsTo.of (T' := s₁) (g' := (mkF m 1 #[.val (.int x0), .val (.int x1), .val (.int x2), .val (.int x3), .val (.int x4), .unset, .unset, .unset, .unset, .unset, .unset, .unset] [(.int (4 : Int32))])) (fun tgt_ kt => ?_) ?_
  · refine XS.iconst X0.here hx rfl (hb hby at_0) ?_
    show Steps p.tables e below (s₁.setTop (mkF m 1 #[.val (.int x0), .val (.int x1), .val (.int x2), .val (.int x3), .val (.int x4), .unset, .unset, .unset, .unset, .unset, .unset, .unset] [(.int (4 : Int32))])) _
    exact kt
  obtain ⟨T1, h1, k1, X1, e1, E1, A1, st1⟩ := newP X0 hx hZ (hw _ (List.mem_of_getElem? (i := 0) rfl)) e0 (g := (mkF m 1 #[.val (.int x0), .val (.int x1), .val (.int x2), .val (.int x3), .val (.int x4), .unset, .unset, .unset, .unset, .unset, .unset, .unset] [(.int (4 : Int32))])) rfl (hb hby at_1) rfl (by decide) (cap := 4) (by decide) (by decide) (by decide) (by decide)
  obtain ⟨b, g1⟩ : ∃ z, z = h0.size := ⟨_, rfl⟩
  rw [← g1] at A1 st1
  have Z1 : n0 ≤ h1.size := Nat.le_trans Z0 E1.1
  have g_b : n0 ≤ b := Nat.le_trans Z0 (Nat.le_of_eq g1.symm)
  have V_b : Arf Z h1 b .boolean (4 : Int32) (fun _ => (Value.int (0 : Int32))) := Arf.new A1 (by decide)
  refine RunsTo.of (T' := T1) (g' := (mkF m 3 #[.val (.int x0), .val (.int x1), .val (.int x2), .val (.int x3), .val (.int x4), .unset, .unset, .unset, .unset, .unset, .unset, .unset] [(.ref b)])) st1 ?_
  refine RunsTo.of (T' := T1) (g' := (mkF m 11 #[.val (.int x0), .val (.int x1), .val (.int x2), .val (.int x3), .val (.int x4), .val (.ref b), .unset, .unset, .unset, .unset, .unset, .unset] [(.int (x0 &&& (1 : Int32))), (.int (0 : Int32)), (.ref b)])) (fun tgt_ kt => ?_) ?_
  · refine XS.astore X1.here hx rfl (hb hby at_3) rfl rfl (l' := #[.val (.int x0), .val (.int x1), .val (.int x2), .val (.int x3), .val (.int x4), .val (.ref b), .unset, .unset, .unset, .unset, .unset, .unset]) rfl ?_
    show Steps p.tables e below (T1.setTop (mkF m 5 #[.val (.int x0), .val (.int x1), .val (.int x2), .val (.int x3), .val (.int x4), .val (.ref b), .unset, .unset, .unset, .unset, .unset, .unset] [])) _
    refine XS.aload X1.here hx rfl (hb hby at_5) rfl rfl ?_
    show Steps p.tables e below (T1.setTop (mkF m 7 #[.val (.int x0), .val (.int x1), .val (.int x2), .val (.int x3), .val (.int x4), .val (.ref b), .unset, .unset, .unset, .unset, .unset, .unset] [(.ref b)])) _
    refine XS.iconst X1.here hx rfl (hb hby at_7) ?_
    show Steps p.tables e below (T1.setTop (mkF m 8 #[.val (.int x0), .val (.int x1), .val (.int x2), .val (.int x3), .val (.int x4), .val (.ref b), .unset, .unset, .unset, .unset, .unset, .unset] [(.int (0 : Int32)), (.ref b)])) _
    refine XS.iloadN X1.here hx rfl (hb hby at_8) rfl ?_
    show Steps p.tables e below (T1.setTop (mkF m 9 #[.val (.int x0), .val (.int x1), .val (.int x2), .val (.int x3), .val (.int x4), .val (.ref b), .unset, .unset, .unset, .unset, .unset, .unset] [(.int x0), (.int (0 : Int32)), (.ref b)])) _
    refine XS.iconst X1.here hx rfl (hb hby at_9) ?_
    show Steps p.tables e below (T1.setTop (mkF m 10 #[.val (.int x0), .val (.int x1), .val (.int x2), .val (.int x3), .val (.int x4), .val (.ref b), .unset, .unset, .unset, .unset, .unset, .unset] [(.int (1 : Int32)), (.int x0), (.int (0 : Int32)), (.ref b)])) _
    refine XS.iand X1.here hx rfl (hb hby at_10) rfl ?_
    show Steps p.tables e below (T1.setTop (mkF m 11 #[.val (.int x0), .val (.int x1), .val (.int x2), .val (.int x3), .val (.int x4), .val (.ref b), .unset, .unset, .unset, .unset, .unset, .unset] [(.int (x0 &&& (1 : Int32))), (.int (0 : Int32)), (.ref b)])) _
    exact kt
  obtain ⟨y1, hy1⟩ : ∃ z : Int32, z = (if (x0 &&& (1 : Int32)) = (0 : Int32) then (0 : Int32) else (1 : Int32)) := ⟨_, rfl⟩
  refine RunsTo.of (T' := T1) (g' := (mkF m 19 #[.val (.int x0), .val (.int x1), .val (.int x2), .val (.int x3), .val (.int x4), .val (.ref b), .unset, .unset, .unset, .unset, .unset, .unset] [(.int y1), (.int (0 : Int32)), (.ref b)])) (fun tgt_ kt => ?_) ?_
  · by_cases hc11a : (x0 &&& (1 : Int32)) = (0 : Int32)
    · refine XS.ifYes X1.here hx rfl (pc0 := 11) (pc' := 18) rfl (hb hby at_11) rfl ((if0 _ _).trans (teq hc11a).1) (by decide) (by decide) ?_
      show Steps p.tables e below (T1.setTop (mkF m 18 #[.val (.int x0), .val (.int x1), .val (.int x2), .val (.int x3), .val (.int x4), .val (.ref b), .unset, .unset, .unset, .unset, .unset, .unset] [(.int (0 : Int32)), (.ref b)])) _
      try rw [if_pos hc11a] at hy1
      rw [hy1] at kt
      refine XS.iconst X1.here hx rfl (hb hby at_18) ?_
      show Steps p.tables e below (T1.setTop (mkF m 19 #[.val (.int x0), .val (.int x1), .val (.int x2), .val (.int x3), .val (.int x4), .val (.ref b), .unset, .unset, .unset, .unset, .unset, .unset] [(.int (0 : Int32)), (.int (0 : Int32)), (.ref b)])) _
      exact kt
    · refine XS.ifNo X1.here hx rfl (hb hby at_11) rfl ((if0 _ _).trans (feq hc11a).1) ?_
      show Steps p.tables e below (T1.setTop (mkF m 14 #[.val (.int x0), .val (.int x1), .val (.int x2), .val (.int x3), .val (.int x4), .val (.ref b), .unset, .unset, .unset, .unset, .unset, .unset] [(.int (0 : Int32)), (.ref b)])) _
      try rw [if_neg hc11a] at hy1
      rw [hy1] at kt
      refine XS.iconst X1.here hx rfl (hb hby at_14) ?_
      show Steps p.tables e below (T1.setTop (mkF m 15 #[.val (.int x0), .val (.int x1), .val (.int x2), .val (.int x3), .val (.int x4), .val (.ref b), .unset, .unset, .unset, .unset, .unset, .unset] [(.int (1 : Int32)), (.int (0 : Int32)), (.ref b)])) _
      refine XS.goto X1.here hx rfl (pc0 := 15) (pc' := 19) rfl (hb hby at_15) (by decide) (by decide) ?_
      show Steps p.tables e below (T1.setTop (mkF m 19 #[.val (.int x0), .val (.int x1), .val (.int x2), .val (.int x3), .val (.int x4), .val (.ref b), .unset, .unset, .unset, .unset, .unset, .unset] [(.int (1 : Int32)), (.int (0 : Int32)), (.ref b)])) _
      exact kt
  obtain ⟨cl_b_2, Ar_b_2, S_b_2, M_b_2, H_b_2⟩ := id V_b
  have hin_b_2 : ¬ ((0 : Int32) < 0 ∨ cl_b_2.slots.size ≤ ((0 : Int32)).toNatClampNeg) := inb_of S_b_2 ⟨by decide, by decide⟩
  obtain ⟨T3, h3, X3, e3, W3, st3⟩ := stZ X1 hx hZ e1 Ar_b_2 (j := (0 : Int32)) hin_b_2 (g := (mkF m 19 #[.val (.int x0), .val (.int x1), .val (.int x2), .val (.int x3), .val (.int x4), .val (.ref b), .unset, .unset, .unset, .unset, .unset, .unset] [(.int y1), (.int (0 : Int32)), (.ref b)])) rfl rfl (hb hby at_19)
  have N3 := Fr.snoc X3 N0 g_b
  have Z3 : n0 ≤ h3.size := Nat.le_trans Z1 (Nat.le_of_eq W3.size.symm)
  have V_b : Arf Z h3 b .boolean (4 : Int32) (fun jj => if jj = ((0 : Int32)).toNatClampNeg then (Value.int (nar .boolean y1)) else (fun _ => (Value.int (0 : Int32))) jj) := Arf.set Ar_b_2 S_b_2 M_b_2 H_b_2 W3
  refine RunsTo.of (T' := T3) (g' := (mkF m 20 #[.val (.int x0), .val (.int x1), .val (.int x2), .val (.int x3), .val (.int x4), .val (.ref b), .unset, .unset, .unset, .unset, .unset, .unset] [])) st3 ?_
  refine RunsTo.of (T' := T3) (g' := (mkF m 26 #[.val (.int x0), .val (.int x1), .val (.int x2), .val (.int x3), .val (.int x4), .val (.ref b), .unset, .unset, .unset, .unset, .unset, .unset] [(.int (x0 &&& (2 : Int32))), (.int (1 : Int32)), (.ref b)])) (fun tgt_ kt => ?_) ?_
  · refine XS.aload X3.here hx rfl (hb hby at_20) rfl rfl ?_
    show Steps p.tables e below (T3.setTop (mkF m 22 #[.val (.int x0), .val (.int x1), .val (.int x2), .val (.int x3), .val (.int x4), .val (.ref b), .unset, .unset, .unset, .unset, .unset, .unset] [(.ref b)])) _
    refine XS.iconst X3.here hx rfl (hb hby at_22) ?_
    show Steps p.tables e below (T3.setTop (mkF m 23 #[.val (.int x0), .val (.int x1), .val (.int x2), .val (.int x3), .val (.int x4), .val (.ref b), .unset, .unset, .unset, .unset, .unset, .unset] [(.int (1 : Int32)), (.ref b)])) _
    refine XS.iloadN X3.here hx rfl (hb hby at_23) rfl ?_
    show Steps p.tables e below (T3.setTop (mkF m 24 #[.val (.int x0), .val (.int x1), .val (.int x2), .val (.int x3), .val (.int x4), .val (.ref b), .unset, .unset, .unset, .unset, .unset, .unset] [(.int x0), (.int (1 : Int32)), (.ref b)])) _
    refine XS.iconst X3.here hx rfl (hb hby at_24) ?_
    show Steps p.tables e below (T3.setTop (mkF m 25 #[.val (.int x0), .val (.int x1), .val (.int x2), .val (.int x3), .val (.int x4), .val (.ref b), .unset, .unset, .unset, .unset, .unset, .unset] [(.int (2 : Int32)), (.int x0), (.int (1 : Int32)), (.ref b)])) _
    refine XS.iand X3.here hx rfl (hb hby at_25) rfl ?_
    show Steps p.tables e below (T3.setTop (mkF m 26 #[.val (.int x0), .val (.int x1), .val (.int x2), .val (.int x3), .val (.int x4), .val (.ref b), .unset, .unset, .unset, .unset, .unset, .unset] [(.int (x0 &&& (2 : Int32))), (.int (1 : Int32)), (.ref b)])) _
    exact kt
  obtain ⟨y2, hy2⟩ : ∃ z : Int32, z = (if (x0 &&& (2 : Int32)) = (0 : Int32) then (0 : Int32) else (1 : Int32)) := ⟨_, rfl⟩
  refine RunsTo.of (T' := T3) (g' := (mkF m 34 #[.val (.int x0), .val (.int x1), .val (.int x2), .val (.int x3), .val (.int x4), .val (.ref b), .unset, .unset, .unset, .unset, .unset, .unset] [(.int y2), (.int (1 : Int32)), (.ref b)])) (fun tgt_ kt => ?_) ?_
  · by_cases hc26b : (x0 &&& (2 : Int32)) = (0 : Int32)
    · refine XS.ifYes X3.here hx rfl (pc0 := 26) (pc' := 33) rfl (hb hby at_26) rfl ((if0 _ _).trans (teq hc26b).1) (by decide) (by decide) ?_
      show Steps p.tables e below (T3.setTop (mkF m 33 #[.val (.int x0), .val (.int x1), .val (.int x2), .val (.int x3), .val (.int x4), .val (.ref b), .unset, .unset, .unset, .unset, .unset, .unset] [(.int (1 : Int32)), (.ref b)])) _
      try rw [if_pos hc26b] at hy2
      rw [hy2] at kt
      refine XS.iconst X3.here hx rfl (hb hby at_33) ?_
      show Steps p.tables e below (T3.setTop (mkF m 34 #[.val (.int x0), .val (.int x1), .val (.int x2), .val (.int x3), .val (.int x4), .val (.ref b), .unset, .unset, .unset, .unset, .unset, .unset] [(.int (0 : Int32)), (.int (1 : Int32)), (.ref b)])) _
      exact kt
    · refine XS.ifNo X3.here hx rfl (hb hby at_26) rfl ((if0 _ _).trans (feq hc26b).1) ?_
      show Steps p.tables e below (T3.setTop (mkF m 29 #[.val (.int x0), .val (.int x1), .val (.int x2), .val (.int x3), .val (.int x4), .val (.ref b), .unset, .unset, .unset, .unset, .unset, .unset] [(.int (1 : Int32)), (.ref b)])) _
      try rw [if_neg hc26b] at hy2
      rw [hy2] at kt
      refine XS.iconst X3.here hx rfl (hb hby at_29) ?_
      show Steps p.tables e below (T3.setTop (mkF m 30 #[.val (.int x0), .val (.int x1), .val (.int x2), .val (.int x3), .val (.int x4), .val (.ref b), .unset, .unset, .unset, .unset, .unset, .unset] [(.int (1 : Int32)), (.int (1 : Int32)), (.ref b)])) _
      refine XS.goto X3.here hx rfl (pc0 := 30) (pc' := 34) rfl (hb hby at_30) (by decide) (by decide) ?_
      show Steps p.tables e below (T3.setTop (mkF m 34 #[.val (.int x0), .val (.int x1), .val (.int x2), .val (.int x3), .val (.int x4), .val (.ref b), .unset, .unset, .unset, .unset, .unset, .unset] [(.int (1 : Int32)), (.int (1 : Int32)), (.ref b)])) _
      exact kt
  obtain ⟨cl_b_4, Ar_b_4, S_b_4, M_b_4, H_b_4⟩ := id V_b
  have hin_b_4 : ¬ ((1 : Int32) < 0 ∨ cl_b_4.slots.size ≤ ((1 : Int32)).toNatClampNeg) := inb_of S_b_4 ⟨by decide, by decide⟩
  obtain ⟨T5, h5, X5, e5, W5, st5⟩ := stZ X3 hx hZ e3 Ar_b_4 (j := (1 : Int32)) hin_b_4 (g := (mkF m 34 #[.val (.int x0), .val (.int x1), .val (.int x2), .val (.int x3), .val (.int x4), .val (.ref b), .unset, .unset, .unset, .unset, .unset, .unset] [(.int y2), (.int (1 : Int32)), (.ref b)])) rfl rfl (hb hby at_34)
  have N5 := Fr.snoc X5 N3 g_b
  have Z5 : n0 ≤ h5.size := Nat.le_trans Z3 (Nat.le_of_eq W5.size.symm)
  have V_b : Arf Z h5 b .boolean (4 : Int32) (fun jj => if jj = ((1 : Int32)).toNatClampNeg then (Value.int (nar .boolean y2)) else (fun jj => if jj = ((0 : Int32)).toNatClampNeg then (Value.int (nar .boolean y1)) else (fun _ => (Value.int (0 : Int32))) jj) jj) := Arf.set Ar_b_4 S_b_4 M_b_4 H_b_4 W5
  refine RunsTo.of (T' := T5) (g' := (mkF m 35 #[.val (.int x0), .val (.int x1), .val (.int x2), .val (.int x3), .val (.int x4), .val (.ref b), .unset, .unset, .unset, .unset, .unset, .unset] [])) st5 ?_
  refine RunsTo.of (T' := T5) (g' := (mkF m 41 #[.val (.int x0), .val (.int x1), .val (.int x2), .val (.int x3), .val (.int x4), .val (.ref b), .unset, .unset, .unset, .unset, .unset, .unset] [(.int (x0 &&& (4 : Int32))), (.int (2 : Int32)), (.ref b)])) (fun tgt_ kt => ?_) ?_
  · refine XS.aload X5.here hx rfl (hb hby at_35) rfl rfl ?_
    show Steps p.tables e below (T5.setTop (mkF m 37 #[.val (.int x0), .val (.int x1), .val (.int x2), .val (.int x3), .val (.int x4), .val (.ref b), .unset, .unset, .unset, .unset, .unset, .unset] [(.ref b)])) _
    refine XS.iconst X5.here hx rfl (hb hby at_37) ?_
    show Steps p.tables e below (T5.setTop (mkF m 38 #[.val (.int x0), .val (.int x1), .val (.int x2), .val (.int x3), .val (.int x4), .val (.ref b), .unset, .unset, .unset, .unset, .unset, .unset] [(.int (2 : Int32)), (.ref b)])) _
    refine XS.iloadN X5.here hx rfl (hb hby at_38) rfl ?_
    show Steps p.tables e below (T5.setTop (mkF m 39 #[.val (.int x0), .val (.int x1), .val (.int x2), .val (.int x3), .val (.int x4), .val (.ref b), .unset, .unset, .unset, .unset, .unset, .unset] [(.int x0), (.int (2 : Int32)), (.ref b)])) _
    refine XS.iconst X5.here hx rfl (hb hby at_39) ?_
    show Steps p.tables e below (T5.setTop (mkF m 40 #[.val (.int x0), .val (.int x1), .val (.int x2), .val (.int x3), .val (.int x4), .val (.ref b), .unset, .unset, .unset, .unset, .unset, .unset] [(.int (4 : Int32)), (.int x0), (.int (2 : Int32)), (.ref b)])) _
    refine XS.iand X5.here hx rfl (hb hby at_40) rfl ?_
    show Steps p.tables e below (T5.setTop (mkF m 41 #[.val (.int x0), .val (.int x1), .val (.int x2), .val (.int x3), .val (.int x4), .val (.ref b), .unset, .unset, .unset, .unset, .unset, .unset] [(.int (x0 &&& (4 : Int32))), (.int (2 : Int32)), (.ref b)])) _
    exact kt
  obtain ⟨y3, hy3⟩ : ∃ z : Int32, z = (if (x0 &&& (4 : Int32)) = (0 : Int32) then (0 : Int32) else (1 : Int32)) := ⟨_, rfl⟩
  refine RunsTo.of (T' := T5) (g' := (mkF m 49 #[.val (.int x0), .val (.int x1), .val (.int x2), .val (.int x3), .val (.int x4), .val (.ref b), .unset, .unset, .unset, .unset, .unset, .unset] [(.int y3), (.int (2 : Int32)), (.ref b)])) (fun tgt_ kt => ?_) ?_
  · by_cases hc41c : (x0 &&& (4 : Int32)) = (0 : Int32)
    · refine XS.ifYes X5.here hx rfl (pc0 := 41) (pc' := 48) rfl (hb hby at_41) rfl ((if0 _ _).trans (teq hc41c).1) (by decide) (by decide) ?_
      show Steps p.tables e below (T5.setTop (mkF m 48 #[.val (.int x0), .val (.int x1), .val (.int x2), .val (.int x3), .val (.int x4), .val (.ref b), .unset, .unset, .unset, .unset, .unset, .unset] [(.int (2 : Int32)), (.ref b)])) _
      try rw [if_pos hc41c] at hy3
      rw [hy3] at kt
      refine XS.iconst X5.here hx rfl (hb hby at_48) ?_
      show Steps p.tables e below (T5.setTop (mkF m 49 #[.val (.int x0), .val (.int x1), .val (.int x2), .val (.int x3), .val (.int x4), .val (.ref b), .unset, .unset, .unset, .unset, .unset, .unset] [(.int (0 : Int32)), (.int (2 : Int32)), (.ref b)])) _
      exact kt
    · refine XS.ifNo X5.here hx rfl (hb hby at_41) rfl ((if0 _ _).trans (feq hc41c).1) ?_
      show Steps p.tables e below (T5.setTop (mkF m 44 #[.val (.int x0), .val (.int x1), .val (.int x2), .val (.int x3), .val (.int x4), .val (.ref b), .unset, .unset, .unset, .unset, .unset, .unset] [(.int (2 : Int32)), (.ref b)])) _
      try rw [if_neg hc41c] at hy3
      rw [hy3] at kt
      refine XS.iconst X5.here hx rfl (hb hby at_44) ?_
      show Steps p.tables e below (T5.setTop (mkF m 45 #[.val (.int x0), .val (.int x1), .val (.int x2), .val (.int x3), .val (.int x4), .val (.ref b), .unset, .unset, .unset, .unset, .unset, .unset] [(.int (1 : Int32)), (.int (2 : Int32)), (.ref b)])) _
      refine XS.goto X5.here hx rfl (pc0 := 45) (pc' := 49) rfl (hb hby at_45) (by decide) (by decide) ?_
      show Steps p.tables e below (T5.setTop (mkF m 49 #[.val (.int x0), .val (.int x1), .val (.int x2), .val (.int x3), .val (.int x4), .val (.ref b), .unset, .unset, .unset, .unset, .unset, .unset] [(.int (1 : Int32)), (.int (2 : Int32)), (.ref b)])) _
      exact kt
  obtain ⟨cl_b_6, Ar_b_6, S_b_6, M_b_6, H_b_6⟩ := id V_b
  have hin_b_6 : ¬ ((2 : Int32) < 0 ∨ cl_b_6.slots.size ≤ ((2 : Int32)).toNatClampNeg) := inb_of S_b_6 ⟨by decide, by decide⟩
  obtain ⟨T7, h7, X7, e7, W7, st7⟩ := stZ X5 hx hZ e5 Ar_b_6 (j := (2 : Int32)) hin_b_6 (g := (mkF m 49 #[.val (.int x0), .val (.int x1), .val (.int x2), .val (.int x3), .val (.int x4), .val (.ref b), .unset, .unset, .unset, .unset, .unset, .unset] [(.int y3), (.int (2 : Int32)), (.ref b)])) rfl rfl (hb hby at_49)
  have N7 := Fr.snoc X7 N5 g_b
  have Z7 : n0 ≤ h7.size := Nat.le_trans Z5 (Nat.le_of_eq W7.size.symm)
  have V_b : Arf Z h7 b .boolean (4 : Int32) (fun jj => if jj = ((2 : Int32)).toNatClampNeg then (Value.int (nar .boolean y3)) else (fun jj => if jj = ((1 : Int32)).toNatClampNeg then (Value.int (nar .boolean y2)) else (fun jj => if jj = ((0 : Int32)).toNatClampNeg then (Value.int (nar .boolean y1)) else (fun _ => (Value.int (0 : Int32))) jj) jj) jj) := Arf.set Ar_b_6 S_b_6 M_b_6 H_b_6 W7
  refine RunsTo.of (T' := T7) (g' := (mkF m 50 #[.val (.int x0), .val (.int x1), .val (.int x2), .val (.int x3), .val (.int x4), .val (.ref b), .unset, .unset, .unset, .unset, .unset, .unset] [])) st7 ?_
  refine RunsTo.of (T' := T7) (g' := (mkF m 57 #[.val (.int x0), .val (.int x1), .val (.int x2), .val (.int x3), .val (.int x4), .val (.ref b), .unset, .unset, .unset, .unset, .unset, .unset] [(.int (x0 &&& (8 : Int32))), (.int (3 : Int32)), (.ref b)])) (fun tgt_ kt => ?_) ?_
  · refine XS.aload X7.here hx rfl (hb hby at_50) rfl rfl ?_
    show Steps p.tables e below (T7.setTop (mkF m 52 #[.val (.int x0), .val (.int x1), .val (.int x2), .val (.int x3), .val (.int x4), .val (.ref b), .unset, .unset, .unset, .unset, .unset, .unset] [(.ref b)])) _
    refine XS.iconst X7.here hx rfl (hb hby at_52) ?_
    show Steps p.tables e below (T7.setTop (mkF m 53 #[.val (.int x0), .val (.int x1), .val (.int x2), .val (.int x3), .val (.int x4), .val (.ref b), .unset, .unset, .unset, .unset, .unset, .unset] [(.int (3 : Int32)), (.ref b)])) _
    refine XS.iloadN X7.here hx rfl (hb hby at_53) rfl ?_
    show Steps p.tables e below (T7.setTop (mkF m 54 #[.val (.int x0), .val (.int x1), .val (.int x2), .val (.int x3), .val (.int x4), .val (.ref b), .unset, .unset, .unset, .unset, .unset, .unset] [(.int x0), (.int (3 : Int32)), (.ref b)])) _
    refine XS.bipush X7.here hx rfl (hb hby at_54) ?_
    show Steps p.tables e below (T7.setTop (mkF m 56 #[.val (.int x0), .val (.int x1), .val (.int x2), .val (.int x3), .val (.int x4), .val (.ref b), .unset, .unset, .unset, .unset, .unset, .unset] [(.int (8 : Int32)), (.int x0), (.int (3 : Int32)), (.ref b)])) _
    refine XS.iand X7.here hx rfl (hb hby at_56) rfl ?_
    show Steps p.tables e below (T7.setTop (mkF m 57 #[.val (.int x0), .val (.int x1), .val (.int x2), .val (.int x3), .val (.int x4), .val (.ref b), .unset, .unset, .unset, .unset, .unset, .unset] [(.int (x0 &&& (8 : Int32))), (.int (3 : Int32)), (.ref b)])) _
    exact kt
  obtain ⟨y4, hy4⟩ : ∃ z : Int32, z = (if (x0 &&& (8 : Int32)) = (0 : Int32) then (0 : Int32) else (1 : Int32)) := ⟨_, rfl⟩
  refine RunsTo.of (T' := T7) (g' := (mkF m 65 #[.val (.int x0), .val (.int x1), .val (.int x2), .val (.int x3), .val (.int x4), .val (.ref b), .unset, .unset, .unset, .unset, .unset, .unset] [(.int y4), (.int (3 : Int32)), (.ref b)])) (fun tgt_ kt => ?_) ?_
  · by_cases hc57d : (x0 &&& (8 : Int32)) = (0 : Int32)
    · refine XS.ifYes X7.here hx rfl (pc0 := 57) (pc' := 64) rfl (hb hby at_57) rfl ((if0 _ _).trans (teq hc57d).1) (by decide) (by decide) ?_
      show Steps p.tables e below (T7.setTop (mkF m 64 #[.val (.int x0), .val (.int x1), .val (.int x2), .val (.int x3), .val (.int x4), .val (.ref b), .unset, .unset, .unset, .unset, .unset, .unset] [(.int (3 : Int32)), (.ref b)])) _
      try rw [if_pos hc57d] at hy4
      rw [hy4] at kt
      refine XS.iconst X7.here hx rfl (hb hby at_64) ?_
      show Steps p.tables e below (T7.setTop (mkF m 65 #[.val (.int x0), .val (.int x1), .val (.int x2), .val (.int x3), .val (.int x4), .val (.ref b), .unset, .unset, .unset, .unset, .unset, .unset] [(.int (0 : Int32)), (.int (3 : Int32)), (.ref b)])) _
      exact kt
    · refine XS.ifNo X7.here hx rfl (hb hby at_57) rfl ((if0 _ _).trans (feq hc57d).1) ?_
      show Steps p.tables e below (T7.setTop (mkF m 60 #[.val (.int x0), .val (.int x1), .val (.int x2), .val (.int x3), .val (.int x4), .val (.ref b), .unset, .unset, .unset, .unset, .unset, .unset] [(.int (3 : Int32)), (.ref b)])) _
      try rw [if_neg hc57d] at hy4
      rw [hy4] at kt
      refine XS.iconst X7.here hx rfl (hb hby at_60) ?_
      show Steps p.tables e below (T7.setTop (mkF m 61 #[.val (.int x0), .val (.int x1), .val (.int x2), .val (.int x3), .val (.int x4), .val (.ref b), .unset, .unset, .unset, .unset, .unset, .unset] [(.int (1 : Int32)), (.int (3 : Int32)), (.ref b)])) _
      refine XS.goto X7.here hx rfl (pc0 := 61) (pc' := 65) rfl (hb hby at_61) (by decide) (by decide) ?_
      show Steps p.tables e below (T7.setTop (mkF m 65 #[.val (.int x0), .val (.int x1), .val (.int x2), .val (.int x3), .val (.int x4), .val (.ref b), .unset, .unset, .unset, .unset, .unset, .unset] [(.int (1 : Int32)), (.int (3 : Int32)), (.ref b)])) _
      exact kt
  obtain ⟨cl_b_8, Ar_b_8, S_b_8, M_b_8, H_b_8⟩ := id V_b
  have hin_b_8 : ¬ ((3 : Int32) < 0 ∨ cl_b_8.slots.size ≤ ((3 : Int32)).toNatClampNeg) := inb_of S_b_8 ⟨by decide, by decide⟩
  obtain ⟨T9, h9, X9, e9, W9, st9⟩ := stZ X7 hx hZ e7 Ar_b_8 (j := (3 : Int32)) hin_b_8 (g := (mkF m 65 #[.val (.int x0), .val (.int x1), .val (.int x2), .val (.int x3), .val (.int x4), .val (.ref b), .unset, .unset, .unset, .unset, .unset, .unset] [(.int y4), (.int (3 : Int32)), (.ref b)])) rfl rfl (hb hby at_65)
  have N9 := Fr.snoc X9 N7 g_b
  have Z9 : n0 ≤ h9.size := Nat.le_trans Z7 (Nat.le_of_eq W9.size.symm)
  have V_b : Arf Z h9 b .boolean (4 : Int32) (fun jj => if jj = ((3 : Int32)).toNatClampNeg then (Value.int (nar .boolean y4)) else (fun jj => if jj = ((2 : Int32)).toNatClampNeg then (Value.int (nar .boolean y3)) else (fun jj => if jj = ((1 : Int32)).toNatClampNeg then (Value.int (nar .boolean y2)) else (fun jj => if jj = ((0 : Int32)).toNatClampNeg then (Value.int (nar .boolean y1)) else (fun _ => (Value.int (0 : Int32))) jj) jj) jj) jj) := Arf.set Ar_b_8 S_b_8 M_b_8 H_b_8 W9
  have V_b : Arf Z h9 b .boolean (4 : Int32) (fun i => .int (own_bs y1 y2 y3 y4 i)) := V_b.congr (fun i hi => by simp only [own_bs, show (3 : Int32).toNatClampNeg = 3 from rfl, show (2 : Int32).toNatClampNeg = 2 from rfl, show (1 : Int32).toNatClampNeg = 1 from rfl, show (0 : Int32).toNatClampNeg = 0 from rfl]; (repeat' split) <;> rfl)
  refine RunsTo.of (T' := T9) (g' := (mkF m 66 #[.val (.int x0), .val (.int x1), .val (.int x2), .val (.int x3), .val (.int x4), .val (.ref b), .unset, .unset, .unset, .unset, .unset, .unset] [])) st9 ?_
  clear hy1 hy2 hy3 hy4
  refine RunsTo.of (T' := T9) (g' := (mkF m 87 #[.val (.int x0), .val (.int x1), .val (.int x2), .val (.int x3), .val (.int x4), .val (.ref b), .val (.int (x2 &&& (3 : Int32))), .val (.int (x3 &&& (3 : Int32))), .val (.int (x4 &&& (3 : Int32))), .val (.int (x1 &&& (3 : Int32))), .unset, .unset] [])) (fun tgt_ kt => ?_) ?_
  · refine XS.iloadN X9.here hx rfl (hb hby at_66) rfl ?_
    show Steps p.tables e below (T9.setTop (mkF m 67 #[.val (.int x0), .val (.int x1), .val (.int x2), .val (.int x3), .val (.int x4), .val (.ref b), .unset, .unset, .unset, .unset, .unset, .unset] [(.int x2)])) _
    refine XS.iconst X9.here hx rfl (hb hby at_67) ?_
    show Steps p.tables e below (T9.setTop (mkF m 68 #[.val (.int x0), .val (.int x1), .val (.int x2), .val (.int x3), .val (.int x4), .val (.ref b), .unset, .unset, .unset, .unset, .unset, .unset] [(.int (3 : Int32)), (.int x2)])) _
    refine XS.iand X9.here hx rfl (hb hby at_68) rfl ?_
    show Steps p.tables e below (T9.setTop (mkF m 69 #[.val (.int x0), .val (.int x1), .val (.int x2), .val (.int x3), .val (.int x4), .val (.ref b), .unset, .unset, .unset, .unset, .unset, .unset] [(.int (x2 &&& (3 : Int32)))])) _
    refine XS.istore X9.here hx rfl (hb hby at_69) rfl (l' := #[.val (.int x0), .val (.int x1), .val (.int x2), .val (.int x3), .val (.int x4), .val (.ref b), .val (.int (x2 &&& (3 : Int32))), .unset, .unset, .unset, .unset, .unset]) rfl ?_
    show Steps p.tables e below (T9.setTop (mkF m 71 #[.val (.int x0), .val (.int x1), .val (.int x2), .val (.int x3), .val (.int x4), .val (.ref b), .val (.int (x2 &&& (3 : Int32))), .unset, .unset, .unset, .unset, .unset] [])) _
    refine XS.iloadN X9.here hx rfl (hb hby at_71) rfl ?_
    show Steps p.tables e below (T9.setTop (mkF m 72 #[.val (.int x0), .val (.int x1), .val (.int x2), .val (.int x3), .val (.int x4), .val (.ref b), .val (.int (x2 &&& (3 : Int32))), .unset, .unset, .unset, .unset, .unset] [(.int x3)])) _
    refine XS.iconst X9.here hx rfl (hb hby at_72) ?_
    show Steps p.tables e below (T9.setTop (mkF m 73 #[.val (.int x0), .val (.int x1), .val (.int x2), .val (.int x3), .val (.int x4), .val (.ref b), .val (.int (x2 &&& (3 : Int32))), .unset, .unset, .unset, .unset, .unset] [(.int (3 : Int32)), (.int x3)])) _
    refine XS.iand X9.here hx rfl (hb hby at_73) rfl ?_
    show Steps p.tables e below (T9.setTop (mkF m 74 #[.val (.int x0), .val (.int x1), .val (.int x2), .val (.int x3), .val (.int x4), .val (.ref b), .val (.int (x2 &&& (3 : Int32))), .unset, .unset, .unset, .unset, .unset] [(.int (x3 &&& (3 : Int32)))])) _
    refine XS.istore X9.here hx rfl (hb hby at_74) rfl (l' := #[.val (.int x0), .val (.int x1), .val (.int x2), .val (.int x3), .val (.int x4), .val (.ref b), .val (.int (x2 &&& (3 : Int32))), .val (.int (x3 &&& (3 : Int32))), .unset, .unset, .unset, .unset]) rfl ?_
    show Steps p.tables e below (T9.setTop (mkF m 76 #[.val (.int x0), .val (.int x1), .val (.int x2), .val (.int x3), .val (.int x4), .val (.ref b), .val (.int (x2 &&& (3 : Int32))), .val (.int (x3 &&& (3 : Int32))), .unset, .unset, .unset, .unset] [])) _
    refine XS.iload X9.here hx rfl (hb hby at_76) rfl ?_
    show Steps p.tables e below (T9.setTop (mkF m 78 #[.val (.int x0), .val (.int x1), .val (.int x2), .val (.int x3), .val (.int x4), .val (.ref b), .val (.int (x2 &&& (3 : Int32))), .val (.int (x3 &&& (3 : Int32))), .unset, .unset, .unset, .unset] [(.int x4)])) _
    refine XS.iconst X9.here hx rfl (hb hby at_78) ?_
    show Steps p.tables e below (T9.setTop (mkF m 79 #[.val (.int x0), .val (.int x1), .val (.int x2), .val (.int x3), .val (.int x4), .val (.ref b), .val (.int (x2 &&& (3 : Int32))), .val (.int (x3 &&& (3 : Int32))), .unset, .unset, .unset, .unset] [(.int (3 : Int32)), (.int x4)])) _
    refine XS.iand X9.here hx rfl (hb hby at_79) rfl ?_
    show Steps p.tables e below (T9.setTop (mkF m 80 #[.val (.int x0), .val (.int x1), .val (.int x2), .val (.int x3), .val (.int x4), .val (.ref b), .val (.int (x2 &&& (3 : Int32))), .val (.int (x3 &&& (3 : Int32))), .unset, .unset, .unset, .unset] [(.int (x4 &&& (3 : Int32)))])) _
    refine XS.istore X9.here hx rfl (hb hby at_80) rfl (l' := #[.val (.int x0), .val (.int x1), .val (.int x2), .val (.int x3), .val (.int x4), .val (.ref b), .val (.int (x2 &&& (3 : Int32))), .val (.int (x3 &&& (3 : Int32))), .val (.int (x4 &&& (3 : Int32))), .unset, .unset, .unset]) rfl ?_
    show Steps p.tables e below (T9.setTop (mkF m 82 #[.val (.int x0), .val (.int x1), .val (.int x2), .val (.int x3), .val (.int x4), .val (.ref b), .val (.int (x2 &&& (3 : Int32))), .val (.int (x3 &&& (3 : Int32))), .val (.int (x4 &&& (3 : Int32))), .unset, .unset, .unset] [])) _
    refine XS.iloadN X9.here hx rfl (hb hby at_82) rfl ?_
    show Steps p.tables e below (T9.setTop (mkF m 83 #[.val (.int x0), .val (.int x1), .val (.int x2), .val (.int x3), .val (.int x4), .val (.ref b), .val (.int (x2 &&& (3 : Int32))), .val (.int (x3 &&& (3 : Int32))), .val (.int (x4 &&& (3 : Int32))), .unset, .unset, .unset] [(.int x1)])) _
    refine XS.iconst X9.here hx rfl (hb hby at_83) ?_
    show Steps p.tables e below (T9.setTop (mkF m 84 #[.val (.int x0), .val (.int x1), .val (.int x2), .val (.int x3), .val (.int x4), .val (.ref b), .val (.int (x2 &&& (3 : Int32))), .val (.int (x3 &&& (3 : Int32))), .val (.int (x4 &&& (3 : Int32))), .unset, .unset, .unset] [(.int (3 : Int32)), (.int x1)])) _
    refine XS.iand X9.here hx rfl (hb hby at_84) rfl ?_
    show Steps p.tables e below (T9.setTop (mkF m 85 #[.val (.int x0), .val (.int x1), .val (.int x2), .val (.int x3), .val (.int x4), .val (.ref b), .val (.int (x2 &&& (3 : Int32))), .val (.int (x3 &&& (3 : Int32))), .val (.int (x4 &&& (3 : Int32))), .unset, .unset, .unset] [(.int (x1 &&& (3 : Int32)))])) _
    refine XS.istore X9.here hx rfl (hb hby at_85) rfl (l' := #[.val (.int x0), .val (.int x1), .val (.int x2), .val (.int x3), .val (.int x4), .val (.ref b), .val (.int (x2 &&& (3 : Int32))), .val (.int (x3 &&& (3 : Int32))), .val (.int (x4 &&& (3 : Int32))), .val (.int (x1 &&& (3 : Int32))), .unset, .unset]) rfl ?_
    show Steps p.tables e below (T9.setTop (mkF m 87 #[.val (.int x0), .val (.int x1), .val (.int x2), .val (.int x3), .val (.int x4), .val (.ref b), .val (.int (x2 &&& (3 : Int32))), .val (.int (x3 &&& (3 : Int32))), .val (.int (x4 &&& (3 : Int32))), .val (.int (x1 &&& (3 : Int32))), .unset, .unset] [])) _
    exact kt
  obtain ⟨s0, hs0⟩ : ∃ z : Int32, z = (x2 &&& (3 : Int32)) := ⟨_, rfl⟩
  rw [← hs0]
  have hin_s0 : ¬ s0 < 0 ∧ s0 < 4 := by rw [hs0]; exact own_in4 x2
  clear hs0
  obtain ⟨s1, hs1⟩ : ∃ z : Int32, z = (x3 &&& (3 : Int32)) := ⟨_, rfl⟩
  rw [← hs1]
  have hin_s1 : ¬ s1 < 0 ∧ s1 < 4 := by rw [hs1]; exact own_in4 x3
  clear hs1
  obtain ⟨s2, hs2⟩ : ∃ z : Int32, z = (x4 &&& (3 : Int32)) := ⟨_, rfl⟩
  rw [← hs2]
  have hin_s2 : ¬ s2 < 0 ∧ s2 < 4 := by rw [hs2]; exact own_in4 x4
  clear hs2
  obtain ⟨n9, hn9⟩ : ∃ z : Int32, z = (x1 &&& (3 : Int32)) := ⟨_, rfl⟩
  rw [← hn9]
  have hn4 : n9 = 0 ∨ n9 = 1 ∨ n9 = 2 ∨ n9 = 3 := by rw [hn9]; exact own_and3 x1
  clear hn9
  rcases hn4 with rfl | rfl | rfl | rfl
  · refine RunsTo.of (T' := T9) (g' := (mkF m 93 #[.val (.int x0), .val (.int x1), .val (.int x2), .val (.int x3), .val (.int x4), .val (.ref b), .val (.int s0), .val (.int s1), .val (.int s2), .val (.int (0 : Int32)), .unset, .unset] [(.int (0 : Int32))])) (fun tgt_ kt => ?_) ?_
    · refine XS.iload X9.here hx rfl (hb hby at_87) rfl ?_
      show Steps p.tables e below (T9.setTop (mkF m 89 #[.val (.int x0), .val (.int x1), .val (.int x2), .val (.int x3), .val (.int x4), .val (.ref b), .val (.int s0), .val (.int s1), .val (.int s2), .val (.int (0 : Int32)), .unset, .unset] [(.int (0 : Int32))])) _
      refine XS.ifNo X9.here hx rfl (hb hby at_89) rfl ((if0 _ _).trans (teq rfl).2) ?_
      show Steps p.tables e below (T9.setTop (mkF m 92 #[.val (.int x0), .val (.int x1), .val (.int x2), .val (.int x3), .val (.int x4), .val (.ref b), .val (.int s0), .val (.int s1), .val (.int s2), .val (.int (0 : Int32)), .unset, .unset] [])) _
      refine XS.iconst X9.here hx rfl (hb hby at_92) ?_
      show Steps p.tables e below (T9.setTop (mkF m 93 #[.val (.int x0), .val (.int x1), .val (.int x2), .val (.int x3), .val (.int x4), .val (.ref b), .val (.int s0), .val (.int s1), .val (.int s2), .val (.int (0 : Int32)), .unset, .unset] [(.int (0 : Int32))])) _
      exact kt
    obtain ⟨T10, h10, k10, X10, e10, E10, A10, st10⟩ := newP X9 hx hZ (hw _ (List.mem_of_getElem? (i := 1) rfl)) e9 (g := (mkF m 93 #[.val (.int x0), .val (.int x1), .val (.int x2), .val (.int x3), .val (.int x4), .val (.ref b), .val (.int s0), .val (.int s1), .val (.int s2), .val (.int (0 : Int32)), .unset, .unset] [(.int (0 : Int32))])) rfl (hb hby at_93) rfl (by decide) (cap := 0) (by decide) (by decide) (by decide) (by decide)
    obtain ⟨a, g10⟩ : ∃ z, z = h9.size := ⟨_, rfl⟩
    rw [← g10] at A10 st10
    have Z10 : n0 ≤ h10.size := Nat.le_trans Z9 E10.1
    have g_a : n0 ≤ a := Nat.le_trans Z9 (Nat.le_of_eq g10.symm)
    have ne_b_a : b ≠ a := Nat.ne_of_lt (Nat.lt_of_lt_of_le V_b.lt (Nat.le_of_eq g10.symm))
    have V_b := V_b.ext E10
    have V_a : Arf Z h10 a .int (0 : Int32) (fun _ => (Value.int (0 : Int32))) := Arf.new A10 (by decide)
    refine RunsTo.of (T' := T10) (g' := (mkF m 95 #[.val (.int x0), .val (.int x1), .val (.int x2), .val (.int x3), .val (.int x4), .val (.ref b), .val (.int s0), .val (.int s1), .val (.int s2), .val (.int (0 : Int32)), .unset, .unset] [(.ref a)])) st10 ?_
    refine RunsTo.of (T' := T10) (g' := (mkF m 221 #[.val (.int x0), .val (.int x1), .val (.int x2), .val (.int x3), .val (.int x4), .val (.ref b), .val (.int s0), .val (.int s1), .val (.int s2), .val (.int (0 : Int32)), .val (.ref a), .val (.int (0 : Int32))] [(.ref b), (.ref a)])) (fun tgt_ kt => ?_) ?_
    · refine XS.astore X10.here hx rfl (hb hby at_95) rfl rfl (l' := #[.val (.int x0), .val (.int x1), .val (.int x2), .val (.int x3), .val (.int x4), .val (.ref b), .val (.int s0), .val (.int s1), .val (.int s2), .val (.int (0 : Int32)), .val (.ref a), .unset]) rfl ?_
      show Steps p.tables e below (T10.setTop (mkF m 97 #[.val (.int x0), .val (.int x1), .val (.int x2), .val (.int x3), .val (.int x4), .val (.ref b), .val (.int s0), .val (.int s1), .val (.int s2), .val (.int (0 : Int32)), .val (.ref a), .unset] [])) _
      refine XS.goto X10.here hx rfl (pc0 := 97) (pc' := 163) rfl (hb hby at_97) (by decide) (by decide) ?_
      show Steps p.tables e below (T10.setTop (mkF m 163 #[.val (.int x0), .val (.int x1), .val (.int x2), .val (.int x3), .val (.int x4), .val (.ref b), .val (.int s0), .val (.int s1), .val (.int s2), .val (.int (0 : Int32)), .val (.ref a), .unset] [])) _
      refine XS.iconst X10.here hx rfl (hb hby at_163) ?_
      show Steps p.tables e below (T10.setTop (mkF m 164 #[.val (.int x0), .val (.int x1), .val (.int x2), .val (.int x3), .val (.int x4), .val (.ref b), .val (.int s0), .val (.int s1), .val (.int s2), .val (.int (0 : Int32)), .val (.ref a), .unset] [(.int (0 : Int32))])) _
      refine XS.istore X10.here hx rfl (hb hby at_164) rfl (l' := #[.val (.int x0), .val (.int x1), .val (.int x2), .val (.int x3), .val (.int x4), .val (.ref b), .val (.int s0), .val (.int s1), .val (.int s2), .val (.int (0 : Int32)), .val (.ref a), .val (.int (0 : Int32))]) rfl ?_
      show Steps p.tables e below (T10.setTop (mkF m 166 #[.val (.int x0), .val (.int x1), .val (.int x2), .val (.int x3), .val (.int x4), .val (.ref b), .val (.int s0), .val (.int s1), .val (.int s2), .val (.int (0 : Int32)), .val (.ref a), .val (.int (0 : Int32))] [])) _
      refine XS.iload X10.here hx rfl (hb hby at_166) rfl ?_
      show Steps p.tables e below (T10.setTop (mkF m 168 #[.val (.int x0), .val (.int x1), .val (.int x2), .val (.int x3), .val (.int x4), .val (.ref b), .val (.int s0), .val (.int s1), .val (.int s2), .val (.int (0 : Int32)), .val (.ref a), .val (.int (0 : Int32))] [(.int (0 : Int32))])) _
      refine XS.iconst X10.here hx rfl (hb hby at_168) ?_
      show Steps p.tables e below (T10.setTop (mkF m 169 #[.val (.int x0), .val (.int x1), .val (.int x2), .val (.int x3), .val (.int x4), .val (.ref b), .val (.int s0), .val (.int s1), .val (.int s2), .val (.int (0 : Int32)), .val (.ref a), .val (.int (0 : Int32))] [(.int (1 : Int32)), (.int (0 : Int32))])) _
      refine XS.icmpYes X10.here hx rfl (pc0 := 169) (pc' := 183) rfl (hb hby at_169) rfl (tlt (by decide)).1 (by decide) (by decide) ?_
      show Steps p.tables e below (T10.setTop (mkF m 183 #[.val (.int x0), .val (.int x1), .val (.int x2), .val (.int x3), .val (.int x4), .val (.ref b), .val (.int s0), .val (.int s1), .val (.int s2), .val (.int (0 : Int32)), .val (.ref a), .val (.int (0 : Int32))] [])) _
      refine XS.iload X10.here hx rfl (hb hby at_183) rfl ?_
      show Steps p.tables e below (T10.setTop (mkF m 185 #[.val (.int x0), .val (.int x1), .val (.int x2), .val (.int x3), .val (.int x4), .val (.ref b), .val (.int s0), .val (.int s1), .val (.int s2), .val (.int (0 : Int32)), .val (.ref a), .val (.int (0 : Int32))] [(.int (0 : Int32))])) _
      refine XS.iconst X10.here hx rfl (hb hby at_185) ?_
      show Steps p.tables e below (T10.setTop (mkF m 186 #[.val (.int x0), .val (.int x1), .val (.int x2), .val (.int x3), .val (.int x4), .val (.ref b), .val (.int s0), .val (.int s1), .val (.int s2), .val (.int (0 : Int32)), .val (.ref a), .val (.int (0 : Int32))] [(.int (2 : Int32)), (.int (0 : Int32))])) _
      refine XS.icmpYes X10.here hx rfl (pc0 := 186) (pc' := 200) rfl (hb hby at_186) rfl (tlt (by decide)).1 (by decide) (by decide) ?_
      show Steps p.tables e below (T10.setTop (mkF m 200 #[.val (.int x0), .val (.int x1), .val (.int x2), .val (.int x3), .val (.int x4), .val (.ref b), .val (.int s0), .val (.int s1), .val (.int s2), .val (.int (0 : Int32)), .val (.ref a), .val (.int (0 : Int32))] [])) _
      refine XS.iload X10.here hx rfl (hb hby at_200) rfl ?_
      show Steps p.tables e below (T10.setTop (mkF m 202 #[.val (.int x0), .val (.int x1), .val (.int x2), .val (.int x3), .val (.int x4), .val (.ref b), .val (.int s0), .val (.int s1), .val (.int s2), .val (.int (0 : Int32)), .val (.ref a), .val (.int (0 : Int32))] [(.int (0 : Int32))])) _
      refine XS.iconst X10.here hx rfl (hb hby at_202) ?_
      show Steps p.tables e below (T10.setTop (mkF m 203 #[.val (.int x0), .val (.int x1), .val (.int x2), .val (.int x3), .val (.int x4), .val (.ref b), .val (.int s0), .val (.int s1), .val (.int s2), .val (.int (0 : Int32)), .val (.ref a), .val (.int (0 : Int32))] [(.int (3 : Int32)), (.int (0 : Int32))])) _
      refine XS.icmpYes X10.here hx rfl (pc0 := 203) (pc' := 217) rfl (hb hby at_203) rfl (tlt (by decide)).1 (by decide) (by decide) ?_
      show Steps p.tables e below (T10.setTop (mkF m 217 #[.val (.int x0), .val (.int x1), .val (.int x2), .val (.int x3), .val (.int x4), .val (.ref b), .val (.int s0), .val (.int s1), .val (.int s2), .val (.int (0 : Int32)), .val (.ref a), .val (.int (0 : Int32))] [])) _
      refine XS.aload X10.here hx rfl (hb hby at_217) rfl rfl ?_
      show Steps p.tables e below (T10.setTop (mkF m 219 #[.val (.int x0), .val (.int x1), .val (.int x2), .val (.int x3), .val (.int x4), .val (.ref b), .val (.int s0), .val (.int s1), .val (.int s2), .val (.int (0 : Int32)), .val (.ref a), .val (.int (0 : Int32))] [(.ref a)])) _
      refine XS.aload X10.here hx rfl (hb hby at_219) rfl rfl ?_
      show Steps p.tables e below (T10.setTop (mkF m 221 #[.val (.int x0), .val (.int x1), .val (.int x2), .val (.int x3), .val (.int x4), .val (.ref b), .val (.int s0), .val (.int s1), .val (.int s2), .val (.int (0 : Int32)), .val (.ref a), .val (.int (0 : Int32))] [(.ref b), (.ref a)])) _
      exact kt
    obtain ⟨cc, hcc⟩ : ∃ z : Nat → Int32, z = fun k => own_bs y1 y2 y3 y4 (own_pick s0 s1 s2 k).toNatClampNeg := ⟨_, rfl⟩
    have hprem : ∀ k, k < (0 : Int32).toNatClampNeg → ∃ j : Int32, (fun _ => (Value.int (0 : Int32))) k = .int j ∧ (¬ j < 0 ∧ j < 4) ∧ (fun i => Value.int (own_bs y1 y2 y3 y4 i)) j.toNatClampNeg = .int (cc k) := by
      intro k hk
      have hk' : k < 0 := hk
      rw [hcc]
      omega
    obtain ⟨_, _, ⟨T11, L11, k11, n11⟩, -, X11, ⟨Lc11, hQ11, l11, y11, z11⟩, st11⟩ := Jvm.LawKit.callS X10 hx (y := (⟨"com/example/kontroller/kontroller/synthesis/StateGraph", "any", "([I[Z)Z"⟩ : MethodName)) hown (mvT hZ (hw _ (List.mem_of_getElem? (i := 2) rfl))) (mvT hZ (hw _ (List.mem_of_getElem? (i := 3) rfl))) (mvT hZ (hw _ (List.mem_of_getElem? (i := 4) rfl))) (mvT hZ (hw _ (List.mem_of_getElem? (i := 5) rfl))) (by decide) (backOf (W := 0) (rm1 l Z a0 hw [] a b (0 : Int32) (4 : Int32) (fun _ => (Value.int (0 : Int32))) (fun i => Value.int (own_bs y1 y2 y3 y4 i)) cc h10 n0 Z10 V_a V_b hprem) hZ (hw _ (List.mem_of_getElem? (i := 5) rfl)) (hw _ (List.mem_of_getElem? (i := 4) rfl)) (by decide) (by decide)) (g := (mkF m 221 #[.val (.int x0), .val (.int x1), .val (.int x2), .val (.int x3), .val (.int x4), .val (.ref b), .val (.int s0), .val (.int s1), .val (.int s2), .val (.int (0 : Int32)), .val (.ref a), .val (.int (0 : Int32))] [(.ref b), (.ref a)])) rfl (by rw [hml]; rfl) (argsL := [(.ref a), (.ref b)]) (rest := []) (lenOf pd_0 rfl) rfl (by show 2 * 0 + _ ≤ _; exact Nat.le_of_eq rfl) (hb hby at_221) (fun _ _ => ⟨rfl, e10, (by decide : 2 + 0 ≤ _), (by decide : 4 + 0 ≤ _)⟩)
    dsimp only [Pt.U, Pt.locs, Pt.cells, Pt.slots] at X11 l11 y11 z11 st11 hQ11
    subst l11 y11 z11
    obtain ⟨rfl, N11q, e11⟩ := hQ11
    have N11 := Fr.app N9 N11q
    refine RunsTo.of (T' := T11) (g' := (mkF m 224 #[.val (.int x0), .val (.int x1), .val (.int x2), .val (.int x3), .val (.int x4), .val (.ref b), .val (.int s0), .val (.int s1), .val (.int s2), .val (.int (0 : Int32)), .val (.ref a), .val (.int (0 : Int32))] [(.int (nar .boolean (own_any cc (0 : Int32).toNatClampNeg)))])) st11 ?_
    refine RunsTo.of (T' := T11) (g' := (mkF m 226 #[.val (.int x0), .val (.int x1), .val (.int x2), .val (.int x3), .val (.int x4), .val (.ref b), .val (.int s0), .val (.int s1), .val (.int s2), .val (.int (0 : Int32)), .val (.ref a), .val (.int (0 : Int32))] [(.int (0 : Int32)), (.int (nar .boolean (own_any cc (0 : Int32).toNatClampNeg)))])) (fun tgt_ kt => ?_) ?_
    · refine XS.iload X11.here hx rfl (hb hby at_224) rfl ?_
      show Steps p.tables e below (T11.setTop (mkF m 226 #[.val (.int x0), .val (.int x1), .val (.int x2), .val (.int x3), .val (.int x4), .val (.ref b), .val (.int s0), .val (.int s1), .val (.int s2), .val (.int (0 : Int32)), .val (.ref a), .val (.int (0 : Int32))] [(.int (0 : Int32)), (.int (nar .boolean (own_any cc (0 : Int32).toNatClampNeg)))])) _
      exact kt
    have hlaw : nar .boolean (own_any cc (0 : Int32).toNatClampNeg) = (0 : Int32) := by
      have c0 : cc 0 = own_bs y1 y2 y3 y4 s0.toNatClampNeg := by rw [hcc]; rfl
      have c1 : cc 1 = own_bs y1 y2 y3 y4 s1.toNatClampNeg := by rw [hcc]; rfl
      have c2 : cc 2 = own_bs y1 y2 y3 y4 s2.toNatClampNeg := by rw [hcc]; rfl
      have d0 := own_b01 y1 y2 y3 y4 s0.toNatClampNeg
      have d1 := own_b01 y1 y2 y3 y4 s1.toNatClampNeg
      have d2 := own_b01 y1 y2 y3 y4 s2.toNatClampNeg
      rw [← c0] at d0
      rw [← c1] at d1
      rw [← c2] at d2
      show nar .boolean (own_any cc 0) = _
      clear hcc hprem
      rcases d0 with d0 | d0 <;> rcases d1 with d1 | d1 <;> rcases d2 with d2 | d2 <;> simp [own_any, d0, d1, d2] <;> decide
    refine RunsTo.of (T' := T11) (g' := (mkF m 234 #[.val (.int x0), .val (.int x1), .val (.int x2), .val (.int x3), .val (.int x4), .val (.ref b), .val (.int s0), .val (.int s1), .val (.int s2), .val (.int (0 : Int32)), .val (.ref a), .val (.int (0 : Int32))] [(.int (1 : Int32))])) (fun tgt_ kt => ?_) ?_
    · refine XS.icmpNo X11.here hx rfl (hb hby at_226) rfl (teq hlaw).2 ?_
      show Steps p.tables e below (T11.setTop (mkF m 229 #[.val (.int x0), .val (.int x1), .val (.int x2), .val (.int x3), .val (.int x4), .val (.ref b), .val (.int s0), .val (.int s1), .val (.int s2), .val (.int (0 : Int32)), .val (.ref a), .val (.int (0 : Int32))] [])) _
      refine XS.iconst X11.here hx rfl (hb hby at_229) ?_
      show Steps p.tables e below (T11.setTop (mkF m 230 #[.val (.int x0), .val (.int x1), .val (.int x2), .val (.int x3), .val (.int x4), .val (.ref b), .val (.int s0), .val (.int s1), .val (.int s2), .val (.int (0 : Int32)), .val (.ref a), .val (.int (0 : Int32))] [(.int (1 : Int32))])) _
      refine XS.goto X11.here hx rfl (pc0 := 230) (pc' := 234) rfl (hb hby at_230) (by decide) (by decide) ?_
      show Steps p.tables e below (T11.setTop (mkF m 234 #[.val (.int x0), .val (.int x1), .val (.int x2), .val (.int x3), .val (.int x4), .val (.ref b), .val (.int s0), .val (.int s1), .val (.int s2), .val (.int (0 : Int32)), .val (.ref a), .val (.int (0 : Int32))] [(.int (1 : Int32))])) _
      exact kt
    refine RunsTo.retN X11 hx (t := .boolean) Bd.returns (by simp) Bd.notSynchronized (hb hby at_234) ?_ (by decide) (by decide)
    rw [e11]
    exact ⟨rfl, N11⟩
  · refine RunsTo.of (T' := T9) (g' := (mkF m 107 #[.val (.int x0), .val (.int x1), .val (.int x2), .val (.int x3), .val (.int x4), .val (.ref b), .val (.int s0), .val (.int s1), .val (.int s2), .val (.int (1 : Int32)), .unset, .unset] [(.int (1 : Int32))])) (fun tgt_ kt => ?_) ?_
    · refine XS.iload X9.here hx rfl (hb hby at_87) rfl ?_
      show Steps p.tables e below (T9.setTop (mkF m 89 #[.val (.int x0), .val (.int x1), .val (.int x2), .val (.int x3), .val (.int x4), .val (.ref b), .val (.int s0), .val (.int s1), .val (.int s2), .val (.int (1 : Int32)), .unset, .unset] [(.int (1 : Int32))])) _
      refine XS.ifYes X9.here hx rfl (pc0 := 89) (pc' := 100) rfl (hb hby at_89) rfl ((if0 _ _).trans (feq (by decide)).2) (by decide) (by decide) ?_
      show Steps p.tables e below (T9.setTop (mkF m 100 #[.val (.int x0), .val (.int x1), .val (.int x2), .val (.int x3), .val (.int x4), .val (.ref b), .val (.int s0), .val (.int s1), .val (.int s2), .val (.int (1 : Int32)), .unset, .unset] [])) _
      refine XS.iload X9.here hx rfl (hb hby at_100) rfl ?_
      show Steps p.tables e below (T9.setTop (mkF m 102 #[.val (.int x0), .val (.int x1), .val (.int x2), .val (.int x3), .val (.int x4), .val (.ref b), .val (.int s0), .val (.int s1), .val (.int s2), .val (.int (1 : Int32)), .unset, .unset] [(.int (1 : Int32))])) _
      refine XS.iconst X9.here hx rfl (hb hby at_102) ?_
      show Steps p.tables e below (T9.setTop (mkF m 103 #[.val (.int x0), .val (.int x1), .val (.int x2), .val (.int x3), .val (.int x4), .val (.ref b), .val (.int s0), .val (.int s1), .val (.int s2), .val (.int (1 : Int32)), .unset, .unset] [(.int (1 : Int32)), (.int (1 : Int32))])) _
      refine XS.icmpNo X9.here hx rfl (hb hby at_103) rfl (teq rfl).2 ?_
      show Steps p.tables e below (T9.setTop (mkF m 106 #[.val (.int x0), .val (.int x1), .val (.int x2), .val (.int x3), .val (.int x4), .val (.ref b), .val (.int s0), .val (.int s1), .val (.int s2), .val (.int (1 : Int32)), .unset, .unset] [])) _
      refine XS.iconst X9.here hx rfl (hb hby at_106) ?_
      show Steps p.tables e below (T9.setTop (mkF m 107 #[.val (.int x0), .val (.int x1), .val (.int x2), .val (.int x3), .val (.int x4), .val (.ref b), .val (.int s0), .val (.int s1), .val (.int s2), .val (.int (1 : Int32)), .unset, .unset] [(.int (1 : Int32))])) _
      exact kt
    obtain ⟨T12, h12, k12, X12, e12, E12, A12, st12⟩ := newP X9 hx hZ (hw _ (List.mem_of_getElem? (i := 1) rfl)) e9 (g := (mkF m 107 #[.val (.int x0), .val (.int x1), .val (.int x2), .val (.int x3), .val (.int x4), .val (.ref b), .val (.int s0), .val (.int s1), .val (.int s2), .val (.int (1 : Int32)), .unset, .unset] [(.int (1 : Int32))])) rfl (hb hby at_107) rfl (by decide) (cap := 1) (by decide) (by decide) (by decide) (by decide)
    obtain ⟨a, g12⟩ : ∃ z, z = h9.size := ⟨_, rfl⟩
    rw [← g12] at A12 st12
    have Z12 : n0 ≤ h12.size := Nat.le_trans Z9 E12.1
    have g_a : n0 ≤ a := Nat.le_trans Z9 (Nat.le_of_eq g12.symm)
    have ne_b_a : b ≠ a := Nat.ne_of_lt (Nat.lt_of_lt_of_le V_b.lt (Nat.le_of_eq g12.symm))
    have V_b := V_b.ext E12
    have V_a : Arf Z h12 a .int (1 : Int32) (fun _ => (Value.int (0 : Int32))) := Arf.new A12 (by decide)
    refine RunsTo.of (T' := T12) (g' := (mkF m 109 #[.val (.int x0), .val (.int x1), .val (.int x2), .val (.int x3), .val (.int x4), .val (.ref b), .val (.int s0), .val (.int s1), .val (.int s2), .val (.int (1 : Int32)), .unset, .unset] [(.ref a)])) st12 ?_
    refine RunsTo.of (T' := T12) (g' := (mkF m 113 #[.val (.int x0), .val (.int x1), .val (.int x2), .val (.int x3), .val (.int x4), .val (.ref b), .val (.int s0), .val (.int s1), .val (.int s2), .val (.int (1 : Int32)), .unset, .unset] [(.int s0), (.int (0 : Int32)), (.ref a), (.ref a)])) (fun tgt_ kt => ?_) ?_
    · refine XS.dup X12.here hx rfl (hb hby at_109) rfl rfl ?_
      show Steps p.tables e below (T12.setTop (mkF m 110 #[.val (.int x0), .val (.int x1), .val (.int x2), .val (.int x3), .val (.int x4), .val (.ref b), .val (.int s0), .val (.int s1), .val (.int s2), .val (.int (1 : Int32)), .unset, .unset] [(.ref a), (.ref a)])) _
      refine XS.iconst X12.here hx rfl (hb hby at_110) ?_
      show Steps p.tables e below (T12.setTop (mkF m 111 #[.val (.int x0), .val (.int x1), .val (.int x2), .val (.int x3), .val (.int x4), .val (.ref b), .val (.int s0), .val (.int s1), .val (.int s2), .val (.int (1 : Int32)), .unset, .unset] [(.int (0 : Int32)), (.ref a), (.ref a)])) _
      refine XS.iload X12.here hx rfl (hb hby at_111) rfl ?_
      show Steps p.tables e below (T12.setTop (mkF m 113 #[.val (.int x0), .val (.int x1), .val (.int x2), .val (.int x3), .val (.int x4), .val (.ref b), .val (.int s0), .val (.int s1), .val (.int s2), .val (.int (1 : Int32)), .unset, .unset] [(.int s0), (.int (0 : Int32)), (.ref a), (.ref a)])) _
      exact kt
    obtain ⟨cl_a_13, Ar_a_13, S_a_13, M_a_13, H_a_13⟩ := id V_a
    have hin_a_13 : ¬ ((0 : Int32) < 0 ∨ cl_a_13.slots.size ≤ ((0 : Int32)).toNatClampNeg) := inb_of S_a_13 ⟨by decide, by decide⟩
    obtain ⟨T14, h14, X14, e14, W14, st14⟩ := stI X12 hx hZ e12 Ar_a_13 (j := (0 : Int32)) hin_a_13 (g := (mkF m 113 #[.val (.int x0), .val (.int x1), .val (.int x2), .val (.int x3), .val (.int x4), .val (.ref b), .val (.int s0), .val (.int s1), .val (.int s2), .val (.int (1 : Int32)), .unset, .unset] [(.int s0), (.int (0 : Int32)), (.ref a), (.ref a)])) rfl rfl (hb hby at_113)
    have N14 := Fr.snoc X14 N9 g_a
    have Z14 : n0 ≤ h14.size := Nat.le_trans Z12 (Nat.le_of_eq W14.size.symm)
    have V_a : Arf Z h14 a .int (1 : Int32) (fun jj => if jj = ((0 : Int32)).toNatClampNeg then (Value.int s0) else (fun _ => (Value.int (0 : Int32))) jj) := Arf.set Ar_a_13 S_a_13 M_a_13 H_a_13 W14
    have V_b := V_b.other W14 ne_b_a
    refine RunsTo.of (T' := T14) (g' := (mkF m 114 #[.val (.int x0), .val (.int x1), .val (.int x2), .val (.int x3), .val (.int x4), .val (.ref b), .val (.int s0), .val (.int s1), .val (.int s2), .val (.int (1 : Int32)), .unset, .unset] [(.ref a)])) st14 ?_
    refine RunsTo.of (T' := T14) (g' := (mkF m 176 #[.val (.int x0), .val (.int x1), .val (.int x2), .val (.int x3), .val (.int x4), .val (.ref b), .val (.int s0), .val (.int s1), .val (.int s2), .val (.int (1 : Int32)), .val (.ref a), .val (.int (0 : Int32))] [(.int s0), (.ref b)])) (fun tgt_ kt => ?_) ?_
    · refine XS.astore X14.here hx rfl (hb hby at_114) rfl rfl (l' := #[.val (.int x0), .val (.int x1), .val (.int x2), .val (.int x3), .val (.int x4), .val (.ref b), .val (.int s0), .val (.int s1), .val (.int s2), .val (.int (1 : Int32)), .val (.ref a), .unset]) rfl ?_
      show Steps p.tables e below (T14.setTop (mkF m 116 #[.val (.int x0), .val (.int x1), .val (.int x2), .val (.int x3), .val (.int x4), .val (.ref b), .val (.int s0), .val (.int s1), .val (.int s2), .val (.int (1 : Int32)), .val (.ref a), .unset] [])) _
      refine XS.goto X14.here hx rfl (pc0 := 116) (pc' := 163) rfl (hb hby at_116) (by decide) (by decide) ?_
      show Steps p.tables e below (T14.setTop (mkF m 163 #[.val (.int x0), .val (.int x1), .val (.int x2), .val (.int x3), .val (.int x4), .val (.ref b), .val (.int s0), .val (.int s1), .val (.int s2), .val (.int (1 : Int32)), .val (.ref a), .unset] [])) _
      refine XS.iconst X14.here hx rfl (hb hby at_163) ?_
      show Steps p.tables e below (T14.setTop (mkF m 164 #[.val (.int x0), .val (.int x1), .val (.int x2), .val (.int x3), .val (.int x4), .val (.ref b), .val (.int s0), .val (.int s1), .val (.int s2), .val (.int (1 : Int32)), .val (.ref a), .unset] [(.int (0 : Int32))])) _
      refine XS.istore X14.here hx rfl (hb hby at_164) rfl (l' := #[.val (.int x0), .val (.int x1), .val (.int x2), .val (.int x3), .val (.int x4), .val (.ref b), .val (.int s0), .val (.int s1), .val (.int s2), .val (.int (1 : Int32)), .val (.ref a), .val (.int (0 : Int32))]) rfl ?_
      show Steps p.tables e below (T14.setTop (mkF m 166 #[.val (.int x0), .val (.int x1), .val (.int x2), .val (.int x3), .val (.int x4), .val (.ref b), .val (.int s0), .val (.int s1), .val (.int s2), .val (.int (1 : Int32)), .val (.ref a), .val (.int (0 : Int32))] [])) _
      refine XS.iload X14.here hx rfl (hb hby at_166) rfl ?_
      show Steps p.tables e below (T14.setTop (mkF m 168 #[.val (.int x0), .val (.int x1), .val (.int x2), .val (.int x3), .val (.int x4), .val (.ref b), .val (.int s0), .val (.int s1), .val (.int s2), .val (.int (1 : Int32)), .val (.ref a), .val (.int (0 : Int32))] [(.int (1 : Int32))])) _
      refine XS.iconst X14.here hx rfl (hb hby at_168) ?_
      show Steps p.tables e below (T14.setTop (mkF m 169 #[.val (.int x0), .val (.int x1), .val (.int x2), .val (.int x3), .val (.int x4), .val (.ref b), .val (.int s0), .val (.int s1), .val (.int s2), .val (.int (1 : Int32)), .val (.ref a), .val (.int (0 : Int32))] [(.int (1 : Int32)), (.int (1 : Int32))])) _
      refine XS.icmpNo X14.here hx rfl (hb hby at_169) rfl (flt (by decide)).1 ?_
      show Steps p.tables e below (T14.setTop (mkF m 172 #[.val (.int x0), .val (.int x1), .val (.int x2), .val (.int x3), .val (.int x4), .val (.ref b), .val (.int s0), .val (.int s1), .val (.int s2), .val (.int (1 : Int32)), .val (.ref a), .val (.int (0 : Int32))] [])) _
      refine XS.aload X14.here hx rfl (hb hby at_172) rfl rfl ?_
      show Steps p.tables e below (T14.setTop (mkF m 174 #[.val (.int x0), .val (.int x1), .val (.int x2), .val (.int x3), .val (.int x4), .val (.ref b), .val (.int s0), .val (.int s1), .val (.int s2), .val (.int (1 : Int32)), .val (.ref a), .val (.int (0 : Int32))] [(.ref b)])) _
      refine XS.iload X14.here hx rfl (hb hby at_174) rfl ?_
      show Steps p.tables e below (T14.setTop (mkF m 176 #[.val (.int x0), .val (.int x1), .val (.int x2), .val (.int x3), .val (.int x4), .val (.ref b), .val (.int s0), .val (.int s1), .val (.int s2), .val (.int (1 : Int32)), .val (.ref a), .val (.int (0 : Int32))] [(.int s0), (.ref b)])) _
      exact kt
    obtain ⟨cl_b_15, Ar_b_15, S_b_15, M_b_15, H_b_15⟩ := id V_b
    have hin_b_15 : ¬ (s0 < 0 ∨ cl_b_15.slots.size ≤ (s0).toNatClampNeg) := inb_of S_b_15 hin_s0
    have hat_b_15 : cl_b_15.slots[(s0).toNatClampNeg]? = some (.int (own_bs y1 y2 y3 y4 s0.toNatClampNeg)) := (H_b_15 _ (Nat.lt_of_not_le fun y => hin_b_15 (Or.inr y))).trans (congrArg some rfl)
    refine RunsTo.of (T' := T14) (g' := (mkF m 177 #[.val (.int x0), .val (.int x1), .val (.int x2), .val (.int x3), .val (.int x4), .val (.ref b), .val (.int s0), .val (.int s1), .val (.int s2), .val (.int (1 : Int32)), .val (.ref a), .val (.int (0 : Int32))] [(.int (own_bs y1 y2 y3 y4 s0.toNatClampNeg))])) (fun tgt_ kt => ?_) ?_
    · refine X14.baloadBooleans hx (j := s0) (v := (.int (own_bs y1 y2 y3 y4 s0.toNatClampNeg))) (by rw [e14]; exact Ar_b_15.1) (State.isArrayOf_alike hZ.alike Ar_b_15.2.1) Ar_b_15.2.2 hin_b_15 hat_b_15 (g := (mkF m 176 #[.val (.int x0), .val (.int x1), .val (.int x2), .val (.int x3), .val (.int x4), .val (.ref b), .val (.int s0), .val (.int s1), .val (.int s2), .val (.int (1 : Int32)), .val (.ref a), .val (.int (0 : Int32))] [(.int s0), (.ref b)])) rfl rfl (hb hby at_176) _ ?_
      show Steps p.tables e below (T14.setTop (mkF m 177 #[.val (.int x0), .val (.int x1), .val (.int x2), .val (.int x3), .val (.int x4), .val (.ref b), .val (.int s0), .val (.int s1), .val (.int s2), .val (.int (1 : Int32)), .val (.ref a), .val (.int (0 : Int32))] [(.int (own_bs y1 y2 y3 y4 s0.toNatClampNeg))])) _
      exact kt
    obtain ⟨w0, hw0⟩ : ∃ z : Int32, z = (if (own_bs y1 y2 y3 y4 s0.toNatClampNeg) = (0 : Int32) then (0 : Int32) else (1 : Int32)) := ⟨_, rfl⟩
    refine RunsTo.of (T' := T14) (g' := (mkF m 183 #[.val (.int x0), .val (.int x1), .val (.int x2), .val (.int x3), .val (.int x4), .val (.ref b), .val (.int s0), .val (.int s1), .val (.int s2), .val (.int (1 : Int32)), .val (.ref a), .val (.int w0)] [])) (fun tgt_ kt => ?_) ?_
    · by_cases hc177e0 : (own_bs y1 y2 y3 y4 s0.toNatClampNeg) = (0 : Int32)
      · refine XS.ifYes X14.here hx rfl (pc0 := 177) (pc' := 183) rfl (hb hby at_177) rfl ((if0 _ _).trans (teq hc177e0).1) (by decide) (by decide) ?_
        show Steps p.tables e below (T14.setTop (mkF m 183 #[.val (.int x0), .val (.int x1), .val (.int x2), .val (.int x3), .val (.int x4), .val (.ref b), .val (.int s0), .val (.int s1), .val (.int s2), .val (.int (1 : Int32)), .val (.ref a), .val (.int (0 : Int32))] [])) _
        try rw [if_pos hc177e0] at hw0
        rw [hw0] at kt
        exact kt
      · refine XS.ifNo X14.here hx rfl (hb hby at_177) rfl ((if0 _ _).trans (feq hc177e0).1) ?_
        show Steps p.tables e below (T14.setTop (mkF m 180 #[.val (.int x0), .val (.int x1), .val (.int x2), .val (.int x3), .val (.int x4), .val (.ref b), .val (.int s0), .val (.int s1), .val (.int s2), .val (.int (1 : Int32)), .val (.ref a), .val (.int (0 : Int32))] [])) _
        try rw [if_neg hc177e0] at hw0
        rw [hw0] at kt
        refine XS.iconst X14.here hx rfl (hb hby at_180) ?_
        show Steps p.tables e below (T14.setTop (mkF m 181 #[.val (.int x0), .val (.int x1), .val (.int x2), .val (.int x3), .val (.int x4), .val (.ref b), .val (.int s0), .val (.int s1), .val (.int s2), .val (.int (1 : Int32)), .val (.ref a), .val (.int (0 : Int32))] [(.int (1 : Int32))])) _
        refine XS.istore X14.here hx rfl (hb hby at_181) rfl (l' := #[.val (.int x0), .val (.int x1), .val (.int x2), .val (.int x3), .val (.int x4), .val (.ref b), .val (.int s0), .val (.int s1), .val (.int s2), .val (.int (1 : Int32)), .val (.ref a), .val (.int (1 : Int32))]) rfl ?_
        show Steps p.tables e below (T14.setTop (mkF m 183 #[.val (.int x0), .val (.int x1), .val (.int x2), .val (.int x3), .val (.int x4), .val (.ref b), .val (.int s0), .val (.int s1), .val (.int s2), .val (.int (1 : Int32)), .val (.ref a), .val (.int (1 : Int32))] [])) _
        exact kt
    refine RunsTo.of (T' := T14) (g' := (mkF m 221 #[.val (.int x0), .val (.int x1), .val (.int x2), .val (.int x3), .val (.int x4), .val (.ref b), .val (.int s0), .val (.int s1), .val (.int s2), .val (.int (1 : Int32)), .val (.ref a), .val (.int w0)] [(.ref b), (.ref a)])) (fun tgt_ kt => ?_) ?_
    · refine XS.iload X14.here hx rfl (hb hby at_183) rfl ?_
      show Steps p.tables e below (T14.setTop (mkF m 185 #[.val (.int x0), .val (.int x1), .val (.int x2), .val (.int x3), .val (.int x4), .val (.ref b), .val (.int s0), .val (.int s1), .val (.int s2), .val (.int (1 : Int32)), .val (.ref a), .val (.int w0)] [(.int (1 : Int32))])) _
      refine XS.iconst X14.here hx rfl (hb hby at_185) ?_
      show Steps p.tables e below (T14.setTop (mkF m 186 #[.val (.int x0), .val (.int x1), .val (.int x2), .val (.int x3), .val (.int x4), .val (.ref b), .val (.int s0), .val (.int s1), .val (.int s2), .val (.int (1 : Int32)), .val (.ref a), .val (.int w0)] [(.int (2 : Int32)), (.int (1 : Int32))])) _
      refine XS.icmpYes X14.here hx rfl (pc0 := 186) (pc' := 200) rfl (hb hby at_186) rfl (tlt (by decide)).1 (by decide) (by decide) ?_
      show Steps p.tables e below (T14.setTop (mkF m 200 #[.val (.int x0), .val (.int x1), .val (.int x2), .val (.int x3), .val (.int x4), .val (.ref b), .val (.int s0), .val (.int s1), .val (.int s2), .val (.int (1 : Int32)), .val (.ref a), .val (.int w0)] [])) _
      refine XS.iload X14.here hx rfl (hb hby at_200) rfl ?_
      show Steps p.tables e below (T14.setTop (mkF m 202 #[.val (.int x0), .val (.int x1), .val (.int x2), .val (.int x3), .val (.int x4), .val (.ref b), .val (.int s0), .val (.int s1), .val (.int s2), .val (.int (1 : Int32)), .val (.ref a), .val (.int w0)] [(.int (1 : Int32))])) _
      refine XS.iconst X14.here hx rfl (hb hby at_202) ?_
      show Steps p.tables e below (T14.setTop (mkF m 203 #[.val (.int x0), .val (.int x1), .val (.int x2), .val (.int x3), .val (.int x4), .val (.ref b), .val (.int s0), .val (.int s1), .val (.int s2), .val (.int (1 : Int32)), .val (.ref a), .val (.int w0)] [(.int (3 : Int32)), (.int (1 : Int32))])) _
      refine XS.icmpYes X14.here hx rfl (pc0 := 203) (pc' := 217) rfl (hb hby at_203) rfl (tlt (by decide)).1 (by decide) (by decide) ?_
      show Steps p.tables e below (T14.setTop (mkF m 217 #[.val (.int x0), .val (.int x1), .val (.int x2), .val (.int x3), .val (.int x4), .val (.ref b), .val (.int s0), .val (.int s1), .val (.int s2), .val (.int (1 : Int32)), .val (.ref a), .val (.int w0)] [])) _
      refine XS.aload X14.here hx rfl (hb hby at_217) rfl rfl ?_
      show Steps p.tables e below (T14.setTop (mkF m 219 #[.val (.int x0), .val (.int x1), .val (.int x2), .val (.int x3), .val (.int x4), .val (.ref b), .val (.int s0), .val (.int s1), .val (.int s2), .val (.int (1 : Int32)), .val (.ref a), .val (.int w0)] [(.ref a)])) _
      refine XS.aload X14.here hx rfl (hb hby at_219) rfl rfl ?_
      show Steps p.tables e below (T14.setTop (mkF m 221 #[.val (.int x0), .val (.int x1), .val (.int x2), .val (.int x3), .val (.int x4), .val (.ref b), .val (.int s0), .val (.int s1), .val (.int s2), .val (.int (1 : Int32)), .val (.ref a), .val (.int w0)] [(.ref b), (.ref a)])) _
      exact kt
    obtain ⟨cc, hcc⟩ : ∃ z : Nat → Int32, z = fun k => own_bs y1 y2 y3 y4 (own_pick s0 s1 s2 k).toNatClampNeg := ⟨_, rfl⟩
    have hprem : ∀ k, k < (1 : Int32).toNatClampNeg → ∃ j : Int32, (fun jj => if jj = ((0 : Int32)).toNatClampNeg then (Value.int s0) else (fun _ => (Value.int (0 : Int32))) jj) k = .int j ∧ (¬ j < 0 ∧ j < 4) ∧ (fun i => Value.int (own_bs y1 y2 y3 y4 i)) j.toNatClampNeg = .int (cc k) := by
      intro k hk
      have hk' : k < 1 := hk
      rw [hcc]
      have hk3 : k = 0 := by omega
      rcases hk3 with rfl
      · exact ⟨s0, rfl, hin_s0, rfl⟩
    obtain ⟨_, _, ⟨T16, L16, k16, n16⟩, -, X16, ⟨Lc16, hQ16, l16, y16, z16⟩, st16⟩ := Jvm.LawKit.callS X14 hx (y := (⟨"com/example/kontroller/kontroller/synthesis/StateGraph", "any", "([I[Z)Z"⟩ : MethodName)) hown (mvT hZ (hw _ (List.mem_of_getElem? (i := 2) rfl))) (mvT hZ (hw _ (List.mem_of_getElem? (i := 3) rfl))) (mvT hZ (hw _ (List.mem_of_getElem? (i := 4) rfl))) (mvT hZ (hw _ (List.mem_of_getElem? (i := 5) rfl))) (by decide) (backOf (W := 0) (rm1 l Z a0 hw [] a b (1 : Int32) (4 : Int32) (fun jj => if jj = ((0 : Int32)).toNatClampNeg then (Value.int s0) else (fun _ => (Value.int (0 : Int32))) jj) (fun i => Value.int (own_bs y1 y2 y3 y4 i)) cc h14 n0 Z14 V_a V_b hprem) hZ (hw _ (List.mem_of_getElem? (i := 5) rfl)) (hw _ (List.mem_of_getElem? (i := 4) rfl)) (by decide) (by decide)) (g := (mkF m 221 #[.val (.int x0), .val (.int x1), .val (.int x2), .val (.int x3), .val (.int x4), .val (.ref b), .val (.int s0), .val (.int s1), .val (.int s2), .val (.int (1 : Int32)), .val (.ref a), .val (.int w0)] [(.ref b), (.ref a)])) rfl (by rw [hml]; rfl) (argsL := [(.ref a), (.ref b)]) (rest := []) (lenOf pd_0 rfl) rfl (by show 2 * 0 + _ ≤ _; exact Nat.le_of_eq rfl) (hb hby at_221) (fun _ _ => ⟨rfl, e14, (by decide : 2 + 0 ≤ _), (by decide : 5 + 0 ≤ _)⟩)
    dsimp only [Pt.U, Pt.locs, Pt.cells, Pt.slots] at X16 l16 y16 z16 st16 hQ16
    subst l16 y16 z16
    obtain ⟨rfl, N16q, e16⟩ := hQ16
    have N16 := Fr.app N14 N16q
    refine RunsTo.of (T' := T16) (g' := (mkF m 224 #[.val (.int x0), .val (.int x1), .val (.int x2), .val (.int x3), .val (.int x4), .val (.ref b), .val (.int s0), .val (.int s1), .val (.int s2), .val (.int (1 : Int32)), .val (.ref a), .val (.int w0)] [(.int (nar .boolean (own_any cc (1 : Int32).toNatClampNeg)))])) st16 ?_
    refine RunsTo.of (T' := T16) (g' := (mkF m 226 #[.val (.int x0), .val (.int x1), .val (.int x2), .val (.int x3), .val (.int x4), .val (.ref b), .val (.int s0), .val (.int s1), .val (.int s2), .val (.int (1 : Int32)), .val (.ref a), .val (.int w0)] [(.int w0), (.int (nar .boolean (own_any cc (1 : Int32).toNatClampNeg)))])) (fun tgt_ kt => ?_) ?_
    · refine XS.iload X16.here hx rfl (hb hby at_224) rfl ?_
      show Steps p.tables e below (T16.setTop (mkF m 226 #[.val (.int x0), .val (.int x1), .val (.int x2), .val (.int x3), .val (.int x4), .val (.ref b), .val (.int s0), .val (.int s1), .val (.int s2), .val (.int (1 : Int32)), .val (.ref a), .val (.int w0)] [(.int w0), (.int (nar .boolean (own_any cc (1 : Int32).toNatClampNeg)))])) _
      exact kt
    have hlaw : nar .boolean (own_any cc (1 : Int32).toNatClampNeg) = w0 := by
      have c0 : cc 0 = own_bs y1 y2 y3 y4 s0.toNatClampNeg := by rw [hcc]; rfl
      have c1 : cc 1 = own_bs y1 y2 y3 y4 s1.toNatClampNeg := by rw [hcc]; rfl
      have c2 : cc 2 = own_bs y1 y2 y3 y4 s2.toNatClampNeg := by rw [hcc]; rfl
      have d0 := own_b01 y1 y2 y3 y4 s0.toNatClampNeg
      have d1 := own_b01 y1 y2 y3 y4 s1.toNatClampNeg
      have d2 := own_b01 y1 y2 y3 y4 s2.toNatClampNeg
      rw [← c0] at d0 hw0
      rw [← c1] at d1
      rw [← c2] at d2
      show nar .boolean (own_any cc 1) = _
      rw [hw0]
      clear hcc hprem
      rcases d0 with d0 | d0 <;> rcases d1 with d1 | d1 <;> rcases d2 with d2 | d2 <;> simp [own_any, d0, d1, d2] <;> decide
    refine RunsTo.of (T' := T16) (g' := (mkF m 234 #[.val (.int x0), .val (.int x1), .val (.int x2), .val (.int x3), .val (.int x4), .val (.ref b), .val (.int s0), .val (.int s1), .val (.int s2), .val (.int (1 : Int32)), .val (.ref a), .val (.int w0)] [(.int (1 : Int32))])) (fun tgt_ kt => ?_) ?_
    · refine XS.icmpNo X16.here hx rfl (hb hby at_226) rfl (teq hlaw).2 ?_
      show Steps p.tables e below (T16.setTop (mkF m 229 #[.val (.int x0), .val (.int x1), .val (.int x2), .val (.int x3), .val (.int x4), .val (.ref b), .val (.int s0), .val (.int s1), .val (.int s2), .val (.int (1 : Int32)), .val (.ref a), .val (.int w0)] [])) _
      refine XS.iconst X16.here hx rfl (hb hby at_229) ?_
      show Steps p.tables e below (T16.setTop (mkF m 230 #[.val (.int x0), .val (.int x1), .val (.int x2), .val (.int x3), .val (.int x4), .val (.ref b), .val (.int s0), .val (.int s1), .val (.int s2), .val (.int (1 : Int32)), .val (.ref a), .val (.int w0)] [(.int (1 : Int32))])) _
      refine XS.goto X16.here hx rfl (pc0 := 230) (pc' := 234) rfl (hb hby at_230) (by decide) (by decide) ?_
      show Steps p.tables e below (T16.setTop (mkF m 234 #[.val (.int x0), .val (.int x1), .val (.int x2), .val (.int x3), .val (.int x4), .val (.ref b), .val (.int s0), .val (.int s1), .val (.int s2), .val (.int (1 : Int32)), .val (.ref a), .val (.int w0)] [(.int (1 : Int32))])) _
      exact kt
    refine RunsTo.retN X16 hx (t := .boolean) Bd.returns (by simp) Bd.notSynchronized (hb hby at_234) ?_ (by decide) (by decide)
    rw [e16]
    exact ⟨rfl, N16⟩
  · refine RunsTo.of (T' := T9) (g' := (mkF m 126 #[.val (.int x0), .val (.int x1), .val (.int x2), .val (.int x3), .val (.int x4), .val (.ref b), .val (.int s0), .val (.int s1), .val (.int s2), .val (.int (2 : Int32)), .unset, .unset] [(.int (2 : Int32))])) (fun tgt_ kt => ?_) ?_
    · refine XS.iload X9.here hx rfl (hb hby at_87) rfl ?_
      show Steps p.tables e below (T9.setTop (mkF m 89 #[.val (.int x0), .val (.int x1), .val (.int x2), .val (.int x3), .val (.int x4), .val (.ref b), .val (.int s0), .val (.int s1), .val (.int s2), .val (.int (2 : Int32)), .unset, .unset] [(.int (2 : Int32))])) _
      refine XS.ifYes X9.here hx rfl (pc0 := 89) (pc' := 100) rfl (hb hby at_89) rfl ((if0 _ _).trans (feq (by decide)).2) (by decide) (by decide) ?_
      show Steps p.tables e below (T9.setTop (mkF m 100 #[.val (.int x0), .val (.int x1), .val (.int x2), .val (.int x3), .val (.int x4), .val (.ref b), .val (.int s0), .val (.int s1), .val (.int s2), .val (.int (2 : Int32)), .unset, .unset] [])) _
      refine XS.iload X9.here hx rfl (hb hby at_100) rfl ?_
      show Steps p.tables e below (T9.setTop (mkF m 102 #[.val (.int x0), .val (.int x1), .val (.int x2), .val (.int x3), .val (.int x4), .val (.ref b), .val (.int s0), .val (.int s1), .val (.int s2), .val (.int (2 : Int32)), .unset, .unset] [(.int (2 : Int32))])) _
      refine XS.iconst X9.here hx rfl (hb hby at_102) ?_
      show Steps p.tables e below (T9.setTop (mkF m 103 #[.val (.int x0), .val (.int x1), .val (.int x2), .val (.int x3), .val (.int x4), .val (.ref b), .val (.int s0), .val (.int s1), .val (.int s2), .val (.int (2 : Int32)), .unset, .unset] [(.int (1 : Int32)), (.int (2 : Int32))])) _
      refine XS.icmpYes X9.here hx rfl (pc0 := 103) (pc' := 119) rfl (hb hby at_103) rfl (feq (by decide)).2 (by decide) (by decide) ?_
      show Steps p.tables e below (T9.setTop (mkF m 119 #[.val (.int x0), .val (.int x1), .val (.int x2), .val (.int x3), .val (.int x4), .val (.ref b), .val (.int s0), .val (.int s1), .val (.int s2), .val (.int (2 : Int32)), .unset, .unset] [])) _
      refine XS.iload X9.here hx rfl (hb hby at_119) rfl ?_
      show Steps p.tables e below (T9.setTop (mkF m 121 #[.val (.int x0), .val (.int x1), .val (.int x2), .val (.int x3), .val (.int x4), .val (.ref b), .val (.int s0), .val (.int s1), .val (.int s2), .val (.int (2 : Int32)), .unset, .unset] [(.int (2 : Int32))])) _
      refine XS.iconst X9.here hx rfl (hb hby at_121) ?_
      show Steps p.tables e below (T9.setTop (mkF m 122 #[.val (.int x0), .val (.int x1), .val (.int x2), .val (.int x3), .val (.int x4), .val (.ref b), .val (.int s0), .val (.int s1), .val (.int s2), .val (.int (2 : Int32)), .unset, .unset] [(.int (2 : Int32)), (.int (2 : Int32))])) _
      refine XS.icmpNo X9.here hx rfl (hb hby at_122) rfl (teq rfl).2 ?_
      show Steps p.tables e below (T9.setTop (mkF m 125 #[.val (.int x0), .val (.int x1), .val (.int x2), .val (.int x3), .val (.int x4), .val (.ref b), .val (.int s0), .val (.int s1), .val (.int s2), .val (.int (2 : Int32)), .unset, .unset] [])) _
      refine XS.iconst X9.here hx rfl (hb hby at_125) ?_
      show Steps p.tables e below (T9.setTop (mkF m 126 #[.val (.int x0), .val (.int x1), .val (.int x2), .val (.int x3), .val (.int x4), .val (.ref b), .val (.int s0), .val (.int s1), .val (.int s2), .val (.int (2 : Int32)), .unset, .unset] [(.int (2 : Int32))])) _
      exact kt
    obtain ⟨T17, h17, k17, X17, e17, E17, A17, st17⟩ := newP X9 hx hZ (hw _ (List.mem_of_getElem? (i := 1) rfl)) e9 (g := (mkF m 126 #[.val (.int x0), .val (.int x1), .val (.int x2), .val (.int x3), .val (.int x4), .val (.ref b), .val (.int s0), .val (.int s1), .val (.int s2), .val (.int (2 : Int32)), .unset, .unset] [(.int (2 : Int32))])) rfl (hb hby at_126) rfl (by decide) (cap := 2) (by decide) (by decide) (by decide) (by decide)
    obtain ⟨a, g17⟩ : ∃ z, z = h9.size := ⟨_, rfl⟩
    rw [← g17] at A17 st17
    have Z17 : n0 ≤ h17.size := Nat.le_trans Z9 E17.1
    have g_a : n0 ≤ a := Nat.le_trans Z9 (Nat.le_of_eq g17.symm)
    have ne_b_a : b ≠ a := Nat.ne_of_lt (Nat.lt_of_lt_of_le V_b.lt (Nat.le_of_eq g17.symm))
    have V_b := V_b.ext E17
    have V_a : Arf Z h17 a .int (2 : Int32) (fun _ => (Value.int (0 : Int32))) := Arf.new A17 (by decide)
    refine RunsTo.of (T' := T17) (g' := (mkF m 128 #[.val (.int x0), .val (.int x1), .val (.int x2), .val (.int x3), .val (.int x4), .val (.ref b), .val (.int s0), .val (.int s1), .val (.int s2), .val (.int (2 : Int32)), .unset, .unset] [(.ref a)])) st17 ?_
    refine RunsTo.of (T' := T17) (g' := (mkF m 132 #[.val (.int x0), .val (.int x1), .val (.int x2), .val (.int x3), .val (.int x4), .val (.ref b), .val (.int s0), .val (.int s1), .val (.int s2), .val (.int (2 : Int32)), .unset, .unset] [(.int s0), (.int (0 : Int32)), (.ref a), (.ref a)])) (fun tgt_ kt => ?_) ?_
    · refine XS.dup X17.here hx rfl (hb hby at_128) rfl rfl ?_
      show Steps p.tables e below (T17.setTop (mkF m 129 #[.val (.int x0), .val (.int x1), .val (.int x2), .val (.int x3), .val (.int x4), .val (.ref b), .val (.int s0), .val (.int s1), .val (.int s2), .val (.int (2 : Int32)), .unset, .unset] [(.ref a), (.ref a)])) _
      refine XS.iconst X17.here hx rfl (hb hby at_129) ?_
      show Steps p.tables e below (T17.setTop (mkF m 130 #[.val (.int x0), .val (.int x1), .val (.int x2), .val (.int x3), .val (.int x4), .val (.ref b), .val (.int s0), .val (.int s1), .val (.int s2), .val (.int (2 : Int32)), .unset, .unset] [(.int (0 : Int32)), (.ref a), (.ref a)])) _
      refine XS.iload X17.here hx rfl (hb hby at_130) rfl ?_
      show Steps p.tables e below (T17.setTop (mkF m 132 #[.val (.int x0), .val (.int x1), .val (.int x2), .val (.int x3), .val (.int x4), .val (.ref b), .val (.int s0), .val (.int s1), .val (.int s2), .val (.int (2 : Int32)), .unset, .unset] [(.int s0), (.int (0 : Int32)), (.ref a), (.ref a)])) _
      exact kt
    obtain ⟨cl_a_18, Ar_a_18, S_a_18, M_a_18, H_a_18⟩ := id V_a
    have hin_a_18 : ¬ ((0 : Int32) < 0 ∨ cl_a_18.slots.size ≤ ((0 : Int32)).toNatClampNeg) := inb_of S_a_18 ⟨by decide, by decide⟩
    obtain ⟨T19, h19, X19, e19, W19, st19⟩ := stI X17 hx hZ e17 Ar_a_18 (j := (0 : Int32)) hin_a_18 (g := (mkF m 132 #[.val (.int x0), .val (.int x1), .val (.int x2), .val (.int x3), .val (.int x4), .val (.ref b), .val (.int s0), .val (.int s1), .val (.int s2), .val (.int (2 : Int32)), .unset, .unset] [(.int s0), (.int (0 : Int32)), (.ref a), (.ref a)])) rfl rfl (hb hby at_132)
    have N19 := Fr.snoc X19 N9 g_a
    have Z19 : n0 ≤ h19.size := Nat.le_trans Z17 (Nat.le_of_eq W19.size.symm)
    have V_a : Arf Z h19 a .int (2 : Int32) (fun jj => if jj = ((0 : Int32)).toNatClampNeg then (Value.int s0) else (fun _ => (Value.int (0 : Int32))) jj) := Arf.set Ar_a_18 S_a_18 M_a_18 H_a_18 W19
    have V_b := V_b.other W19 ne_b_a
    refine RunsTo.of (T' := T19) (g' := (mkF m 133 #[.val (.int x0), .val (.int x1), .val (.int x2), .val (.int x3), .val (.int x4), .val (.ref b), .val (.int s0), .val (.int s1), .val (.int s2), .val (.int (2 : Int32)), .unset, .unset] [(.ref a)])) st19 ?_
    refine RunsTo.of (T' := T19) (g' := (mkF m 137 #[.val (.int x0), .val (.int x1), .val (.int x2), .val (.int x3), .val (.int x4), .val (.ref b), .val (.int s0), .val (.int s1), .val (.int s2), .val (.int (2 : Int32)), .unset, .unset] [(.int s1), (.int (1 : Int32)), (.ref a), (.ref a)])) (fun tgt_ kt => ?_) ?_
    · refine XS.dup X19.here hx rfl (hb hby at_133) rfl rfl ?_
      show Steps p.tables e below (T19.setTop (mkF m 134 #[.val (.int x0), .val (.int x1), .val (.int x2), .val (.int x3), .val (.int x4), .val (.ref b), .val (.int s0), .val (.int s1), .val (.int s2), .val (.int (2 : Int32)), .unset, .unset] [(.ref a), (.ref a)])) _
      refine XS.iconst X19.here hx rfl (hb hby at_134) ?_
      show Steps p.tables e below (T19.setTop (mkF m 135 #[.val (.int x0), .val (.int x1), .val (.int x2), .val (.int x3), .val (.int x4), .val (.ref b), .val (.int s0), .val (.int s1), .val (.int s2), .val (.int (2 : Int32)), .unset, .unset] [(.int (1 : Int32)), (.ref a), (.ref a)])) _
      refine XS.iload X19.here hx rfl (hb hby at_135) rfl ?_
      show Steps p.tables e below (T19.setTop (mkF m 137 #[.val (.int x0), .val (.int x1), .val (.int x2), .val (.int x3), .val (.int x4), .val (.ref b), .val (.int s0), .val (.int s1), .val (.int s2), .val (.int (2 : Int32)), .unset, .unset] [(.int s1), (.int (1 : Int32)), (.ref a), (.ref a)])) _
      exact kt
    obtain ⟨cl_a_20, Ar_a_20, S_a_20, M_a_20, H_a_20⟩ := id V_a
    have hin_a_20 : ¬ ((1 : Int32) < 0 ∨ cl_a_20.slots.size ≤ ((1 : Int32)).toNatClampNeg) := inb_of S_a_20 ⟨by decide, by decide⟩
    obtain ⟨T21, h21, X21, e21, W21, st21⟩ := stI X19 hx hZ e19 Ar_a_20 (j := (1 : Int32)) hin_a_20 (g := (mkF m 137 #[.val (.int x0), .val (.int x1), .val (.int x2), .val (.int x3), .val (.int x4), .val (.ref b), .val (.int s0), .val (.int s1), .val (.int s2), .val (.int (2 : Int32)), .unset, .unset] [(.int s1), (.int (1 : Int32)), (.ref a), (.ref a)])) rfl rfl (hb hby at_137)
    have N21 := Fr.snoc X21 N19 g_a
    have Z21 : n0 ≤ h21.size := Nat.le_trans Z19 (Nat.le_of_eq W21.size.symm)
    have V_a : Arf Z h21 a .int (2 : Int32) (fun jj => if jj = ((1 : Int32)).toNatClampNeg then (Value.int s1) else (fun jj => if jj = ((0 : Int32)).toNatClampNeg then (Value.int s0) else (fun _ => (Value.int (0 : Int32))) jj) jj) := Arf.set Ar_a_20 S_a_20 M_a_20 H_a_20 W21
    have V_b := V_b.other W21 ne_b_a
    refine RunsTo.of (T' := T21) (g' := (mkF m 138 #[.val (.int x0), .val (.int x1), .val (.int x2), .val (.int x3), .val (.int x4), .val (.ref b), .val (.int s0), .val (.int s1), .val (.int s2), .val (.int (2 : Int32)), .unset, .unset] [(.ref a)])) st21 ?_
    refine RunsTo.of (T' := T21) (g' := (mkF m 176 #[.val (.int x0), .val (.int x1), .val (.int x2), .val (.int x3), .val (.int x4), .val (.ref b), .val (.int s0), .val (.int s1), .val (.int s2), .val (.int (2 : Int32)), .val (.ref a), .val (.int (0 : Int32))] [(.int s0), (.ref b)])) (fun tgt_ kt => ?_) ?_
    · refine XS.astore X21.here hx rfl (hb hby at_138) rfl rfl (l' := #[.val (.int x0), .val (.int x1), .val (.int x2), .val (.int x3), .val (.int x4), .val (.ref b), .val (.int s0), .val (.int s1), .val (.int s2), .val (.int (2 : Int32)), .val (.ref a), .unset]) rfl ?_
      show Steps p.tables e below (T21.setTop (mkF m 140 #[.val (.int x0), .val (.int x1), .val (.int x2), .val (.int x3), .val (.int x4), .val (.ref b), .val (.int s0), .val (.int s1), .val (.int s2), .val (.int (2 : Int32)), .val (.ref a), .unset] [])) _
      refine XS.goto X21.here hx rfl (pc0 := 140) (pc' := 163) rfl (hb hby at_140) (by decide) (by decide) ?_
      show Steps p.tables e below (T21.setTop (mkF m 163 #[.val (.int x0), .val (.int x1), .val (.int x2), .val (.int x3), .val (.int x4), .val (.ref b), .val (.int s0), .val (.int s1), .val (.int s2), .val (.int (2 : Int32)), .val (.ref a), .unset] [])) _
      refine XS.iconst X21.here hx rfl (hb hby at_163) ?_
      show Steps p.tables e below (T21.setTop (mkF m 164 #[.val (.int x0), .val (.int x1), .val (.int x2), .val (.int x3), .val (.int x4), .val (.ref b), .val (.int s0), .val (.int s1), .val (.int s2), .val (.int (2 : Int32)), .val (.ref a), .unset] [(.int (0 : Int32))])) _
      refine XS.istore X21.here hx rfl (hb hby at_164) rfl (l' := #[.val (.int x0), .val (.int x1), .val (.int x2), .val (.int x3), .val (.int x4), .val (.ref b), .val (.int s0), .val (.int s1), .val (.int s2), .val (.int (2 : Int32)), .val (.ref a), .val (.int (0 : Int32))]) rfl ?_
      show Steps p.tables e below (T21.setTop (mkF m 166 #[.val (.int x0), .val (.int x1), .val (.int x2), .val (.int x3), .val (.int x4), .val (.ref b), .val (.int s0), .val (.int s1), .val (.int s2), .val (.int (2 : Int32)), .val (.ref a), .val (.int (0 : Int32))] [])) _
      refine XS.iload X21.here hx rfl (hb hby at_166) rfl ?_
      show Steps p.tables e below (T21.setTop (mkF m 168 #[.val (.int x0), .val (.int x1), .val (.int x2), .val (.int x3), .val (.int x4), .val (.ref b), .val (.int s0), .val (.int s1), .val (.int s2), .val (.int (2 : Int32)), .val (.ref a), .val (.int (0 : Int32))] [(.int (2 : Int32))])) _
      refine XS.iconst X21.here hx rfl (hb hby at_168) ?_
      show Steps p.tables e below (T21.setTop (mkF m 169 #[.val (.int x0), .val (.int x1), .val (.int x2), .val (.int x3), .val (.int x4), .val (.ref b), .val (.int s0), .val (.int s1), .val (.int s2), .val (.int (2 : Int32)), .val (.ref a), .val (.int (0 : Int32))] [(.int (1 : Int32)), (.int (2 : Int32))])) _
      refine XS.icmpNo X21.here hx rfl (hb hby at_169) rfl (flt (by decide)).1 ?_
      show Steps p.tables e below (T21.setTop (mkF m 172 #[.val (.int x0), .val (.int x1), .val (.int x2), .val (.int x3), .val (.int x4), .val (.ref b), .val (.int s0), .val (.int s1), .val (.int s2), .val (.int (2 : Int32)), .val (.ref a), .val (.int (0 : Int32))] [])) _
      refine XS.aload X21.here hx rfl (hb hby at_172) rfl rfl ?_
      show Steps p.tables e below (T21.setTop (mkF m 174 #[.val (.int x0), .val (.int x1), .val (.int x2), .val (.int x3), .val (.int x4), .val (.ref b), .val (.int s0), .val (.int s1), .val (.int s2), .val (.int (2 : Int32)), .val (.ref a), .val (.int (0 : Int32))] [(.ref b)])) _
      refine XS.iload X21.here hx rfl (hb hby at_174) rfl ?_
      show Steps p.tables e below (T21.setTop (mkF m 176 #[.val (.int x0), .val (.int x1), .val (.int x2), .val (.int x3), .val (.int x4), .val (.ref b), .val (.int s0), .val (.int s1), .val (.int s2), .val (.int (2 : Int32)), .val (.ref a), .val (.int (0 : Int32))] [(.int s0), (.ref b)])) _
      exact kt
    obtain ⟨cl_b_22, Ar_b_22, S_b_22, M_b_22, H_b_22⟩ := id V_b
    have hin_b_22 : ¬ (s0 < 0 ∨ cl_b_22.slots.size ≤ (s0).toNatClampNeg) := inb_of S_b_22 hin_s0
    have hat_b_22 : cl_b_22.slots[(s0).toNatClampNeg]? = some (.int (own_bs y1 y2 y3 y4 s0.toNatClampNeg)) := (H_b_22 _ (Nat.lt_of_not_le fun y => hin_b_22 (Or.inr y))).trans (congrArg some rfl)
    refine RunsTo.of (T' := T21) (g' := (mkF m 177 #[.val (.int x0), .val (.int x1), .val (.int x2), .val (.int x3), .val (.int x4), .val (.ref b), .val (.int s0), .val (.int s1), .val (.int s2), .val (.int (2 : Int32)), .val (.ref a), .val (.int (0 : Int32))] [(.int (own_bs y1 y2 y3 y4 s0.toNatClampNeg))])) (fun tgt_ kt => ?_) ?_
    · refine X21.baloadBooleans hx (j := s0) (v := (.int (own_bs y1 y2 y3 y4 s0.toNatClampNeg))) (by rw [e21]; exact Ar_b_22.1) (State.isArrayOf_alike hZ.alike Ar_b_22.2.1) Ar_b_22.2.2 hin_b_22 hat_b_22 (g := (mkF m 176 #[.val (.int x0), .val (.int x1), .val (.int x2), .val (.int x3), .val (.int x4), .val (.ref b), .val (.int s0), .val (.int s1), .val (.int s2), .val (.int (2 : Int32)), .val (.ref a), .val (.int (0 : Int32))] [(.int s0), (.ref b)])) rfl rfl (hb hby at_176) _ ?_
      show Steps p.tables e below (T21.setTop (mkF m 177 #[.val (.int x0), .val (.int x1), .val (.int x2), .val (.int x3), .val (.int x4), .val (.ref b), .val (.int s0), .val (.int s1), .val (.int s2), .val (.int (2 : Int32)), .val (.ref a), .val (.int (0 : Int32))] [(.int (own_bs y1 y2 y3 y4 s0.toNatClampNeg))])) _
      exact kt
    obtain ⟨w0, hw0⟩ : ∃ z : Int32, z = (if (own_bs y1 y2 y3 y4 s0.toNatClampNeg) = (0 : Int32) then (0 : Int32) else (1 : Int32)) := ⟨_, rfl⟩
    refine RunsTo.of (T' := T21) (g' := (mkF m 183 #[.val (.int x0), .val (.int x1), .val (.int x2), .val (.int x3), .val (.int x4), .val (.ref b), .val (.int s0), .val (.int s1), .val (.int s2), .val (.int (2 : Int32)), .val (.ref a), .val (.int w0)] [])) (fun tgt_ kt => ?_) ?_
    · by_cases hc177e0 : (own_bs y1 y2 y3 y4 s0.toNatClampNeg) = (0 : Int32)
      · refine XS.ifYes X21.here hx rfl (pc0 := 177) (pc' := 183) rfl (hb hby at_177) rfl ((if0 _ _).trans (teq hc177e0).1) (by decide) (by decide) ?_
        show Steps p.tables e below (T21.setTop (mkF m 183 #[.val (.int x0), .val (.int x1), .val (.int x2), .val (.int x3), .val (.int x4), .val (.ref b), .val (.int s0), .val (.int s1), .val (.int s2), .val (.int (2 : Int32)), .val (.ref a), .val (.int (0 : Int32))] [])) _
        try rw [if_pos hc177e0] at hw0
        rw [hw0] at kt
        exact kt
      · refine XS.ifNo X21.here hx rfl (hb hby at_177) rfl ((if0 _ _).trans (feq hc177e0).1) ?_
        show Steps p.tables e below (T21.setTop (mkF m 180 #[.val (.int x0), .val (.int x1), .val (.int x2), .val (.int x3), .val (.int x4), .val (.ref b), .val (.int s0), .val (.int s1), .val (.int s2), .val (.int (2 : Int32)), .val (.ref a), .val (.int (0 : Int32))] [])) _
        try rw [if_neg hc177e0] at hw0
        rw [hw0] at kt
        refine XS.iconst X21.here hx rfl (hb hby at_180) ?_
        show Steps p.tables e below (T21.setTop (mkF m 181 #[.val (.int x0), .val (.int x1), .val (.int x2), .val (.int x3), .val (.int x4), .val (.ref b), .val (.int s0), .val (.int s1), .val (.int s2), .val (.int (2 : Int32)), .val (.ref a), .val (.int (0 : Int32))] [(.int (1 : Int32))])) _
        refine XS.istore X21.here hx rfl (hb hby at_181) rfl (l' := #[.val (.int x0), .val (.int x1), .val (.int x2), .val (.int x3), .val (.int x4), .val (.ref b), .val (.int s0), .val (.int s1), .val (.int s2), .val (.int (2 : Int32)), .val (.ref a), .val (.int (1 : Int32))]) rfl ?_
        show Steps p.tables e below (T21.setTop (mkF m 183 #[.val (.int x0), .val (.int x1), .val (.int x2), .val (.int x3), .val (.int x4), .val (.ref b), .val (.int s0), .val (.int s1), .val (.int s2), .val (.int (2 : Int32)), .val (.ref a), .val (.int (1 : Int32))] [])) _
        exact kt
    refine RunsTo.of (T' := T21) (g' := (mkF m 193 #[.val (.int x0), .val (.int x1), .val (.int x2), .val (.int x3), .val (.int x4), .val (.ref b), .val (.int s0), .val (.int s1), .val (.int s2), .val (.int (2 : Int32)), .val (.ref a), .val (.int w0)] [(.int s1), (.ref b)])) (fun tgt_ kt => ?_) ?_
    · refine XS.iload X21.here hx rfl (hb hby at_183) rfl ?_
      show Steps p.tables e below (T21.setTop (mkF m 185 #[.val (.int x0), .val (.int x1), .val (.int x2), .val (.int x3), .val (.int x4), .val (.ref b), .val (.int s0), .val (.int s1), .val (.int s2), .val (.int (2 : Int32)), .val (.ref a), .val (.int w0)] [(.int (2 : Int32))])) _
      refine XS.iconst X21.here hx rfl (hb hby at_185) ?_
      show Steps p.tables e below (T21.setTop (mkF m 186 #[.val (.int x0), .val (.int x1), .val (.int x2), .val (.int x3), .val (.int x4), .val (.ref b), .val (.int s0), .val (.int s1), .val (.int s2), .val (.int (2 : Int32)), .val (.ref a), .val (.int w0)] [(.int (2 : Int32)), (.int (2 : Int32))])) _
      refine XS.icmpNo X21.here hx rfl (hb hby at_186) rfl (flt (by decide)).1 ?_
      show Steps p.tables e below (T21.setTop (mkF m 189 #[.val (.int x0), .val (.int x1), .val (.int x2), .val (.int x3), .val (.int x4), .val (.ref b), .val (.int s0), .val (.int s1), .val (.int s2), .val (.int (2 : Int32)), .val (.ref a), .val (.int w0)] [])) _
      refine XS.aload X21.here hx rfl (hb hby at_189) rfl rfl ?_
      show Steps p.tables e below (T21.setTop (mkF m 191 #[.val (.int x0), .val (.int x1), .val (.int x2), .val (.int x3), .val (.int x4), .val (.ref b), .val (.int s0), .val (.int s1), .val (.int s2), .val (.int (2 : Int32)), .val (.ref a), .val (.int w0)] [(.ref b)])) _
      refine XS.iload X21.here hx rfl (hb hby at_191) rfl ?_
      show Steps p.tables e below (T21.setTop (mkF m 193 #[.val (.int x0), .val (.int x1), .val (.int x2), .val (.int x3), .val (.int x4), .val (.ref b), .val (.int s0), .val (.int s1), .val (.int s2), .val (.int (2 : Int32)), .val (.ref a), .val (.int w0)] [(.int s1), (.ref b)])) _
      exact kt
    obtain ⟨cl_b_23, Ar_b_23, S_b_23, M_b_23, H_b_23⟩ := id V_b
    have hin_b_23 : ¬ (s1 < 0 ∨ cl_b_23.slots.size ≤ (s1).toNatClampNeg) := inb_of S_b_23 hin_s1
    have hat_b_23 : cl_b_23.slots[(s1).toNatClampNeg]? = some (.int (own_bs y1 y2 y3 y4 s1.toNatClampNeg)) := (H_b_23 _ (Nat.lt_of_not_le fun y => hin_b_23 (Or.inr y))).trans (congrArg some rfl)
    refine RunsTo.of (T' := T21) (g' := (mkF m 194 #[.val (.int x0), .val (.int x1), .val (.int x2), .val (.int x3), .val (.int x4), .val (.ref b), .val (.int s0), .val (.int s1), .val (.int s2), .val (.int (2 : Int32)), .val (.ref a), .val (.int w0)] [(.int (own_bs y1 y2 y3 y4 s1.toNatClampNeg))])) (fun tgt_ kt => ?_) ?_
    · refine X21.baloadBooleans hx (j := s1) (v := (.int (own_bs y1 y2 y3 y4 s1.toNatClampNeg))) (by rw [e21]; exact Ar_b_23.1) (State.isArrayOf_alike hZ.alike Ar_b_23.2.1) Ar_b_23.2.2 hin_b_23 hat_b_23 (g := (mkF m 193 #[.val (.int x0), .val (.int x1), .val (.int x2), .val (.int x3), .val (.int x4), .val (.ref b), .val (.int s0), .val (.int s1), .val (.int s2), .val (.int (2 : Int32)), .val (.ref a), .val (.int w0)] [(.int s1), (.ref b)])) rfl rfl (hb hby at_193) _ ?_
      show Steps p.tables e below (T21.setTop (mkF m 194 #[.val (.int x0), .val (.int x1), .val (.int x2), .val (.int x3), .val (.int x4), .val (.ref b), .val (.int s0), .val (.int s1), .val (.int s2), .val (.int (2 : Int32)), .val (.ref a), .val (.int w0)] [(.int (own_bs y1 y2 y3 y4 s1.toNatClampNeg))])) _
      exact kt
    obtain ⟨w1, hw1⟩ : ∃ z : Int32, z = (if (own_bs y1 y2 y3 y4 s1.toNatClampNeg) = (0 : Int32) then w0 else (1 : Int32)) := ⟨_, rfl⟩
    refine RunsTo.of (T' := T21) (g' := (mkF m 200 #[.val (.int x0), .val (.int x1), .val (.int x2), .val (.int x3), .val (.int x4), .val (.ref b), .val (.int s0), .val (.int s1), .val (.int s2), .val (.int (2 : Int32)), .val (.ref a), .val (.int w1)] [])) (fun tgt_ kt => ?_) ?_
    · by_cases hc194e1 : (own_bs y1 y2 y3 y4 s1.toNatClampNeg) = (0 : Int32)
      · refine XS.ifYes X21.here hx rfl (pc0 := 194) (pc' := 200) rfl (hb hby at_194) rfl ((if0 _ _).trans (teq hc194e1).1) (by decide) (by decide) ?_
        show Steps p.tables e below (T21.setTop (mkF m 200 #[.val (.int x0), .val (.int x1), .val (.int x2), .val (.int x3), .val (.int x4), .val (.ref b), .val (.int s0), .val (.int s1), .val (.int s2), .val (.int (2 : Int32)), .val (.ref a), .val (.int w0)] [])) _
        try rw [if_pos hc194e1] at hw1
        rw [hw1] at kt
        exact kt
      · refine XS.ifNo X21.here hx rfl (hb hby at_194) rfl ((if0 _ _).trans (feq hc194e1).1) ?_
        show Steps p.tables e below (T21.setTop (mkF m 197 #[.val (.int x0), .val (.int x1), .val (.int x2), .val (.int x3), .val (.int x4), .val (.ref b), .val (.int s0), .val (.int s1), .val (.int s2), .val (.int (2 : Int32)), .val (.ref a), .val (.int w0)] [])) _
        try rw [if_neg hc194e1] at hw1
        rw [hw1] at kt
        refine XS.iconst X21.here hx rfl (hb hby at_197) ?_
        show Steps p.tables e below (T21.setTop (mkF m 198 #[.val (.int x0), .val (.int x1), .val (.int x2), .val (.int x3), .val (.int x4), .val (.ref b), .val (.int s0), .val (.int s1), .val (.int s2), .val (.int (2 : Int32)), .val (.ref a), .val (.int w0)] [(.int (1 : Int32))])) _
        refine XS.istore X21.here hx rfl (hb hby at_198) rfl (l' := #[.val (.int x0), .val (.int x1), .val (.int x2), .val (.int x3), .val (.int x4), .val (.ref b), .val (.int s0), .val (.int s1), .val (.int s2), .val (.int (2 : Int32)), .val (.ref a), .val (.int (1 : Int32))]) rfl ?_
        show Steps p.tables e below (T21.setTop (mkF m 200 #[.val (.int x0), .val (.int x1), .val (.int x2), .val (.int x3), .val (.int x4), .val (.ref b), .val (.int s0), .val (.int s1), .val (.int s2), .val (.int (2 : Int32)), .val (.ref a), .val (.int (1 : Int32))] [])) _
        exact kt
    refine RunsTo.of (T' := T21) (g' := (mkF m 221 #[.val (.int x0), .val (.int x1), .val (.int x2), .val (.int x3), .val (.int x4), .val (.ref b), .val (.int s0), .val (.int s1), .val (.int s2), .val (.int (2 : Int32)), .val (.ref a), .val (.int w1)] [(.ref b), (.ref a)])) (fun tgt_ kt => ?_) ?_
    · refine XS.iload X21.here hx rfl (hb hby at_200) rfl ?_
      show Steps p.tables e below (T21.setTop (mkF m 202 #[.val (.int x0), .val (.int x1), .val (.int x2), .val (.int x3), .val (.int x4), .val (.ref b), .val (.int s0), .val (.int s1), .val (.int s2), .val (.int (2 : Int32)), .val (.ref a), .val (.int w1)] [(.int (2 : Int32))])) _
      refine XS.iconst X21.here hx rfl (hb hby at_202) ?_
      show Steps p.tables e below (T21.setTop (mkF m 203 #[.val (.int x0), .val (.int x1), .val (.int x2), .val (.int x3), .val (.int x4), .val (.ref b), .val (.int s0), .val (.int s1), .val (.int s2), .val (.int (2 : Int32)), .val (.ref a), .val (.int w1)] [(.int (3 : Int32)), (.int (2 : Int32))])) _
      refine XS.icmpYes X21.here hx rfl (pc0 := 203) (pc' := 217) rfl (hb hby at_203) rfl (tlt (by decide)).1 (by decide) (by decide) ?_
      show Steps p.tables e below (T21.setTop (mkF m 217 #[.val (.int x0), .val (.int x1), .val (.int x2), .val (.int x3), .val (.int x4), .val (.ref b), .val (.int s0), .val (.int s1), .val (.int s2), .val (.int (2 : Int32)), .val (.ref a), .val (.int w1)] [])) _
      refine XS.aload X21.here hx rfl (hb hby at_217) rfl rfl ?_
      show Steps p.tables e below (T21.setTop (mkF m 219 #[.val (.int x0), .val (.int x1), .val (.int x2), .val (.int x3), .val (.int x4), .val (.ref b), .val (.int s0), .val (.int s1), .val (.int s2), .val (.int (2 : Int32)), .val (.ref a), .val (.int w1)] [(.ref a)])) _
      refine XS.aload X21.here hx rfl (hb hby at_219) rfl rfl ?_
      show Steps p.tables e below (T21.setTop (mkF m 221 #[.val (.int x0), .val (.int x1), .val (.int x2), .val (.int x3), .val (.int x4), .val (.ref b), .val (.int s0), .val (.int s1), .val (.int s2), .val (.int (2 : Int32)), .val (.ref a), .val (.int w1)] [(.ref b), (.ref a)])) _
      exact kt
    obtain ⟨cc, hcc⟩ : ∃ z : Nat → Int32, z = fun k => own_bs y1 y2 y3 y4 (own_pick s0 s1 s2 k).toNatClampNeg := ⟨_, rfl⟩
    have hprem : ∀ k, k < (2 : Int32).toNatClampNeg → ∃ j : Int32, (fun jj => if jj = ((1 : Int32)).toNatClampNeg then (Value.int s1) else (fun jj => if jj = ((0 : Int32)).toNatClampNeg then (Value.int s0) else (fun _ => (Value.int (0 : Int32))) jj) jj) k = .int j ∧ (¬ j < 0 ∧ j < 4) ∧ (fun i => Value.int (own_bs y1 y2 y3 y4 i)) j.toNatClampNeg = .int (cc k) := by
      intro k hk
      have hk' : k < 2 := hk
      rw [hcc]
      have hk3 : k = 0 ∨ k = 1 := by omega
      rcases hk3 with rfl | rfl
      · exact ⟨s0, rfl, hin_s0, rfl⟩
      · exact ⟨s1, rfl, hin_s1, rfl⟩
    obtain ⟨_, _, ⟨T24, L24, k24, n24⟩, -, X24, ⟨Lc24, hQ24, l24, y24, z24⟩, st24⟩ := Jvm.LawKit.callS X21 hx (y := (⟨"com/example/kontroller/kontroller/synthesis/StateGraph", "any", "([I[Z)Z"⟩ : MethodName)) hown (mvT hZ (hw _ (List.mem_of_getElem? (i := 2) rfl))) (mvT hZ (hw _ (List.mem_of_getElem? (i := 3) rfl))) (mvT hZ (hw _ (List.mem_of_getElem? (i := 4) rfl))) (mvT hZ (hw _ (List.mem_of_getElem? (i := 5) rfl))) (by decide) (backOf (W := 0) (rm1 l Z a0 hw [] a b (2 : Int32) (4 : Int32) (fun jj => if jj = ((1 : Int32)).toNatClampNeg then (Value.int s1) else (fun jj => if jj = ((0 : Int32)).toNatClampNeg then (Value.int s0) else (fun _ => (Value.int (0 : Int32))) jj) jj) (fun i => Value.int (own_bs y1 y2 y3 y4 i)) cc h21 n0 Z21 V_a V_b hprem) hZ (hw _ (List.mem_of_getElem? (i := 5) rfl)) (hw _ (List.mem_of_getElem? (i := 4) rfl)) (by decide) (by decide)) (g := (mkF m 221 #[.val (.int x0), .val (.int x1), .val (.int x2), .val (.int x3), .val (.int x4), .val (.ref b), .val (.int s0), .val (.int s1), .val (.int s2), .val (.int (2 : Int32)), .val (.ref a), .val (.int w1)] [(.ref b), (.ref a)])) rfl (by rw [hml]; rfl) (argsL := [(.ref a), (.ref b)]) (rest := []) (lenOf pd_0 rfl) rfl (by show 2 * 0 + _ ≤ _; exact Nat.le_of_eq rfl) (hb hby at_221) (fun _ _ => ⟨rfl, e21, (by decide : 2 + 0 ≤ _), (by decide : 6 + 0 ≤ _)⟩)
    dsimp only [Pt.U, Pt.locs, Pt.cells, Pt.slots] at X24 l24 y24 z24 st24 hQ24
    subst l24 y24 z24
    obtain ⟨rfl, N24q, e24⟩ := hQ24
    have N24 := Fr.app N21 N24q
    refine RunsTo.of (T' := T24) (g' := (mkF m 224 #[.val (.int x0), .val (.int x1), .val (.int x2), .val (.int x3), .val (.int x4), .val (.ref b), .val (.int s0), .val (.int s1), .val (.int s2), .val (.int (2 : Int32)), .val (.ref a), .val (.int w1)] [(.int (nar .boolean (own_any cc (2 : Int32).toNatClampNeg)))])) st24 ?_
    refine RunsTo.of (T' := T24) (g' := (mkF m 226 #[.val (.int x0), .val (.int x1), .val (.int x2), .val (.int x3), .val (.int x4), .val (.ref b), .val (.int s0), .val (.int s1), .val (.int s2), .val (.int (2 : Int32)), .val (.ref a), .val (.int w1)] [(.int w1), (.int (nar .boolean (own_any cc (2 : Int32).toNatClampNeg)))])) (fun tgt_ kt => ?_) ?_
    · refine XS.iload X24.here hx rfl (hb hby at_224) rfl ?_
      show Steps p.tables e below (T24.setTop (mkF m 226 #[.val (.int x0), .val (.int x1), .val (.int x2), .val (.int x3), .val (.int x4), .val (.ref b), .val (.int s0), .val (.int s1), .val (.int s2), .val (.int (2 : Int32)), .val (.ref a), .val (.int w1)] [(.int w1), (.int (nar .boolean (own_any cc (2 : Int32).toNatClampNeg)))])) _
      exact kt
    have hlaw : nar .boolean (own_any cc (2 : Int32).toNatClampNeg) = w1 := by
      have c0 : cc 0 = own_bs y1 y2 y3 y4 s0.toNatClampNeg := by rw [hcc]; rfl
      have c1 : cc 1 = own_bs y1 y2 y3 y4 s1.toNatClampNeg := by rw [hcc]; rfl
      have c2 : cc 2 = own_bs y1 y2 y3 y4 s2.toNatClampNeg := by rw [hcc]; rfl
      have d0 := own_b01 y1 y2 y3 y4 s0.toNatClampNeg
      have d1 := own_b01 y1 y2 y3 y4 s1.toNatClampNeg
      have d2 := own_b01 y1 y2 y3 y4 s2.toNatClampNeg
      rw [← c0] at d0 hw0
      rw [← c1] at d1 hw1
      rw [← c2] at d2
      show nar .boolean (own_any cc 2) = _
      rw [hw1, hw0]
      clear hcc hprem
      rcases d0 with d0 | d0 <;> rcases d1 with d1 | d1 <;> rcases d2 with d2 | d2 <;> simp [own_any, d0, d1, d2] <;> decide
    refine RunsTo.of (T' := T24) (g' := (mkF m 234 #[.val (.int x0), .val (.int x1), .val (.int x2), .val (.int x3), .val (.int x4), .val (.ref b), .val (.int s0), .val (.int s1), .val (.int s2), .val (.int (2 : Int32)), .val (.ref a), .val (.int w1)] [(.int (1 : Int32))])) (fun tgt_ kt => ?_) ?_
    · refine XS.icmpNo X24.here hx rfl (hb hby at_226) rfl (teq hlaw).2 ?_
      show Steps p.tables e below (T24.setTop (mkF m 229 #[.val (.int x0), .val (.int x1), .val (.int x2), .val (.int x3), .val (.int x4), .val (.ref b), .val (.int s0), .val (.int s1), .val (.int s2), .val (.int (2 : Int32)), .val (.ref a), .val (.int w1)] [])) _
      refine XS.iconst X24.here hx rfl (hb hby at_229) ?_
      show Steps p.tables e below (T24.setTop (mkF m 230 #[.val (.int x0), .val (.int x1), .val (.int x2), .val (.int x3), .val (.int x4), .val (.ref b), .val (.int s0), .val (.int s1), .val (.int s2), .val (.int (2 : Int32)), .val (.ref a), .val (.int w1)] [(.int (1 : Int32))])) _
      refine XS.goto X24.here hx rfl (pc0 := 230) (pc' := 234) rfl (hb hby at_230) (by decide) (by decide) ?_
      show Steps p.tables e below (T24.setTop (mkF m 234 #[.val (.int x0), .val (.int x1), .val (.int x2), .val (.int x3), .val (.int x4), .val (.ref b), .val (.int s0), .val (.int s1), .val (.int s2), .val (.int (2 : Int32)), .val (.ref a), .val (.int w1)] [(.int (1 : Int32))])) _
      exact kt
    refine RunsTo.retN X24 hx (t := .boolean) Bd.returns (by simp) Bd.notSynchronized (hb hby at_234) ?_ (by decide) (by decide)
    rw [e24]
    exact ⟨rfl, N24⟩
  · refine RunsTo.of (T' := T9) (g' := (mkF m 144 #[.val (.int x0), .val (.int x1), .val (.int x2), .val (.int x3), .val (.int x4), .val (.ref b), .val (.int s0), .val (.int s1), .val (.int s2), .val (.int (3 : Int32)), .unset, .unset] [(.int (3 : Int32))])) (fun tgt_ kt => ?_) ?_
    · refine XS.iload X9.here hx rfl (hb hby at_87) rfl ?_
      show Steps p.tables e below (T9.setTop (mkF m 89 #[.val (.int x0), .val (.int x1), .val (.int x2), .val (.int x3), .val (.int x4), .val (.ref b), .val (.int s0), .val (.int s1), .val (.int s2), .val (.int (3 : Int32)), .unset, .unset] [(.int (3 : Int32))])) _
      refine XS.ifYes X9.here hx rfl (pc0 := 89) (pc' := 100) rfl (hb hby at_89) rfl ((if0 _ _).trans (feq (by decide)).2) (by decide) (by decide) ?_
      show Steps p.tables e below (T9.setTop (mkF m 100 #[.val (.int x0), .val (.int x1), .val (.int x2), .val (.int x3), .val (.int x4), .val (.ref b), .val (.int s0), .val (.int s1), .val (.int s2), .val (.int (3 : Int32)), .unset, .unset] [])) _
      refine XS.iload X9.here hx rfl (hb hby at_100) rfl ?_
      show Steps p.tables e below (T9.setTop (mkF m 102 #[.val (.int x0), .val (.int x1), .val (.int x2), .val (.int x3), .val (.int x4), .val (.ref b), .val (.int s0), .val (.int s1), .val (.int s2), .val (.int (3 : Int32)), .unset, .unset] [(.int (3 : Int32))])) _
      refine XS.iconst X9.here hx rfl (hb hby at_102) ?_
      show Steps p.tables e below (T9.setTop (mkF m 103 #[.val (.int x0), .val (.int x1), .val (.int x2), .val (.int x3), .val (.int x4), .val (.ref b), .val (.int s0), .val (.int s1), .val (.int s2), .val (.int (3 : Int32)), .unset, .unset] [(.int (1 : Int32)), (.int (3 : Int32))])) _
      refine XS.icmpYes X9.here hx rfl (pc0 := 103) (pc' := 119) rfl (hb hby at_103) rfl (feq (by decide)).2 (by decide) (by decide) ?_
      show Steps p.tables e below (T9.setTop (mkF m 119 #[.val (.int x0), .val (.int x1), .val (.int x2), .val (.int x3), .val (.int x4), .val (.ref b), .val (.int s0), .val (.int s1), .val (.int s2), .val (.int (3 : Int32)), .unset, .unset] [])) _
      refine XS.iload X9.here hx rfl (hb hby at_119) rfl ?_
      show Steps p.tables e below (T9.setTop (mkF m 121 #[.val (.int x0), .val (.int x1), .val (.int x2), .val (.int x3), .val (.int x4), .val (.ref b), .val (.int s0), .val (.int s1), .val (.int s2), .val (.int (3 : Int32)), .unset, .unset] [(.int (3 : Int32))])) _
      refine XS.iconst X9.here hx rfl (hb hby at_121) ?_
      show Steps p.tables e below (T9.setTop (mkF m 122 #[.val (.int x0), .val (.int x1), .val (.int x2), .val (.int x3), .val (.int x4), .val (.ref b), .val (.int s0), .val (.int s1), .val (.int s2), .val (.int (3 : Int32)), .unset, .unset] [(.int (2 : Int32)), (.int (3 : Int32))])) _
      refine XS.icmpYes X9.here hx rfl (pc0 := 122) (pc' := 143) rfl (hb hby at_122) rfl (feq (by decide)).2 (by decide) (by decide) ?_
      show Steps p.tables e below (T9.setTop (mkF m 143 #[.val (.int x0), .val (.int x1), .val (.int x2), .val (.int x3), .val (.int x4), .val (.ref b), .val (.int s0), .val (.int s1), .val (.int s2), .val (.int (3 : Int32)), .unset, .unset] [])) _
      refine XS.iconst X9.here hx rfl (hb hby at_143) ?_
      show Steps p.tables e below (T9.setTop (mkF m 144 #[.val (.int x0), .val (.int x1), .val (.int x2), .val (.int x3), .val (.int x4), .val (.ref b), .val (.int s0), .val (.int s1), .val (.int s2), .val (.int (3 : Int32)), .unset, .unset] [(.int (3 : Int32))])) _
      exact kt
    obtain ⟨T25, h25, k25, X25, e25, E25, A25, st25⟩ := newP X9 hx hZ (hw _ (List.mem_of_getElem? (i := 1) rfl)) e9 (g := (mkF m 144 #[.val (.int x0), .val (.int x1), .val (.int x2), .val (.int x3), .val (.int x4), .val (.ref b), .val (.int s0), .val (.int s1), .val (.int s2), .val (.int (3 : Int32)), .unset, .unset] [(.int (3 : Int32))])) rfl (hb hby at_144) rfl (by decide) (cap := 3) (by decide) (by decide) (by decide) (by decide)
    obtain ⟨a, g25⟩ : ∃ z, z = h9.size := ⟨_, rfl⟩
    rw [← g25] at A25 st25
    have Z25 : n0 ≤ h25.size := Nat.le_trans Z9 E25.1
    have g_a : n0 ≤ a := Nat.le_trans Z9 (Nat.le_of_eq g25.symm)
    have ne_b_a : b ≠ a := Nat.ne_of_lt (Nat.lt_of_lt_of_le V_b.lt (Nat.le_of_eq g25.symm))
    have V_b := V_b.ext E25
    have V_a : Arf Z h25 a .int (3 : Int32) (fun _ => (Value.int (0 : Int32))) := Arf.new A25 (by decide)
    refine RunsTo.of (T' := T25) (g' := (mkF m 146 #[.val (.int x0), .val (.int x1), .val (.int x2), .val (.int x3), .val (.int x4), .val (.ref b), .val (.int s0), .val (.int s1), .val (.int s2), .val (.int (3 : Int32)), .unset, .unset] [(.ref a)])) st25 ?_
    refine RunsTo.of (T' := T25) (g' := (mkF m 150 #[.val (.int x0), .val (.int x1), .val (.int x2), .val (.int x3), .val (.int x4), .val (.ref b), .val (.int s0), .val (.int s1), .val (.int s2), .val (.int (3 : Int32)), .unset, .unset] [(.int s0), (.int (0 : Int32)), (.ref a), (.ref a)])) (fun tgt_ kt => ?_) ?_
    · refine XS.dup X25.here hx rfl (hb hby at_146) rfl rfl ?_
      show Steps p.tables e below (T25.setTop (mkF m 147 #[.val (.int x0), .val (.int x1), .val (.int x2), .val (.int x3), .val (.int x4), .val (.ref b), .val (.int s0), .val (.int s1), .val (.int s2), .val (.int (3 : Int32)), .unset, .unset] [(.ref a), (.ref a)])) _
      refine XS.iconst X25.here hx rfl (hb hby at_147) ?_
      show Steps p.tables e below (T25.setTop (mkF m 148 #[.val (.int x0), .val (.int x1), .val (.int x2), .val (.int x3), .val (.int x4), .val (.ref b), .val (.int s0), .val (.int s1), .val (.int s2), .val (.int (3 : Int32)), .unset, .unset] [(.int (0 : Int32)), (.ref a), (.ref a)])) _
      refine XS.iload X25.here hx rfl (hb hby at_148) rfl ?_
      show Steps p.tables e below (T25.setTop (mkF m 150 #[.val (.int x0), .val (.int x1), .val (.int x2), .val (.int x3), .val (.int x4), .val (.ref b), .val (.int s0), .val (.int s1), .val (.int s2), .val (.int (3 : Int32)), .unset, .unset] [(.int s0), (.int (0 : Int32)), (.ref a), (.ref a)])) _
      exact kt
    obtain ⟨cl_a_26, Ar_a_26, S_a_26, M_a_26, H_a_26⟩ := id V_a
    have hin_a_26 : ¬ ((0 : Int32) < 0 ∨ cl_a_26.slots.size ≤ ((0 : Int32)).toNatClampNeg) := inb_of S_a_26 ⟨by decide, by decide⟩
    obtain ⟨T27, h27, X27, e27, W27, st27⟩ := stI X25 hx hZ e25 Ar_a_26 (j := (0 : Int32)) hin_a_26 (g := (mkF m 150 #[.val (.int x0), .val (.int x1), .val (.int x2), .val (.int x3), .val (.int x4), .val (.ref b), .val (.int s0), .val (.int s1), .val (.int s2), .val (.int (3 : Int32)), .unset, .unset] [(.int s0), (.int (0 : Int32)), (.ref a), (.ref a)])) rfl rfl (hb hby at_150)
    have N27 := Fr.snoc X27 N9 g_a
    have Z27 : n0 ≤ h27.size := Nat.le_trans Z25 (Nat.le_of_eq W27.size.symm)
    have V_a : Arf Z h27 a .int (3 : Int32) (fun jj => if jj = ((0 : Int32)).toNatClampNeg then (Value.int s0) else (fun _ => (Value.int (0 : Int32))) jj) := Arf.set Ar_a_26 S_a_26 M_a_26 H_a_26 W27
    have V_b := V_b.other W27 ne_b_a
    refine RunsTo.of (T' := T27) (g' := (mkF m 151 #[.val (.int x0), .val (.int x1), .val (.int x2), .val (.int x3), .val (.int x4), .val (.ref b), .val (.int s0), .val (.int s1), .val (.int s2), .val (.int (3 : Int32)), .unset, .unset] [(.ref a)])) st27 ?_
    refine RunsTo.of (T' := T27) (g' := (mkF m 155 #[.val (.int x0), .val (.int x1), .val (.int x2), .val (.int x3), .val (.int x4), .val (.ref b), .val (.int s0), .val (.int s1), .val (.int s2), .val (.int (3 : Int32)), .unset, .unset] [(.int s1), (.int (1 : Int32)), (.ref a), (.ref a)])) (fun tgt_ kt => ?_) ?_
    · refine XS.dup X27.here hx rfl (hb hby at_151) rfl rfl ?_
      show Steps p.tables e below (T27.setTop (mkF m 152 #[.val (.int x0), .val (.int x1), .val (.int x2), .val (.int x3), .val (.int x4), .val (.ref b), .val (.int s0), .val (.int s1), .val (.int s2), .val (.int (3 : Int32)), .unset, .unset] [(.ref a), (.ref a)])) _
      refine XS.iconst X27.here hx rfl (hb hby at_152) ?_
      show Steps p.tables e below (T27.setTop (mkF m 153 #[.val (.int x0), .val (.int x1), .val (.int x2), .val (.int x3), .val (.int x4), .val (.ref b), .val (.int s0), .val (.int s1), .val (.int s2), .val (.int (3 : Int32)), .unset, .unset] [(.int (1 : Int32)), (.ref a), (.ref a)])) _
      refine XS.iload X27.here hx rfl (hb hby at_153) rfl ?_
      show Steps p.tables e below (T27.setTop (mkF m 155 #[.val (.int x0), .val (.int x1), .val (.int x2), .val (.int x3), .val (.int x4), .val (.ref b), .val (.int s0), .val (.int s1), .val (.int s2), .val (.int (3 : Int32)), .unset, .unset] [(.int s1), (.int (1 : Int32)), (.ref a), (.ref a)])) _
      exact kt
    obtain ⟨cl_a_28, Ar_a_28, S_a_28, M_a_28, H_a_28⟩ := id V_a
    have hin_a_28 : ¬ ((1 : Int32) < 0 ∨ cl_a_28.slots.size ≤ ((1 : Int32)).toNatClampNeg) := inb_of S_a_28 ⟨by decide, by decide⟩
    obtain ⟨T29, h29, X29, e29, W29, st29⟩ := stI X27 hx hZ e27 Ar_a_28 (j := (1 : Int32)) hin_a_28 (g := (mkF m 155 #[.val (.int x0), .val (.int x1), .val (.int x2), .val (.int x3), .val (.int x4), .val (.ref b), .val (.int s0), .val (.int s1), .val (.int s2), .val (.int (3 : Int32)), .unset, .unset] [(.int s1), (.int (1 : Int32)), (.ref a), (.ref a)])) rfl rfl (hb hby at_155)
    have N29 := Fr.snoc X29 N27 g_a
    have Z29 : n0 ≤ h29.size := Nat.le_trans Z27 (Nat.le_of_eq W29.size.symm)
    have V_a : Arf Z h29 a .int (3 : Int32) (fun jj => if jj = ((1 : Int32)).toNatClampNeg then (Value.int s1) else (fun jj => if jj = ((0 : Int32)).toNatClampNeg then (Value.int s0) else (fun _ => (Value.int (0 : Int32))) jj) jj) := Arf.set Ar_a_28 S_a_28 M_a_28 H_a_28 W29
    have V_b := V_b.other W29 ne_b_a
    refine RunsTo.of (T' := T29) (g' := (mkF m 156 #[.val (.int x0), .val (.int x1), .val (.int x2), .val (.int x3), .val (.int x4), .val (.ref b), .val (.int s0), .val (.int s1), .val (.int s2), .val (.int (3 : Int32)), .unset, .unset] [(.ref a)])) st29 ?_
    refine RunsTo.of (T' := T29) (g' := (mkF m 160 #[.val (.int x0), .val (.int x1), .val (.int x2), .val (.int x3), .val (.int x4), .val (.ref b), .val (.int s0), .val (.int s1), .val (.int s2), .val (.int (3 : Int32)), .unset, .unset] [(.int s2), (.int (2 : Int32)), (.ref a), (.ref a)])) (fun tgt_ kt => ?_) ?_
    · refine XS.dup X29.here hx rfl (hb hby at_156) rfl rfl ?_
      show Steps p.tables e below (T29.setTop (mkF m 157 #[.val (.int x0), .val (.int x1), .val (.int x2), .val (.int x3), .val (.int x4), .val (.ref b), .val (.int s0), .val (.int s1), .val (.int s2), .val (.int (3 : Int32)), .unset, .unset] [(.ref a), (.ref a)])) _
      refine XS.iconst X29.here hx rfl (hb hby at_157) ?_
      show Steps p.tables e below (T29.setTop (mkF m 158 #[.val (.int x0), .val (.int x1), .val (.int x2), .val (.int x3), .val (.int x4), .val (.ref b), .val (.int s0), .val (.int s1), .val (.int s2), .val (.int (3 : Int32)), .unset, .unset] [(.int (2 : Int32)), (.ref a), (.ref a)])) _
      refine XS.iload X29.here hx rfl (hb hby at_158) rfl ?_
      show Steps p.tables e below (T29.setTop (mkF m 160 #[.val (.int x0), .val (.int x1), .val (.int x2), .val (.int x3), .val (.int x4), .val (.ref b), .val (.int s0), .val (.int s1), .val (.int s2), .val (.int (3 : Int32)), .unset, .unset] [(.int s2), (.int (2 : Int32)), (.ref a), (.ref a)])) _
      exact kt
    obtain ⟨cl_a_30, Ar_a_30, S_a_30, M_a_30, H_a_30⟩ := id V_a
    have hin_a_30 : ¬ ((2 : Int32) < 0 ∨ cl_a_30.slots.size ≤ ((2 : Int32)).toNatClampNeg) := inb_of S_a_30 ⟨by decide, by decide⟩
    obtain ⟨T31, h31, X31, e31, W31, st31⟩ := stI X29 hx hZ e29 Ar_a_30 (j := (2 : Int32)) hin_a_30 (g := (mkF m 160 #[.val (.int x0), .val (.int x1), .val (.int x2), .val (.int x3), .val (.int x4), .val (.ref b), .val (.int s0), .val (.int s1), .val (.int s2), .val (.int (3 : Int32)), .unset, .unset] [(.int s2), (.int (2 : Int32)), (.ref a), (.ref a)])) rfl rfl (hb hby at_160)
    have N31 := Fr.snoc X31 N29 g_a
    have Z31 : n0 ≤ h31.size := Nat.le_trans Z29 (Nat.le_of_eq W31.size.symm)
    have V_a : Arf Z h31 a .int (3 : Int32) (fun jj => if jj = ((2 : Int32)).toNatClampNeg then (Value.int s2) else (fun jj => if jj = ((1 : Int32)).toNatClampNeg then (Value.int s1) else (fun jj => if jj = ((0 : Int32)).toNatClampNeg then (Value.int s0) else (fun _ => (Value.int (0 : Int32))) jj) jj) jj) := Arf.set Ar_a_30 S_a_30 M_a_30 H_a_30 W31
    have V_b := V_b.other W31 ne_b_a
    refine RunsTo.of (T' := T31) (g' := (mkF m 161 #[.val (.int x0), .val (.int x1), .val (.int x2), .val (.int x3), .val (.int x4), .val (.ref b), .val (.int s0), .val (.int s1), .val (.int s2), .val (.int (3 : Int32)), .unset, .unset] [(.ref a)])) st31 ?_
    refine RunsTo.of (T' := T31) (g' := (mkF m 176 #[.val (.int x0), .val (.int x1), .val (.int x2), .val (.int x3), .val (.int x4), .val (.ref b), .val (.int s0), .val (.int s1), .val (.int s2), .val (.int (3 : Int32)), .val (.ref a), .val (.int (0 : Int32))] [(.int s0), (.ref b)])) (fun tgt_ kt => ?_) ?_
    · refine XS.astore X31.here hx rfl (hb hby at_161) rfl rfl (l' := #[.val (.int x0), .val (.int x1), .val (.int x2), .val (.int x3), .val (.int x4), .val (.ref b), .val (.int s0), .val (.int s1), .val (.int s2), .val (.int (3 : Int32)), .val (.ref a), .unset]) rfl ?_
      show Steps p.tables e below (T31.setTop (mkF m 163 #[.val (.int x0), .val (.int x1), .val (.int x2), .val (.int x3), .val (.int x4), .val (.ref b), .val (.int s0), .val (.int s1), .val (.int s2), .val (.int (3 : Int32)), .val (.ref a), .unset] [])) _
      refine XS.iconst X31.here hx rfl (hb hby at_163) ?_
      show Steps p.tables e below (T31.setTop (mkF m 164 #[.val (.int x0), .val (.int x1), .val (.int x2), .val (.int x3), .val (.int x4), .val (.ref b), .val (.int s0), .val (.int s1), .val (.int s2), .val (.int (3 : Int32)), .val (.ref a), .unset] [(.int (0 : Int32))])) _
      refine XS.istore X31.here hx rfl (hb hby at_164) rfl (l' := #[.val (.int x0), .val (.int x1), .val (.int x2), .val (.int x3), .val (.int x4), .val (.ref b), .val (.int s0), .val (.int s1), .val (.int s2), .val (.int (3 : Int32)), .val (.ref a), .val (.int (0 : Int32))]) rfl ?_
      show Steps p.tables e below (T31.setTop (mkF m 166 #[.val (.int x0), .val (.int x1), .val (.int x2), .val (.int x3), .val (.int x4), .val (.ref b), .val (.int s0), .val (.int s1), .val (.int s2), .val (.int (3 : Int32)), .val (.ref a), .val (.int (0 : Int32))] [])) _
      refine XS.iload X31.here hx rfl (hb hby at_166) rfl ?_
      show Steps p.tables e below (T31.setTop (mkF m 168 #[.val (.int x0), .val (.int x1), .val (.int x2), .val (.int x3), .val (.int x4), .val (.ref b), .val (.int s0), .val (.int s1), .val (.int s2), .val (.int (3 : Int32)), .val (.ref a), .val (.int (0 : Int32))] [(.int (3 : Int32))])) _
      refine XS.iconst X31.here hx rfl (hb hby at_168) ?_
      show Steps p.tables e below (T31.setTop (mkF m 169 #[.val (.int x0), .val (.int x1), .val (.int x2), .val (.int x3), .val (.int x4), .val (.ref b), .val (.int s0), .val (.int s1), .val (.int s2), .val (.int (3 : Int32)), .val (.ref a), .val (.int (0 : Int32))] [(.int (1 : Int32)), (.int (3 : Int32))])) _
      refine XS.icmpNo X31.here hx rfl (hb hby at_169) rfl (flt (by decide)).1 ?_
      show Steps p.tables e below (T31.setTop (mkF m 172 #[.val (.int x0), .val (.int x1), .val (.int x2), .val (.int x3), .val (.int x4), .val (.ref b), .val (.int s0), .val (.int s1), .val (.int s2), .val (.int (3 : Int32)), .val (.ref a), .val (.int (0 : Int32))] [])) _
      refine XS.aload X31.here hx rfl (hb hby at_172) rfl rfl ?_
      show Steps p.tables e below (T31.setTop (mkF m 174 #[.val (.int x0), .val (.int x1), .val (.int x2), .val (.int x3), .val (.int x4), .val (.ref b), .val (.int s0), .val (.int s1), .val (.int s2), .val (.int (3 : Int32)), .val (.ref a), .val (.int (0 : Int32))] [(.ref b)])) _
      refine XS.iload X31.here hx rfl (hb hby at_174) rfl ?_
      show Steps p.tables e below (T31.setTop (mkF m 176 #[.val (.int x0), .val (.int x1), .val (.int x2), .val (.int x3), .val (.int x4), .val (.ref b), .val (.int s0), .val (.int s1), .val (.int s2), .val (.int (3 : Int32)), .val (.ref a), .val (.int (0 : Int32))] [(.int s0), (.ref b)])) _
      exact kt
    obtain ⟨cl_b_32, Ar_b_32, S_b_32, M_b_32, H_b_32⟩ := id V_b
    have hin_b_32 : ¬ (s0 < 0 ∨ cl_b_32.slots.size ≤ (s0).toNatClampNeg) := inb_of S_b_32 hin_s0
    have hat_b_32 : cl_b_32.slots[(s0).toNatClampNeg]? = some (.int (own_bs y1 y2 y3 y4 s0.toNatClampNeg)) := (H_b_32 _ (Nat.lt_of_not_le fun y => hin_b_32 (Or.inr y))).trans (congrArg some rfl)
    refine RunsTo.of (T' := T31) (g' := (mkF m 177 #[.val (.int x0), .val (.int x1), .val (.int x2), .val (.int x3), .val (.int x4), .val (.ref b), .val (.int s0), .val (.int s1), .val (.int s2), .val (.int (3 : Int32)), .val (.ref a), .val (.int (0 : Int32))] [(.int (own_bs y1 y2 y3 y4 s0.toNatClampNeg))])) (fun tgt_ kt => ?_) ?_
    · refine X31.baloadBooleans hx (j := s0) (v := (.int (own_bs y1 y2 y3 y4 s0.toNatClampNeg))) (by rw [e31]; exact Ar_b_32.1) (State.isArrayOf_alike hZ.alike Ar_b_32.2.1) Ar_b_32.2.2 hin_b_32 hat_b_32 (g := (mkF m 176 #[.val (.int x0), .val (.int x1), .val (.int x2), .val (.int x3), .val (.int x4), .val (.ref b), .val (.int s0), .val (.int s1), .val (.int s2), .val (.int (3 : Int32)), .val (.ref a), .val (.int (0 : Int32))] [(.int s0), (.ref b)])) rfl rfl (hb hby at_176) _ ?_
      show Steps p.tables e below (T31.setTop (mkF m 177 #[.val (.int x0), .val (.int x1), .val (.int x2), .val (.int x3), .val (.int x4), .val (.ref b), .val (.int s0), .val (.int s1), .val (.int s2), .val (.int (3 : Int32)), .val (.ref a), .val (.int (0 : Int32))] [(.int (own_bs y1 y2 y3 y4 s0.toNatClampNeg))])) _
      exact kt
    obtain ⟨w0, hw0⟩ : ∃ z : Int32, z = (if (own_bs y1 y2 y3 y4 s0.toNatClampNeg) = (0 : Int32) then (0 : Int32) else (1 : Int32)) := ⟨_, rfl⟩
    refine RunsTo.of (T' := T31) (g' := (mkF m 183 #[.val (.int x0), .val (.int x1), .val (.int x2), .val (.int x3), .val (.int x4), .val (.ref b), .val (.int s0), .val (.int s1), .val (.int s2), .val (.int (3 : Int32)), .val (.ref a), .val (.int w0)] [])) (fun tgt_ kt => ?_) ?_
    · by_cases hc177e0 : (own_bs y1 y2 y3 y4 s0.toNatClampNeg) = (0 : Int32)
      · refine XS.ifYes X31.here hx rfl (pc0 := 177) (pc' := 183) rfl (hb hby at_177) rfl ((if0 _ _).trans (teq hc177e0).1) (by decide) (by decide) ?_
        show Steps p.tables e below (T31.setTop (mkF m 183 #[.val (.int x0), .val (.int x1), .val (.int x2), .val (.int x3), .val (.int x4), .val (.ref b), .val (.int s0), .val (.int s1), .val (.int s2), .val (.int (3 : Int32)), .val (.ref a), .val (.int (0 : Int32))] [])) _
        try rw [if_pos hc177e0] at hw0
        rw [hw0] at kt
        exact kt
      · refine XS.ifNo X31.here hx rfl (hb hby at_177) rfl ((if0 _ _).trans (feq hc177e0).1) ?_
        show Steps p.tables e below (T31.setTop (mkF m 180 #[.val (.int x0), .val (.int x1), .val (.int x2), .val (.int x3), .val (.int x4), .val (.ref b), .val (.int s0), .val (.int s1), .val (.int s2), .val (.int (3 : Int32)), .val (.ref a), .val (.int (0 : Int32))] [])) _
        try rw [if_neg hc177e0] at hw0
        rw [hw0] at kt
        refine XS.iconst X31.here hx rfl (hb hby at_180) ?_
        show Steps p.tables e below (T31.setTop (mkF m 181 #[.val (.int x0), .val (.int x1), .val (.int x2), .val (.int x3), .val (.int x4), .val (.ref b), .val (.int s0), .val (.int s1), .val (.int s2), .val (.int (3 : Int32)), .val (.ref a), .val (.int (0 : Int32))] [(.int (1 : Int32))])) _
        refine XS.istore X31.here hx rfl (hb hby at_181) rfl (l' := #[.val (.int x0), .val (.int x1), .val (.int x2), .val (.int x3), .val (.int x4), .val (.ref b), .val (.int s0), .val (.int s1), .val (.int s2), .val (.int (3 : Int32)), .val (.ref a), .val (.int (1 : Int32))]) rfl ?_
        show Steps p.tables e below (T31.setTop (mkF m 183 #[.val (.int x0), .val (.int x1), .val (.int x2), .val (.int x3), .val (.int x4), .val (.ref b), .val (.int s0), .val (.int s1), .val (.int s2), .val (.int (3 : Int32)), .val (.ref a), .val (.int (1 : Int32))] [])) _
        exact kt
    refine RunsTo.of (T' := T31) (g' := (mkF m 193 #[.val (.int x0), .val (.int x1), .val (.int x2), .val (.int x3), .val (.int x4), .val (.ref b), .val (.int s0), .val (.int s1), .val (.int s2), .val (.int (3 : Int32)), .val (.ref a), .val (.int w0)] [(.int s1), (.ref b)])) (fun tgt_ kt => ?_) ?_
    · refine XS.iload X31.here hx rfl (hb hby at_183) rfl ?_
      show Steps p.tables e below (T31.setTop (mkF m 185 #[.val (.int x0), .val (.int x1), .val (.int x2), .val (.int x3), .val (.int x4), .val (.ref b), .val (.int s0), .val (.int s1), .val (.int s2), .val (.int (3 : Int32)), .val (.ref a), .val (.int w0)] [(.int (3 : Int32))])) _
      refine XS.iconst X31.here hx rfl (hb hby at_185) ?_
      show Steps p.tables e below (T31.setTop (mkF m 186 #[.val (.int x0), .val (.int x1), .val (.int x2), .val (.int x3), .val (.int x4), .val (.ref b), .val (.int s0), .val (.int s1), .val (.int s2), .val (.int (3 : Int32)), .val (.ref a), .val (.int w0)] [(.int (2 : Int32)), (.int (3 : Int32))])) _
      refine XS.icmpNo X31.here hx rfl (hb hby at_186) rfl (flt (by decide)).1 ?_
      show Steps p.tables e below (T31.setTop (mkF m 189 #[.val (.int x0), .val (.int x1), .val (.int x2), .val (.int x3), .val (.int x4), .val (.ref b), .val (.int s0), .val (.int s1), .val (.int s2), .val (.int (3 : Int32)), .val (.ref a), .val (.int w0)] [])) _
      refine XS.aload X31.here hx rfl (hb hby at_189) rfl rfl ?_
      show Steps p.tables e below (T31.setTop (mkF m 191 #[.val (.int x0), .val (.int x1), .val (.int x2), .val (.int x3), .val (.int x4), .val (.ref b), .val (.int s0), .val (.int s1), .val (.int s2), .val (.int (3 : Int32)), .val (.ref a), .val (.int w0)] [(.ref b)])) _
      refine XS.iload X31.here hx rfl (hb hby at_191) rfl ?_
      show Steps p.tables e below (T31.setTop (mkF m 193 #[.val (.int x0), .val (.int x1), .val (.int x2), .val (.int x3), .val (.int x4), .val (.ref b), .val (.int s0), .val (.int s1), .val (.int s2), .val (.int (3 : Int32)), .val (.ref a), .val (.int w0)] [(.int s1), (.ref b)])) _
      exact kt
    obtain ⟨cl_b_33, Ar_b_33, S_b_33, M_b_33, H_b_33⟩ := id V_b
    have hin_b_33 : ¬ (s1 < 0 ∨ cl_b_33.slots.size ≤ (s1).toNatClampNeg) := inb_of S_b_33 hin_s1
    have hat_b_33 : cl_b_33.slots[(s1).toNatClampNeg]? = some (.int (own_bs y1 y2 y3 y4 s1.toNatClampNeg)) := (H_b_33 _ (Nat.lt_of_not_le fun y => hin_b_33 (Or.inr y))).trans (congrArg some rfl)
    refine RunsTo.of (T' := T31) (g' := (mkF m 194 #[.val (.int x0), .val (.int x1), .val (.int x2), .val (.int x3), .val (.int x4), .val (.ref b), .val (.int s0), .val (.int s1), .val (.int s2), .val (.int (3 : Int32)), .val (.ref a), .val (.int w0)] [(.int (own_bs y1 y2 y3 y4 s1.toNatClampNeg))])) (fun tgt_ kt => ?_) ?_
    · refine X31.baloadBooleans hx (j := s1) (v := (.int (own_bs y1 y2 y3 y4 s1.toNatClampNeg))) (by rw [e31]; exact Ar_b_33.1) (State.isArrayOf_alike hZ.alike Ar_b_33.2.1) Ar_b_33.2.2 hin_b_33 hat_b_33 (g := (mkF m 193 #[.val (.int x0), .val (.int x1), .val (.int x2), .val (.int x3), .val (.int x4), .val (.ref b), .val (.int s0), .val (.int s1), .val (.int s2), .val (.int (3 : Int32)), .val (.ref a), .val (.int w0)] [(.int s1), (.ref b)])) rfl rfl (hb hby at_193) _ ?_
      show Steps p.tables e below (T31.setTop (mkF m 194 #[.val (.int x0), .val (.int x1), .val (.int x2), .val (.int x3), .val (.int x4), .val (.ref b), .val (.int s0), .val (.int s1), .val (.int s2), .val (.int (3 : Int32)), .val (.ref a), .val (.int w0)] [(.int (own_bs y1 y2 y3 y4 s1.toNatClampNeg))])) _
      exact kt
    obtain ⟨w1, hw1⟩ : ∃ z : Int32, z = (if (own_bs y1 y2 y3 y4 s1.toNatClampNeg) = (0 : Int32) then w0 else (1 : Int32)) := ⟨_, rfl⟩
    refine RunsTo.of (T' := T31) (g' := (mkF m 200 #[.val (.int x0), .val (.int x1), .val (.int x2), .val (.int x3), .val (.int x4), .val (.ref b), .val (.int s0), .val (.int s1), .val (.int s2), .val (.int (3 : Int32)), .val (.ref a), .val (.int w1)] [])) (fun tgt_ kt => ?_) ?_
    · by_cases hc194e1 : (own_bs y1 y2 y3 y4 s1.toNatClampNeg) = (0 : Int32)
      · refine XS.ifYes X31.here hx rfl (pc0 := 194) (pc' := 200) rfl (hb hby at_194) rfl ((if0 _ _).trans (teq hc194e1).1) (by decide) (by decide) ?_
        show Steps p.tables e below (T31.setTop (mkF m 200 #[.val (.int x0), .val (.int x1), .val (.int x2), .val (.int x3), .val (.int x4), .val (.ref b), .val (.int s0), .val (.int s1), .val (.int s2), .val (.int (3 : Int32)), .val (.ref a), .val (.int w0)] [])) _
        try rw [if_pos hc194e1] at hw1
        rw [hw1] at kt
        exact kt
      · refine XS.ifNo X31.here hx rfl (hb hby at_194) rfl ((if0 _ _).trans (feq hc194e1).1) ?_
        show Steps p.tables e below (T31.setTop (mkF m 197 #[.val (.int x0), .val (.int x1), .val (.int x2), .val (.int x3), .val (.int x4), .val (.ref b), .val (.int s0), .val (.int s1), .val (.int s2), .val (.int (3 : Int32)), .val (.ref a), .val (.int w0)] [])) _
        try rw [if_neg hc194e1] at hw1
        rw [hw1] at kt
        refine XS.iconst X31.here hx rfl (hb hby at_197) ?_
        show Steps p.tables e below (T31.setTop (mkF m 198 #[.val (.int x0), .val (.int x1), .val (.int x2), .val (.int x3), .val (.int x4), .val (.ref b), .val (.int s0), .val (.int s1), .val (.int s2), .val (.int (3 : Int32)), .val (.ref a), .val (.int w0)] [(.int (1 : Int32))])) _
        refine XS.istore X31.here hx rfl (hb hby at_198) rfl (l' := #[.val (.int x0), .val (.int x1), .val (.int x2), .val (.int x3), .val (.int x4), .val (.ref b), .val (.int s0), .val (.int s1), .val (.int s2), .val (.int (3 : Int32)), .val (.ref a), .val (.int (1 : Int32))]) rfl ?_
        show Steps p.tables e below (T31.setTop (mkF m 200 #[.val (.int x0), .val (.int x1), .val (.int x2), .val (.int x3), .val (.int x4), .val (.ref b), .val (.int s0), .val (.int s1), .val (.int s2), .val (.int (3 : Int32)), .val (.ref a), .val (.int (1 : Int32))] [])) _
        exact kt
    refine RunsTo.of (T' := T31) (g' := (mkF m 210 #[.val (.int x0), .val (.int x1), .val (.int x2), .val (.int x3), .val (.int x4), .val (.ref b), .val (.int s0), .val (.int s1), .val (.int s2), .val (.int (3 : Int32)), .val (.ref a), .val (.int w1)] [(.int s2), (.ref b)])) (fun tgt_ kt => ?_) ?_
    · refine XS.iload X31.here hx rfl (hb hby at_200) rfl ?_
      show Steps p.tables e below (T31.setTop (mkF m 202 #[.val (.int x0), .val (.int x1), .val (.int x2), .val (.int x3), .val (.int x4), .val (.ref b), .val (.int s0), .val (.int s1), .val (.int s2), .val (.int (3 : Int32)), .val (.ref a), .val (.int w1)] [(.int (3 : Int32))])) _
      refine XS.iconst X31.here hx rfl (hb hby at_202) ?_
      show Steps p.tables e below (T31.setTop (mkF m 203 #[.val (.int x0), .val (.int x1), .val (.int x2), .val (.int x3), .val (.int x4), .val (.ref b), .val (.int s0), .val (.int s1), .val (.int s2), .val (.int (3 : Int32)), .val (.ref a), .val (.int w1)] [(.int (3 : Int32)), (.int (3 : Int32))])) _
      refine XS.icmpNo X31.here hx rfl (hb hby at_203) rfl (flt (by decide)).1 ?_
      show Steps p.tables e below (T31.setTop (mkF m 206 #[.val (.int x0), .val (.int x1), .val (.int x2), .val (.int x3), .val (.int x4), .val (.ref b), .val (.int s0), .val (.int s1), .val (.int s2), .val (.int (3 : Int32)), .val (.ref a), .val (.int w1)] [])) _
      refine XS.aload X31.here hx rfl (hb hby at_206) rfl rfl ?_
      show Steps p.tables e below (T31.setTop (mkF m 208 #[.val (.int x0), .val (.int x1), .val (.int x2), .val (.int x3), .val (.int x4), .val (.ref b), .val (.int s0), .val (.int s1), .val (.int s2), .val (.int (3 : Int32)), .val (.ref a), .val (.int w1)] [(.ref b)])) _
      refine XS.iload X31.here hx rfl (hb hby at_208) rfl ?_
      show Steps p.tables e below (T31.setTop (mkF m 210 #[.val (.int x0), .val (.int x1), .val (.int x2), .val (.int x3), .val (.int x4), .val (.ref b), .val (.int s0), .val (.int s1), .val (.int s2), .val (.int (3 : Int32)), .val (.ref a), .val (.int w1)] [(.int s2), (.ref b)])) _
      exact kt
    obtain ⟨cl_b_34, Ar_b_34, S_b_34, M_b_34, H_b_34⟩ := id V_b
    have hin_b_34 : ¬ (s2 < 0 ∨ cl_b_34.slots.size ≤ (s2).toNatClampNeg) := inb_of S_b_34 hin_s2
    have hat_b_34 : cl_b_34.slots[(s2).toNatClampNeg]? = some (.int (own_bs y1 y2 y3 y4 s2.toNatClampNeg)) := (H_b_34 _ (Nat.lt_of_not_le fun y => hin_b_34 (Or.inr y))).trans (congrArg some rfl)
    refine RunsTo.of (T' := T31) (g' := (mkF m 211 #[.val (.int x0), .val (.int x1), .val (.int x2), .val (.int x3), .val (.int x4), .val (.ref b), .val (.int s0), .val (.int s1), .val (.int s2), .val (.int (3 : Int32)), .val (.ref a), .val (.int w1)] [(.int (own_bs y1 y2 y3 y4 s2.toNatClampNeg))])) (fun tgt_ kt => ?_) ?_
    · refine X31.baloadBooleans hx (j := s2) (v := (.int (own_bs y1 y2 y3 y4 s2.toNatClampNeg))) (by rw [e31]; exact Ar_b_34.1) (State.isArrayOf_alike hZ.alike Ar_b_34.2.1) Ar_b_34.2.2 hin_b_34 hat_b_34 (g := (mkF m 210 #[.val (.int x0), .val (.int x1), .val (.int x2), .val (.int x3), .val (.int x4), .val (.ref b), .val (.int s0), .val (.int s1), .val (.int s2), .val (.int (3 : Int32)), .val (.ref a), .val (.int w1)] [(.int s2), (.ref b)])) rfl rfl (hb hby at_210) _ ?_
      show Steps p.tables e below (T31.setTop (mkF m 211 #[.val (.int x0), .val (.int x1), .val (.int x2), .val (.int x3), .val (.int x4), .val (.ref b), .val (.int s0), .val (.int s1), .val (.int s2), .val (.int (3 : Int32)), .val (.ref a), .val (.int w1)] [(.int (own_bs y1 y2 y3 y4 s2.toNatClampNeg))])) _
      exact kt
    obtain ⟨w2, hw2⟩ : ∃ z : Int32, z = (if (own_bs y1 y2 y3 y4 s2.toNatClampNeg) = (0 : Int32) then w1 else (1 : Int32)) := ⟨_, rfl⟩
    refine RunsTo.of (T' := T31) (g' := (mkF m 217 #[.val (.int x0), .val (.int x1), .val (.int x2), .val (.int x3), .val (.int x4), .val (.ref b), .val (.int s0), .val (.int s1), .val (.int s2), .val (.int (3 : Int32)), .val (.ref a), .val (.int w2)] [])) (fun tgt_ kt => ?_) ?_
    · by_cases hc211e2 : (own_bs y1 y2 y3 y4 s2.toNatClampNeg) = (0 : Int32)
      · refine XS.ifYes X31.here hx rfl (pc0 := 211) (pc' := 217) rfl (hb hby at_211) rfl ((if0 _ _).trans (teq hc211e2).1) (by decide) (by decide) ?_
        show Steps p.tables e below (T31.setTop (mkF m 217 #[.val (.int x0), .val (.int x1), .val (.int x2), .val (.int x3), .val (.int x4), .val (.ref b), .val (.int s0), .val (.int s1), .val (.int s2), .val (.int (3 : Int32)), .val (.ref a), .val (.int w1)] [])) _
        try rw [if_pos hc211e2] at hw2
        rw [hw2] at kt
        exact kt
      · refine XS.ifNo X31.here hx rfl (hb hby at_211) rfl ((if0 _ _).trans (feq hc211e2).1) ?_
        show Steps p.tables e below (T31.setTop (mkF m 214 #[.val (.int x0), .val (.int x1), .val (.int x2), .val (.int x3), .val (.int x4), .val (.ref b), .val (.int s0), .val (.int s1), .val (.int s2), .val (.int (3 : Int32)), .val (.ref a), .val (.int w1)] [])) _
        try rw [if_neg hc211e2] at hw2
        rw [hw2] at kt
        refine XS.iconst X31.here hx rfl (hb hby at_214) ?_
        show Steps p.tables e below (T31.setTop (mkF m 215 #[.val (.int x0), .val (.int x1), .val (.int x2), .val (.int x3), .val (.int x4), .val (.ref b), .val (.int s0), .val (.int s1), .val (.int s2), .val (.int (3 : Int32)), .val (.ref a), .val (.int w1)] [(.int (1 : Int32))])) _
        refine XS.istore X31.here hx rfl (hb hby at_215) rfl (l' := #[.val (.int x0), .val (.int x1), .val (.int x2), .val (.int x3), .val (.int x4), .val (.ref b), .val (.int s0), .val (.int s1), .val (.int s2), .val (.int (3 : Int32)), .val (.ref a), .val (.int (1 : Int32))]) rfl ?_
        show Steps p.tables e below (T31.setTop (mkF m 217 #[.val (.int x0), .val (.int x1), .val (.int x2), .val (.int x3), .val (.int x4), .val (.ref b), .val (.int s0), .val (.int s1), .val (.int s2), .val (.int (3 : Int32)), .val (.ref a), .val (.int (1 : Int32))] [])) _
        exact kt
    refine RunsTo.of (T' := T31) (g' := (mkF m 221 #[.val (.int x0), .val (.int x1), .val (.int x2), .val (.int x3), .val (.int x4), .val (.ref b), .val (.int s0), .val (.int s1), .val (.int s2), .val (.int (3 : Int32)), .val (.ref a), .val (.int w2)] [(.ref b), (.ref a)])) (fun tgt_ kt => ?_) ?_
    · refine XS.aload X31.here hx rfl (hb hby at_217) rfl rfl ?_
      show Steps p.tables e below (T31.setTop (mkF m 219 #[.val (.int x0), .val (.int x1), .val (.int x2), .val (.int x3), .val (.int x4), .val (.ref b), .val (.int s0), .val (.int s1), .val (.int s2), .val (.int (3 : Int32)), .val (.ref a), .val (.int w2)] [(.ref a)])) _
      refine XS.aload X31.here hx rfl (hb hby at_219) rfl rfl ?_
      show Steps p.tables e below (T31.setTop (mkF m 221 #[.val (.int x0), .val (.int x1), .val (.int x2), .val (.int x3), .val (.int x4), .val (.ref b), .val (.int s0), .val (.int s1), .val (.int s2), .val (.int (3 : Int32)), .val (.ref a), .val (.int w2)] [(.ref b), (.ref a)])) _
      exact kt
    obtain ⟨cc, hcc⟩ : ∃ z : Nat → Int32, z = fun k => own_bs y1 y2 y3 y4 (own_pick s0 s1 s2 k).toNatClampNeg := ⟨_, rfl⟩
    have hprem : ∀ k, k < (3 : Int32).toNatClampNeg → ∃ j : Int32, (fun jj => if jj = ((2 : Int32)).toNatClampNeg then (Value.int s2) else (fun jj => if jj = ((1 : Int32)).toNatClampNeg then (Value.int s1) else (fun jj => if jj = ((0 : Int32)).toNatClampNeg then (Value.int s0) else (fun _ => (Value.int (0 : Int32))) jj) jj) jj) k = .int j ∧ (¬ j < 0 ∧ j < 4) ∧ (fun i => Value.int (own_bs y1 y2 y3 y4 i)) j.toNatClampNeg = .int (cc k) := by
      intro k hk
      have hk' : k < 3 := hk
      rw [hcc]
      have hk3 : k = 0 ∨ k = 1 ∨ k = 2 := by omega
      rcases hk3 with rfl | rfl | rfl
      · exact ⟨s0, rfl, hin_s0, rfl⟩
      · exact ⟨s1, rfl, hin_s1, rfl⟩
      · exact ⟨s2, rfl, hin_s2, rfl⟩
    obtain ⟨_, _, ⟨T35, L35, k35, n35⟩, -, X35, ⟨Lc35, hQ35, l35, y35, z35⟩, st35⟩ := Jvm.LawKit.callS X31 hx (y := (⟨"com/example/kontroller/kontroller/synthesis/StateGraph", "any", "([I[Z)Z"⟩ : MethodName)) hown (mvT hZ (hw _ (List.mem_of_getElem? (i := 2) rfl))) (mvT hZ (hw _ (List.mem_of_getElem? (i := 3) rfl))) (mvT hZ (hw _ (List.mem_of_getElem? (i := 4) rfl))) (mvT hZ (hw _ (List.mem_of_getElem? (i := 5) rfl))) (by decide) (backOf (W := 0) (rm1 l Z a0 hw [] a b (3 : Int32) (4 : Int32) (fun jj => if jj = ((2 : Int32)).toNatClampNeg then (Value.int s2) else (fun jj => if jj = ((1 : Int32)).toNatClampNeg then (Value.int s1) else (fun jj => if jj = ((0 : Int32)).toNatClampNeg then (Value.int s0) else (fun _ => (Value.int (0 : Int32))) jj) jj) jj) (fun i => Value.int (own_bs y1 y2 y3 y4 i)) cc h31 n0 Z31 V_a V_b hprem) hZ (hw _ (List.mem_of_getElem? (i := 5) rfl)) (hw _ (List.mem_of_getElem? (i := 4) rfl)) (by decide) (by decide)) (g := (mkF m 221 #[.val (.int x0), .val (.int x1), .val (.int x2), .val (.int x3), .val (.int x4), .val (.ref b), .val (.int s0), .val (.int s1), .val (.int s2), .val (.int (3 : Int32)), .val (.ref a), .val (.int w2)] [(.ref b), (.ref a)])) rfl (by rw [hml]; rfl) (argsL := [(.ref a), (.ref b)]) (rest := []) (lenOf pd_0 rfl) rfl (by show 2 * 0 + _ ≤ _; exact Nat.le_of_eq rfl) (hb hby at_221) (fun _ _ => ⟨rfl, e31, (by decide : 2 + 0 ≤ _), (by decide : 7 + 0 ≤ _)⟩)
    dsimp only [Pt.U, Pt.locs, Pt.cells, Pt.slots] at X35 l35 y35 z35 st35 hQ35
    subst l35 y35 z35
    obtain ⟨rfl, N35q, e35⟩ := hQ35
    have N35 := Fr.app N31 N35q
    refine RunsTo.of (T' := T35) (g' := (mkF m 224 #[.val (.int x0), .val (.int x1), .val (.int x2), .val (.int x3), .val (.int x4), .val (.ref b), .val (.int s0), .val (.int s1), .val (.int s2), .val (.int (3 : Int32)), .val (.ref a), .val (.int w2)] [(.int (nar .boolean (own_any cc (3 : Int32).toNatClampNeg)))])) st35 ?_
    refine RunsTo.of (T' := T35) (g' := (mkF m 226 #[.val (.int x0), .val (.int x1), .val (.int x2), .val (.int x3), .val (.int x4), .val (.ref b), .val (.int s0), .val (.int s1), .val (.int s2), .val (.int (3 : Int32)), .val (.ref a), .val (.int w2)] [(.int w2), (.int (nar .boolean (own_any cc (3 : Int32).toNatClampNeg)))])) (fun tgt_ kt => ?_) ?_
    · refine XS.iload X35.here hx rfl (hb hby at_224) rfl ?_
      show Steps p.tables e below (T35.setTop (mkF m 226 #[.val (.int x0), .val (.int x1), .val (.int x2), .val (.int x3), .val (.int x4), .val (.ref b), .val (.int s0), .val (.int s1), .val (.int s2), .val (.int (3 : Int32)), .val (.ref a), .val (.int w2)] [(.int w2), (.int (nar .boolean (own_any cc (3 : Int32).toNatClampNeg)))])) _
      exact kt
    have hlaw : nar .boolean (own_any cc (3 : Int32).toNatClampNeg) = w2 := by
      have c0 : cc 0 = own_bs y1 y2 y3 y4 s0.toNatClampNeg := by rw [hcc]; rfl
      have c1 : cc 1 = own_bs y1 y2 y3 y4 s1.toNatClampNeg := by rw [hcc]; rfl
      have c2 : cc 2 = own_bs y1 y2 y3 y4 s2.toNatClampNeg := by rw [hcc]; rfl
      have d0 := own_b01 y1 y2 y3 y4 s0.toNatClampNeg
      have d1 := own_b01 y1 y2 y3 y4 s1.toNatClampNeg
      have d2 := own_b01 y1 y2 y3 y4 s2.toNatClampNeg
      rw [← c0] at d0 hw0
      rw [← c1] at d1 hw1
      rw [← c2] at d2 hw2
      show nar .boolean (own_any cc 3) = _
      rw [hw2, hw1, hw0]
      clear hcc hprem
      rcases d0 with d0 | d0 <;> rcases d1 with d1 | d1 <;> rcases d2 with d2 | d2 <;> simp [own_any, d0, d1, d2] <;> decide
    refine RunsTo.of (T' := T35) (g' := (mkF m 234 #[.val (.int x0), .val (.int x1), .val (.int x2), .val (.int x3), .val (.int x4), .val (.ref b), .val (.int s0), .val (.int s1), .val (.int s2), .val (.int (3 : Int32)), .val (.ref a), .val (.int w2)] [(.int (1 : Int32))])) (fun tgt_ kt => ?_) ?_
    · refine XS.icmpNo X35.here hx rfl (hb hby at_226) rfl (teq hlaw).2 ?_
      show Steps p.tables e below (T35.setTop (mkF m 229 #[.val (.int x0), .val (.int x1), .val (.int x2), .val (.int x3), .val (.int x4), .val (.ref b), .val (.int s0), .val (.int s1), .val (.int s2), .val (.int (3 : Int32)), .val (.ref a), .val (.int w2)] [])) _
      refine XS.iconst X35.here hx rfl (hb hby at_229) ?_
      show Steps p.tables e below (T35.setTop (mkF m 230 #[.val (.int x0), .val (.int x1), .val (.int x2), .val (.int x3), .val (.int x4), .val (.ref b), .val (.int s0), .val (.int s1), .val (.int s2), .val (.int (3 : Int32)), .val (.ref a), .val (.int w2)] [(.int (1 : Int32))])) _
      refine XS.goto X35.here hx rfl (pc0 := 230) (pc' := 234) rfl (hb hby at_230) (by decide) (by decide) ?_
      show Steps p.tables e below (T35.setTop (mkF m 234 #[.val (.int x0), .val (.int x1), .val (.int x2), .val (.int x3), .val (.int x4), .val (.ref b), .val (.int s0), .val (.int s1), .val (.int s2), .val (.int (3 : Int32)), .val (.ref a), .val (.int w2)] [(.int (1 : Int32))])) _
      exact kt
    refine RunsTo.retN X35 hx (t := .boolean) Bd.returns (by simp) Bd.notSynchronized (hb hby at_234) ?_ (by decide) (by decide)
    rw [e35]
    exact ⟨rfl, N35⟩
set_option maxRecDepth 65536 in
set_option maxHeartbeats 40000000 in
theorem comes_1 {Post : Tables → Env → Array Value → State → Outcome → State → Prop} (hpost : ∀ tb e args s v u, (limb_1_1.after args s (.returned v) u = true ∧ limb_1_2.after args s (.returned v) u = true ∧ True) → FrameEnd s (.returned v) u (Jvm.fieldLocs frame_1_writes args s ++ Jvm.arrayLocs frame_1_arrays args s ++ Jvm.staticLocs frame_1_statics s) 16 128 → Post tb e args s (.returned v) u) :
    ArmFor flags0 classFile x code maxLocals ret World_1 tables_1 room_1 Calls_1 rest_1 Pre_1 Post := by
  intro l hfl _ _ p e ha hc hk s m args below hf hA hF happ hP
  obtain ⟨hcalls, hrest, hpre⟩ := hP
  obtain ⟨-, -, -, hnamed, -, -, -, hat⟩ := (Spec.applies_iff hf).mp happ
  obtain ⟨hg, hn⟩ := and_e (Cond.before_iff.mp (show (Jvm.Cond.and given_1 narrow_1).before args s = true from hpre))
  obtain ⟨hcnt, hg0⟩ := and_e hg
  obtain ⟨ha0, hg1⟩ := and_e hg0
  obtain ⟨ha1, hg2⟩ := and_e hg1
  obtain ⟨ha2, hg3⟩ := and_e hg2
  obtain ⟨ha3, hg4⟩ := and_e hg3
  have ha4 := hg4
  obtain ⟨w0, w1, w2, w3, w4, rfl⟩ : ∃ w0 w1 w2 w3 w4 : Value, args = #[w0, w1, w2, w3, w4] := by
    have hs : args.size = 5 := by simpa [Cond.value, given_1] using hcnt
    obtain ⟨L⟩ := args
    match L, hs with
    | [w0, w1, w2, w3, w4], _ => exact ⟨w0, w1, w2, w3, w4, rfl⟩
  have hw := fun d (hd : d ∈ tables_1) => atoms_spec (ws := Jvm.Cond.code x code maxLocals ret :: tables_1) hat d (List.mem_cons_of_mem _ hd)
  have hfit : Fit s := fun {y c} hc i hi => by
    obtain ⟨ha, rfl⟩ := Array.getElem?_eq_some_iff.mp hc
    have q := List.all_eq_true.mp ((Array.all_eq_true_iff_forall_mem.mp hF) _ (Array.getElem_mem ha)) i (List.mem_range.mpr hi)
    simpa [Array.getElem?_eq_getElem hi] using q
  obtain ⟨i0, ei0⟩ := is_v ha0
  obtain rfl : w0 = (.int i0) := Option.some.inj ei0
  obtain ⟨i1, ei1⟩ := is_v ha1
  obtain rfl : w1 = (.int i1) := Option.some.inj ei1
  obtain ⟨i2, ei2⟩ := is_v ha2
  obtain rfl : w2 = (.int i2) := Option.some.inj ei2
  obtain ⟨i3, ei3⟩ := is_v ha3
  obtain rfl : w3 = (.int i3) := Option.some.inj ei3
  obtain ⟨i4, ei4⟩ := is_v ha4
  obtain rfl : w4 = (.int i4) := Option.some.inj ei4
  obtain ⟨n, o, h1, h2, h3, _, L, rfl, ⟨rfl, N⟩, hq⟩ := rm0 l s _ hw tables_1 i0 i1 i2 i3 i4 s.heap s.heap.size (Nat.le_refl _)  p e ha hc hk s m _ below hf ((Spec.applies_iff_loose hf).mp happ).1 ⟨rfl, State.Warmed39.refl s, rfl⟩ trivial
  refine ⟨n, _, h1, h2, h3, hpost _ _ _ _ _ _ ⟨Cond.after_iff.mpr rfl, Cond.after_iff.mpr (eq_i res_at (Term.int_eval (1)) rfl), trivial⟩ ⟨hq.1, hq.2.1, (hq.2.2.sift fun y hy => Or.inr (N y hy)).mono (by decide) (by decide)⟩⟩
theorem main_1_1 : Claimed_1_1 := comes_1 fun _ _ _ _ _ _ h hF => ⟨h.1, hF⟩
theorem main_1_2 : Claimed_1_2 := comes_1 fun _ _ _ _ _ _ h hF => ⟨h.2.1, hF⟩
end Jvm.Pilot.@@N@@
namespace Jvm.Pilot.@@N@@
open Jvm Jvm.ClassFile Sem Op Lib Jvm.Free Jvm.Stand Jvm.Pilot.@@N@@.Jvm.D
/-! MADE BY PROGRAM (witnessworld.py) out of the Statement's table words and the real class files: 11 classes; the members and pool entries that the words name. The judged class is class 1, her method 1. -/
namespace start1
open Jvm.ClassFile
def u (s : String) : CpInfo := .utf8 (stringToUtf16 s)
/-- a pool by its gaps: so many unusable entries, then the entry; so many at the end -/
def gap : Nat → List CpInfo → List CpInfo
  | 0, r => r
  | n + 1, r => .unusable :: gap n r
def poolList (es : List (Nat × CpInfo)) (last : Nat) : List CpInfo := es.foldr (fun e r => gap e.1 (e.2 :: r)) (gap last [])
def pool (es : List (Nat × CpInfo)) (last : Nat) : Array CpInfo := ⟨poolList es last⟩
def fileOf (pool : Array CpInfo) (this : Nat) (attrs : Array Attribute := #[]) (ms : Array MethodInfo := #[]) (fl : Nat := 33) (sup : Nat := 0) (ifs : Array Nat := #[]) (fds : Array FieldInfo := #[]) : ClassFile where
  minorVersion := 0
  majorVersion := 65
  constantPool := pool
  accessFlags := fl
  thisClass := this
  superClass := sup
  interfaces := ifs
  fields := fds
  methods := ms
  attributes := attrs
def plain (name : String) (sup : Option ClassId) : Class where
  name := name
  kind := .ordinary
  loader := none
  accessFlags := 33
  super := sup
  interfaces := #[]
  cf := none
  fields := #[]
  methods := #[]
  instanceTypes := #[]
  staticTypes := #[]
  resolved := #[]
  callSites := []
  init := .initialized
  statics := none
  mirror := none

def pool0 : Array CpInfo := pool [(5, u "<init>"), (0, u "()V"), (1, .class_ 10), (1, u "java/lang/Object")] 113

def k0m0 : Method := { name := "<init>", desc := "()V", sig := { parameters := [], returnType := none }, accessFlags := 1, code := none }
/-- java/lang/Object -/
def k0 : Class := { plain "java/lang/Object" none with
  accessFlags := 33
  interfaces := #[]
  cf := some (fileOf pool0 8 #[] #[{ accessFlags := 1, nameIndex := 5, descriptorIndex := 6, attributes := #[] }] 33 0 #[] #[])
  fields := #[]
  methods := #[k0m0]
  instanceTypes := #[]
  staticTypes := #[]
  resolved := Array.replicate 124 none
  statics := none }

def pool1 : Array CpInfo := pool [(2, .class_ 4), (1, u "java/lang/Object"), (0, u "<init>"), (0, u "()V"), (0, .methodref 8 9), (0, .class_ 10), (0, .nameAndType 11 12), (0, u "com/example/kontroller/kontroller/synthesis/StateGraph"), (0, u "any"), (0, u "([I[Z)Z"), (0, .class_ 14), (0, u "com/example/kontroller/kontroller/synthesis/StateGraphAnyPinLaw"), (2, u "law"), (0, u "(IIIII)Z")] 7

def k1m0 : Method := { name := "<init>", desc := "()V", sig := { parameters := [], returnType := none }, accessFlags := 1, code := none }
def k1c1 : Code := { maxStack := 4, maxLocals := 12, code := code, exceptionTable := #[], attributes := #[] }
def k1m1 : Method := { name := "law", desc := "(IIIII)Z", sig := { parameters := [.int, .int, .int, .int, .int], returnType := some .boolean }, accessFlags := 9, code := some k1c1 }
/-- com/example/kontroller/kontroller/synthesis/StateGraphAnyPinLaw -/
def k1 : Class := { plain "com/example/kontroller/kontroller/synthesis/StateGraphAnyPinLaw" (some 0) with
  accessFlags := 49
  interfaces := #[]
  cf := some (fileOf pool1 13 #[] #[{ accessFlags := 1, nameIndex := 5, descriptorIndex := 6, attributes := #[] }, { accessFlags := 9, nameIndex := 17, descriptorIndex := 18, attributes := #[] }] 49 2 #[] #[])
  fields := #[]
  methods := #[k1m0, k1m1]
  instanceTypes := #[]
  staticTypes := #[]
  resolved := Array.replicate 26 none
  statics := none }

def pool2 : Array CpInfo := pool [(2, .class_ 4), (1, u "java/lang/Object"), (3, .class_ 10), (1, u "com/example/kontroller/kontroller/synthesis/StateGraph"), (0, u "policy"), (0, u "Lcom/example/kontroller/kontroller/policy/Automaton;"), (14, u "stateCount"), (0, u "I"), (5, u "eventCount"), (2, u "open"), (0, u "[Z"), (2, u "met"), (0, u "[I"), (2, u "low"), (37, u "allComponents"), (0, u "Ljava/util/List;"), (45, u "any"), (0, u "([I[Z)Z")] 2

def k2c0 : Code := { maxStack := 3, maxLocals := 4, code := prog_84_method_10_code, exceptionTable := #[], attributes := #[] }
def k2m0 : Method := { name := "any", desc := "([I[Z)Z", sig := { parameters := [(.array .int), (.array .boolean)], returnType := some .boolean }, accessFlags := 8, code := some k2c0 }
/-- com/example/kontroller/kontroller/synthesis/StateGraph -/
def k2 : Class := { plain "com/example/kontroller/kontroller/synthesis/StateGraph" (some 0) with
  accessFlags := 48
  interfaces := #[]
  cf := some (fileOf pool2 8 #[] #[{ accessFlags := 8, nameIndex := 130, descriptorIndex := 131, attributes := #[] }] 48 2 #[] #[{ accessFlags := 18, nameIndex := 11, descriptorIndex := 12, attributes := #[] }, { accessFlags := 18, nameIndex := 27, descriptorIndex := 28, attributes := #[] }, { accessFlags := 18, nameIndex := 34, descriptorIndex := 28, attributes := #[] }, { accessFlags := 18, nameIndex := 37, descriptorIndex := 38, attributes := #[] }, { accessFlags := 18, nameIndex := 41, descriptorIndex := 42, attributes := #[] }, { accessFlags := 18, nameIndex := 45, descriptorIndex := 42, attributes := #[] }, { accessFlags := 2, nameIndex := 83, descriptorIndex := 84, attributes := #[] }])
  fields := #[{ name := "policy", type := (.object "com/example/kontroller/kontroller/policy/Automaton"), accessFlags := 18, slot := 0, constantValue := 0 }, { name := "stateCount", type := .int, accessFlags := 18, slot := 1, constantValue := 0 }, { name := "eventCount", type := .int, accessFlags := 18, slot := 2, constantValue := 0 }, { name := "open", type := (.array .boolean), accessFlags := 18, slot := 3, constantValue := 0 }, { name := "met", type := (.array .int), accessFlags := 18, slot := 4, constantValue := 0 }, { name := "low", type := (.array .int), accessFlags := 18, slot := 5, constantValue := 0 }, { name := "allComponents", type := (.object "java/util/List"), accessFlags := 2, slot := 6, constantValue := 0 }]
  methods := #[k2m0]
  instanceTypes := #[(.object "com/example/kontroller/kontroller/policy/Automaton"), .int, .int, (.array .boolean), (.array .int), (.array .int), (.object "java/util/List")]
  staticTypes := #[]
  resolved := Array.replicate 134 none
  statics := none }

def pool3 : Array CpInfo := pool [(1, u "java/lang/Cloneable"), (0, .class_ 1), (0, u "java/lang/Object"), (0, .class_ 3)] 3

/-- java/lang/Cloneable -/
def k3 : Class := { plain "java/lang/Cloneable" (some 0) with
  accessFlags := 1537
  interfaces := #[]
  cf := some (fileOf pool3 2 #[] #[] 1537 4 #[] #[])
  fields := #[]
  methods := #[]
  instanceTypes := #[]
  staticTypes := #[]
  resolved := Array.replicate 8 none
  statics := none }

def pool4 : Array CpInfo := pool [(1, u "java/io/Serializable"), (0, .class_ 1), (0, u "java/lang/Object"), (0, .class_ 3)] 3

/-- java/io/Serializable -/
def k4 : Class := { plain "java/io/Serializable" (some 0) with
  accessFlags := 1537
  interfaces := #[]
  cf := some (fileOf pool4 2 #[] #[] 1537 4 #[] #[])
  fields := #[]
  methods := #[]
  instanceTypes := #[]
  staticTypes := #[]
  resolved := Array.replicate 8 none
  statics := none }

/-- the primitive boolean -/
def k5 : Class := { plain "boolean" none with kind := .primitive 'Z', accessFlags := 0x411 }
/-- [Z -/
def k6 : Class := { plain "[Z" (some 0) with kind := .array 5 .boolean, interfaces := #[3, 4], accessFlags := 1041 }

/-- the primitive byte -/
def k7 : Class := { plain "byte" none with kind := .primitive 'B', accessFlags := 0x411 }
/-- [B -/
def k8 : Class := { plain "[B" (some 0) with kind := .array 7 .byte, interfaces := #[3, 4], accessFlags := 1041 }

/-- the primitive int -/
def k9 : Class := { plain "int" none with kind := .primitive 'I', accessFlags := 0x411 }
/-- [I -/
def k10 : Class := { plain "[I" (some 0) with kind := .array 9 .int, interfaces := #[3, 4], accessFlags := 1041 }

def heap : Heap := #[]
def classes : Array Class := #[k0, k1, k2, k3, k4, k5, k6, k7, k8, k9, k10]
def interned : List (Array UInt16 × Addr) := []
def slotsUsed : Nat := 0
def theMethod : MethodId := ⟨1, 1⟩
def args0 : Array Value := #[.int 2, .int 1, .int 2, .int 300, .int 9]
def aboutOver (below : List Frame) : State where
  vm := { classes := classes, interned := interned.toArray }
  heap := heap
  slotsUsed := slotsUsed
  threads := #[{ frames := .invoking theMethod args0 :: below }]
def below0 : List Frame := [.native { method := ⟨0, 0⟩, args := #[] }]
def about1 : State := aboutOver below0
def p0 : Program := .bare "" "" ""
def e0 : Env := launch0.env 0 0 0
theorem w_frames : about1.frames = Frame.invoking theMethod args0 :: below0 := rfl
set_option maxRecDepth 65536 in
theorem w_args : argsFit about1.vm theMethod args0 = true := by decide +kernel
set_option maxRecDepth 65536 in
theorem w_heap : heapFits about1 = true := by decide +kernel
set_option maxRecDepth 65536 in
theorem w_runnable : about1.curStatus? = some .runnable := by decide +kernel
set_option maxRecDepth 65536 in
theorem w_alone : about1.alone = true := by decide +kernel
set_option maxRecDepth 65536 in
theorem w_named : about1.methodNamed? x = some theMethod := by decide +kernel
set_option maxRecDepth 65536 in
theorem w_hears : about1.hears theMethod below0 = true := by decide +kernel
set_option maxRecDepth 65536 in
theorem w_ripe : about1.ripe theMethod args0 below0 = true := by decide +kernel
theorem w_running : about1.status = .running := rfl
set_option maxRecDepth 65536 in
theorem w_room : about1.hasRoom e0.platform room_1 = true :=
  launch0.hasRoom_least _ room_1 (by decide +kernel) (by decide +kernel) (by decide +kernel) (by decide +kernel) (by decide +kernel) (by decide +kernel)
theorem allAtoms_all (ts : List Jvm.Cond) (a : Array Jvm.Value) (st : Jvm.State) : (allAtoms ts).before a st = ts.all (fun c => c.before a st) := by
  induction ts with
  | nil => rfl
  | cons c t ih =>
    show (Jvm.Cond.and c (allAtoms t)).before a st = _
    rw [Jvm.Cond.before_and, ih, List.all_cons]
def words1 : List Jvm.Cond := Jvm.Cond.code x code maxLocals ret :: tables_1
/-- a 'code' word, met by the world's own term for the bytes: nothing is compared byte by byte -/
theorem code_word {y : MethodName} {bytes : ByteArray} {mx : Nat} {rt : Option FieldType} {a : Array Value} {s : State} {m : MethodId} {meth : Method} {c : Code} (h1 : s.methodNamed? y = some m) (h2 : s.vm.method? m = some meth) (h3 : meth.code = some c) (h4 : c.code = bytes)
    (h5 : (c.maxLocals == mx && c.exceptionTable.isEmpty && decide (c.maxStack ≤ mostOperands) && decide (meth.sig.returnType = rt) && !meth.locks && decide (parseMethodDescriptor y.desc = some meth.sig)) = true) : (Jvm.Cond.code y bytes mx rt).before a s = true := by
  simp only [Bool.and_eq_true, beq_iff_eq, Bool.not_eq_true', decide_eq_true_eq] at h5
  obtain ⟨⟨⟨⟨⟨g1, g2⟩, g3⟩, g4⟩, g5⟩, g6⟩ := h5
  simp [Cond.before, Cond.holds, Cond.value, h1, h2, h3, h4, g1, g2, g3, g4, g5, g6]
def isCode : Jvm.Cond → Bool
  | .code _ _ _ _ => true
  | _ => false
theorem all_split {L : List Jvm.Cond} {P : Jvm.Cond → Bool} (h1 : L.all (fun c => isCode c || P c) = true) (h2 : ∀ c ∈ L.filter isCode, P c = true) : L.all P = true := by
  refine List.all_eq_true.mpr fun c hc => ?_
  have h := List.all_eq_true.mp h1 c hc
  rcases Bool.eq_false_or_eq_true (isCode c) with hi | hi
  · exact h2 c (List.mem_filter.mpr ⟨hc, hi⟩)
  · simpa [hi] using h
set_option maxRecDepth 65536 in
theorem w_c0 : (Jvm.Cond.code x code maxLocals ret).before args0 about1 = true := code_word (m := ⟨1, 1⟩) (meth := k1m1) (c := k1c1) (by decide +kernel) rfl rfl rfl (by decide +kernel)
set_option maxRecDepth 65536 in
theorem w_c1 : (Jvm.Cond.code ({ cls := "com/example/kontroller/kontroller/synthesis/StateGraph", name := "any", desc := "([I[Z)Z" } : Jvm.MethodName) prog_84_method_10_code (4 : Nat) (Option.some Jvm.ClassFile.FieldType.boolean)).before args0 about1 = true := code_word (m := ⟨2, 0⟩) (meth := k2m0) (c := k2c0) (by decide +kernel) rfl rfl rfl (by decide +kernel)
def codes1 : List Jvm.Cond := [Jvm.Cond.code x code maxLocals ret, Jvm.Cond.code ({ cls := "com/example/kontroller/kontroller/synthesis/StateGraph", name := "any", desc := "([I[Z)Z" } : Jvm.MethodName) prog_84_method_10_code (4 : Nat) (Option.some Jvm.ClassFile.FieldType.boolean)]
set_option maxRecDepth 65536 in
theorem codes_eq : words1.filter isCode = codes1 := rfl
theorem w_codes : ∀ c ∈ words1.filter isCode, c.before args0 about1 = true := by
  rw [codes_eq]
  intro c hc
  simp only [codes1, List.mem_cons, List.not_mem_nil, or_false] at hc
  rcases hc with rfl | rfl
  · exact w_c0
  · exact w_c1
set_option maxRecDepth 65536 in
theorem w_t1 : words1.all (fun c => isCode c || c.before args0 about1) = true := by decide +kernel
theorem w_tables : (allAtoms (Jvm.Cond.code x code maxLocals ret :: tables_1)).before args0 about1 = true := by
  rw [allAtoms_all]
  show words1.all (fun c => c.before args0 about1) = true
  refine all_split ?_ w_codes
  rw [w_t1]
set_option maxRecDepth 65536 in
theorem w_case : (Jvm.Cond.and given_1 narrow_1).before args0 about1 = true := by decide +kernel
theorem w_applies : (headSpec (Jvm.Cond.code x code maxLocals ret :: tables_1) room_1).applies x e0.platform about1 = true :=
  (Spec.applies_iff w_frames).mpr ⟨w_running, w_runnable, w_alone, w_named, w_hears, w_ripe, w_room, w_tables⟩
theorem atStart : AtStart classFile x code maxLocals ret World_1 tables_1 room_1 Calls_1 rest_1 Pre_1 launch0 p0 e0 about1 theMethod args0 below0 :=
  ⟨lists_1, trivial, launch0.admits_env _ _ _, launch0.least_env, fairChoices_fair.cas, fairChoices_fair.clock, w_frames, w_args, w_heap, w_applies, trivial, trivial, w_case⟩
end start1
theorem witness_1 : WitnessClaimed_1 := ⟨start1.p0, start1.e0, start1.about1, start1.theMethod, start1.args0, start1.below0, start1.atStart⟩
end Jvm.Pilot.@@N@@
