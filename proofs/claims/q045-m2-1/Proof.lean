import JvmDerived
import JvmDerived.Pilot.@@N@@Statement
import JvmDerived.Pilot.@@N@@Code
set_option linter.unusedVariables false
set_option linter.unusedSimpArgs false
namespace Jvm.RoadKit
open Sem ClassFile Op Lib Jvm.Stand Jvm.Free Jvm.LawKit
section OwnEnds
variable {p : Program} {l : Launch} {e : Env} {R : Room} {s : State} {m : MethodId} {args : Array Value} {below : List Frame} {meth : Method} {c : Code} {T T' : State} {locs : List Loc} {cells slots : Nat} {g g' : JFrame} {Q : Option Value → Heap → List Loc → Prop} {C N : Nat}
/-- from here (the state T, the frame g on top) the run ends, and what it leaves is Q -/
def RunsTo (p : Program) (e : Env) (below : List Frame) (s T : State) (g : JFrame) (Q : Option Value → Heap → List Loc → Prop) (C N : Nat) : Prop :=
  ∃ U o, Steps p.tables e below (T.setTop g) U ∧ U.status = .running ∧ Ended U below o ∧ ∃ v L, o = .returned v ∧ Q v U.heap L ∧ FrameEnd s o U L C N
theorem RunsTo.of (k : ∀ t, Steps p.tables e below (T'.setTop g') t → Steps p.tables e below (T.setTop g) t) (h : RunsTo p e below s T' g' Q C N) : RunsTo p e below s T g Q C N := by
  obtain ⟨U, o, k1, r⟩ := h
  exact ⟨U, o, k U k1, r⟩
theorem RunsTo.start (q : g = g') (h : RunsTo p e below s T g' Q C N) : ∃ U o, Steps p.tables e below (T.setTop g) U ∧ U.status = .running ∧ Ended U below o ∧ ∃ v L, o = .returned v ∧ Q v U.heap L ∧ FrameEnd s o U L C N := by
  subst q; exact h
theorem RunsTo.leave (X : Stand p l e R s m args below meth c T locs cells slots) {v : Option Value} (hv : meth.sig.returnType = none → v = none) (hlocks : meth.locks = false) (hq : Q v T.heap locs) (hC : cells ≤ C) (hN : slots ≤ N)
    (k : ∀ fs, (∀ (f : JFrame) (acts : List Action), f.method = m → f.locked = none → f.entered = [] → (doReturn e (T.setTop f) acts v).1 = T.setFrames fs) → Steps p.tables e below (T.setTop g) (T.setFrames fs)) : RunsTo p e below s T g Q C N := by
  obtain ⟨fs, hr, hrun, hended, hW, hsame⟩ := X.leave (v := v) hv hlocks
  exact ⟨_, _, k fs hr, hrun, hended, v, _, rfl, hq, ⟨_, rfl⟩, hW, hsame.mono hC hN⟩
theorem RunsTo.retI (X : Stand p l e R s m args below meth c T locs cells slots) (hx : p.tables.exec = Jvm.exec) {pc : Nat} {Ls : Array Slot} {z : Int32} {rest : List Value} (hret : meth.sig.returnType = some .int) (hlocks : meth.locks = false) (hd : decode c.code pc = .ok (.ireturn, 1)) (hq : Q (some (.int z)) T.heap locs) (hC : cells ≤ C) (hN : slots ≤ N) :
    RunsTo p e below s T (mkF m pc Ls (.int z :: rest)) Q C N := by
  refine RunsTo.leave X (fun h => by rw [hret] at h; cases h) hlocks hq hC hN fun fs hl => ?_
  have hm' : T.vm.method? m = some meth := X.method'
  have hn : narrow .int (.int z) = .int z := rfl
  show Steps p.tables e below (T.setTop { method := m, pc := pc, locals := Ls, stack := _ :: rest, locked := none }) _
  jvm_step X.here [X.here.top, hx, hd, hm', hret, hn]
  first | (intro acts; rw [hl _ acts rfl rfl rfl]) | rw [hl _ _ rfl rfl rfl]
  exact Steps.refl _
theorem RunsTo.retJ (X : Stand p l e R s m args below meth c T locs cells slots) (hx : p.tables.exec = Jvm.exec) {pc : Nat} {Ls : Array Slot} {z : Int64} {rest : List Value} (hret : meth.sig.returnType = some .long) (hlocks : meth.locks = false) (hd : decode c.code pc = .ok (.lreturn, 1)) (hq : Q (some (.long z)) T.heap locs) (hC : cells ≤ C) (hN : slots ≤ N) :
    RunsTo p e below s T (mkF m pc Ls (.long z :: rest)) Q C N := by
  refine RunsTo.leave X (fun h => by rw [hret] at h; cases h) hlocks hq hC hN fun fs hl => ?_
  have hm' : T.vm.method? m = some meth := X.method'
  show Steps p.tables e below (T.setTop { method := m, pc := pc, locals := Ls, stack := _ :: rest, locked := none }) _
  jvm_step X.here [X.here.top, hx, hd, hm', hret, narrow]
  first | (intro acts; rw [hl _ acts rfl rfl rfl]) | rw [hl _ _ rfl rfl rfl]
  exact Steps.refl _
theorem RunsTo.retA (X : Stand p l e R s m args below meth c T locs cells slots) (hx : p.tables.exec = Jvm.exec) {pc : Nat} {Ls : Array Slot} {z : Value} {ty : FieldType} (hret : meth.sig.returnType = some ty) (hty : ty.isReference = true) (hz : z.isRef = true) (hlocks : meth.locks = false) (hd : decode c.code pc = .ok (.areturn, 1)) (hq : Q (some z) T.heap locs) (hC : cells ≤ C) (hN : slots ≤ N) :
    RunsTo p e below s T (mkF m pc Ls [z]) Q C N :=
  RunsTo.leave X (fun h => by rw [hret] at h; cases h) hlocks hq hC hN fun fs hl => X.areturnOut hx hz hret hty hd hl
theorem RunsTo.retN (X : Stand p l e R s m args below meth c T locs cells slots) (hx : p.tables.exec = Jvm.exec) {pc : Nat} {Ls : Array Slot} {z : Int32} {t : FieldType} {rest : List Value} (hret : meth.sig.returnType = some t) (ht : t = .boolean ∨ t = .byte ∨ t = .char ∨ t = .short) (hlocks : meth.locks = false) (hd : decode c.code pc = .ok (.ireturn, 1)) (hq : Q (some (.int (nar t z))) T.heap locs) (hC : cells ≤ C) (hN : slots ≤ N) :
    RunsTo p e below s T (mkF m pc Ls (.int z :: rest)) Q C N :=
  RunsTo.leave X (fun h => by rw [hret] at h; cases h) hlocks hq hC hN fun fs hl => Jvm.RoadKit.retN X hx hret ht hd hl
theorem RunsTo.retV (X : Stand p l e R s m args below meth c T locs cells slots) (hx : p.tables.exec = Jvm.exec) {pc : Nat} {Ls : Array Slot} (hret : meth.sig.returnType = none) (hlocks : meth.locks = false) (hd : decode c.code pc = .ok (.return_, 1)) (hq : Q none T.heap locs) (hC : cells ≤ C) (hN : slots ≤ N) :
    RunsTo p e below s T (mkF m pc Ls []) Q C N :=
  RunsTo.leave X (fun _ => rfl) hlocks hq hC hN fun fs hl => X.returnOut hx hret hd hl
end OwnEnds
theorem nar_ref (ty : FieldType) {v : Value} (hv : v.isRef = true) : narrow ty v = v := by rcases ref_cases hv with rfl | ⟨a, rfl⟩ <;> cases ty <;> rfl
theorem fits_ref' {ty : FieldType} {v : Value} (h : ty.isReference = true) (hv : v.isRef = true) : fits ty v = true := by rcases ref_cases hv with rfl | ⟨a, rfl⟩ <;> cases ty <;> simp_all [fits, FieldType.isReference]
section OwnArf
variable {Z : State} {h h' : Heap} {a b : Addr} {c : Cell} {k : ClassId} {ty : FieldType} {z j : Int32} {f f' : Nat → Value} {v : Value} {sl : Nat} {ws : List Addr}
/-- an array: its kind, its length z, and what each place holds -/
def Arf (Z : State) (h : Heap) (a : Addr) (ty : FieldType) (z : Int32) (f : Nat → Value) : Prop := ∃ c : Cell, Arr Z h a c ty ∧ c.slots.size = z.toNatClampNeg ∧ ¬ z < 0 ∧ ∀ j, j < c.slots.size → c.slots[j]? = some (f j)
theorem Arf.lt (F : Arf Z h a ty z f) : a < h.size := by obtain ⟨c, A, -⟩ := F; exact A.lt
theorem Arf.ext (F : Arf Z h a ty z f) (E : Ext h h') : Arf Z h' a ty z f := by obtain ⟨c, A, r⟩ := F; exact ⟨c, A.ext E, r⟩
theorem Arf.other (F : Arf Z h b ty z f) (W : Wr h h' a sl v) (q : b ≠ a) : Arf Z h' b ty z f := by obtain ⟨c, A, r⟩ := F; exact ⟨c, A.other W q, r⟩
theorem Arf.keep (F : Arf Z h a ty z f) (K : Keep h h' ws) (q : a ∉ ws) : Arf Z h' a ty z f := by obtain ⟨c, A, r⟩ := F; exact ⟨c, ⟨K.2.1 a c A.1 q, A.2⟩, r⟩
theorem Arf.new (A : Arr Z h a (newA k ty z) ty) (q : ¬ z < 0) : Arf Z h a ty z (fun _ => defaultValue ty) := ⟨_, A, sz_new _ _ _, q, fun i hi => by rw [sz_new] at hi; simp [newA, hi]⟩
theorem Arf.congr (F : Arf Z h a ty z f) (q : ∀ i, i < z.toNatClampNeg → f i = f' i) : Arf Z h a ty z f' := by
  obtain ⟨c, A, S, M, H⟩ := F
  exact ⟨c, A, S, M, fun i hi => by rw [← q i (S ▸ hi)]; exact H i hi⟩
theorem Arf.set (A : Arr Z h a c ty) (S : c.slots.size = z.toNatClampNeg) (M : ¬ z < 0) (H : ∀ i, i < c.slots.size → c.slots[i]? = some (f i)) (W : Wr h h' a j.toNatClampNeg v) : Arf Z h' a ty z (fun i => if i = j.toNatClampNeg then v else f i) := by
  refine ⟨_, A.same W, by rw [sz_set]; exact S, M, fun i hi => ?_⟩
  rw [sz_set] at hi
  by_cases u : i = j.toNatClampNeg
  · subst u
    simp [Cell.setSlot, hi]
  · have : (c.setSlot j.toNatClampNeg v).slots[i]? = c.slots[i]? := by
      simp only [Cell.setSlot]; exact Array.getElem?_setIfInBounds_ne (Ne.symm u)
    rw [this]; show _ = some (if i = j.toNatClampNeg then v else f i); rw [if_neg u]; exact H i hi
end OwnArf
end Jvm.RoadKit
namespace Jvm.Pilot.@@N@@
open Jvm Jvm.ClassFile Sem Op Lib Jvm.Free Jvm.Stand Jvm.LawKit Jvm.RoadKit Bundle Jvm.Pilot.@@N@@.Jvm.D
/-! numbers, and what a copy holds -/
theorem own_sel {s : State} {args : Array Value} {y : MethodName} {n : Nat} (wi : (Cond.instantiable y.cls n).before args s = true) (hp : s.PrivateAt y) (hi : (Cond.instanceMethod y).before args s = true) (hy : y.cls ≠ "java/lang/invoke/MethodHandle" ∧ y.cls ≠ "java/lang/invoke/VarHandle") : (Cond.selects y.cls y y).before args s = true := by
  obtain ⟨c, k, h1, h2, h3, h4, -⟩ := Cond.instantiable_spec wi
  rw [Bool.or_eq_false_iff] at h4
  exact selects_self_of_private h1 h2 h4.1 hp hi hy
def own_min (x y : Int32) : Int32 := if y < x then y else x
theorem own_nat (j : Int32) (h : 0 ≤ j.toInt) : (j.toNatClampNeg : Int) = j.toInt := by simp only [Int32.toNatClampNeg]; omega
def own_sb (x : Int32) (i : Nat) : Int32 := nar .byte (if i = 3 then ((x.toUInt32 >>> ((24 : Int32) &&& 31).toUInt32).toInt32).toInt8.toInt32 else if i = 2 then ((x.toUInt32 >>> ((16 : Int32) &&& 31).toUInt32).toInt32).toInt8.toInt32 else if i = 1 then ((x.toUInt32 >>> ((8 : Int32) &&& 31).toUInt32).toInt32).toInt8.toInt32 else x.toInt8.toInt32)
theorem own_fit (x : Int32) (i : Nat) : fits .byte (.int (own_sb x i)) = true := fits_nar_byte _
theorem own_cp {vd : List Value} {f : Nat → Value} {lo nn : Nat} {d : Value} (h : lo + nn ≤ 4) (i : Nat) (hi : i < nn) :
    (vd.take 0 ++ (List.range nn).map (fun i => ((List.range 4).map f).getD (lo + i) d) ++ vd.drop (0 + nn)).getD i d = f (lo + i) := by
  have h1 : ((List.range 4).map f).getD (lo + i) d = f (lo + i) := by
    rw [List.getD_eq_getElem?_getD, List.getElem?_map, List.getElem?_range (by omega)]; rfl
  rw [List.take_zero, List.nil_append, List.getD_eq_getElem?_getD, List.getElem?_append_left (by simpa using hi), List.getElem?_map, List.getElem?_range hi]
  exact h1
theorem own_arv {Z : State} {h : Heap} {a : Addr} {ty : FieldType} {z : Int32} {f : Nat → Value} (F : Arf Z h a ty z f) (hf : ∀ i, i < z.toNatClampNeg → fits ty (f i) = true) (d : Value) : ∃ k, Arv Z h a k ty z ((List.range z.toNatClampNeg).map f) d := by
  obtain ⟨c, A, S, M, H⟩ := F
  have e : ∀ i, i < c.slots.size → ((List.range z.toNatClampNeg).map f).getD i d = f i := fun i hi => by
    rw [List.getD_eq_getElem?_getD, List.getElem?_map, List.getElem?_range (S ▸ hi)]; rfl
  exact ⟨c.cls, c, A, rfl, S, M, fun i hi => by rw [e i hi]; exact H i hi, fun i hi => by rw [e i hi]; exact hf i (S ▸ hi)⟩
theorem own_arf {Z : State} {h : Heap} {a : Addr} {k : ClassId} {ty : FieldType} {z : Int32} {vs : List Value} {d : Value} (F : Arv Z h a k ty z vs d) : Arf Z h a ty z (fun i => vs.getD i d) := by
  obtain ⟨c, A, -, S, M, H, -⟩ := F
  exact ⟨c, A, S, M, H⟩
theorem own_five (x : Int32) : 0 ≤ ((x &&& 2147483647) % 5).toInt ∧ ((x &&& 2147483647) % 5).toInt ≤ 4 := by
  have h := c_mask x 2147483647 31 (by decide) (by decide)
  have h' := (c_irem (x &&& 2147483647) 5 5 rfl).1 (by omega)
  omega
theorem d9_0 : decode jdk_29_method_69_code 0 = .ok (.iload_n 0, 1) := by decide +kernel
theorem d9_1 : decode jdk_29_method_69_code 1 = .ok (.iload_n 1, 1) := by decide +kernel
theorem d9_2 : decode jdk_29_method_69_code 2 = .ok (.if_icmp .gt 7, 3) := by decide +kernel
theorem d9_9 : decode jdk_29_method_69_code 9 = .ok (.iload_n 1, 1) := by decide +kernel
theorem d9_5 : decode jdk_29_method_69_code 5 = .ok (.iload_n 0, 1) := by decide +kernel
theorem d9_6 : decode jdk_29_method_69_code 6 = .ok (.goto 4, 3) := by decide +kernel
theorem d9_10 : decode jdk_29_method_69_code 10 = .ok (.ireturn, 1) := by decide +kernel
theorem ef_rm_min (m : MethodId) (x0 : Int32) (x1 : Int32) : entryFrame m #[(.int x0), (.int x1)] 2 = mkF m 0 #[.val (.int x0), .val (.int x1)] [] := by first | (simp [entryFrame, mkF, argsToLocals, Value.category]; done) | rfl
def Q_min (Z : State) (x0 : Int32) (x1 : Int32) (h0 : Heap) (n0 : Nat) (v : Option Value) (h : Heap) (L : List Loc) : Prop := v = some (.int (own_min x0 x1)) ∧ Fr n0 L ∧ h = h0
set_option maxRecDepth 65536 in
set_option maxHeartbeats 40000000 in
theorem rm_min (l : Launch) (Z : State) (a0 : Array Value) (hw : ∀ d ∈ tables_1, d.before a0 Z = true) (ws : List Jvm.Cond) (x0 : Int32) (x1 : Int32) (h0 : Heap) (n0 : Nat) (Z0 : n0 ≤ h0.size)  :
    MetFree l (⟨"java/lang/Math", "min", "(II)I"⟩ : MethodName) (head1 (Jvm.Cond.code (⟨"java/lang/Math", "min", "(II)I"⟩ : MethodName) jdk_29_method_69_code 2 (some .int) :: ws) ({ frames := 0, cells := 0, slots := 0, locals := 0 } : Room)) (fun as' U => as' = #[(.int x0), (.int x1)] ∧ Z.Warmed39 U.vm ∧ U.heap = h0) (fun _ _ _ _ _ => True) (fun _ U_ o_ U'_ => ∃ v_ L_, o_ = .returned v_ ∧ Q_min Z x0 x1 h0 n0 v_ U'_.heap L_ ∧ FrameEnd U_ o_ U'_ L_ ({ frames := 0, cells := 0, slots := 0, locals := 0 } : Room).cells ({ frames := 0, cells := 0, slots := 0, locals := 0 } : Room).slots) := by
  refine MetFree.of_bodySF (Jvm.Free.JP.mathPlain rfl (by decide +kernel)) hisR ?_
  intro p e s m args below meth c s₁ Bd hml0 hP hK
  obtain ⟨rfl, hZ, hh⟩ := hP
  have hx := Bd.exec
  have hby := Bd.bytes
  have hml : c.maxLocals = 2 := hml0
  have hown : s.vm.findClass "java/lang/Math" = some m.cls := findClass_of_methodNamed Bd.named
  have hnm := (name_of_methodNamed Bd.named Bd.method).1
  have X0 : Stand p l e ({ frames := 0, cells := 0, slots := 0, locals := 0 } : Room) s m #[(.int x0), (.int x1)] below meth c s₁ [] 0 0 := Stand.of_body Bd
  have e0 : s₁.heap = h0 := by rw [← hh, Bd.state]; rfl
  have N0 := Fr.nil n0
  refine RunsTo.start (ef_rm_min m x0 x1) ?_
  show RunsTo p e below s s₁ (mkF m 0 #[.val (.int x0), .val (.int x1)] []) (Q_min Z x0 x1 h0 n0) ({ frames := 0, cells := 0, slots := 0, locals := 0 } : Room).cells ({ frames := 0, cells := 0, slots := 0, locals := 0 } : Room).slots
  refine RunsTo.of (T' := s₁) (g' := (mkF m 2 #[.val (.int x0), .val (.int x1)] [(.int x1), (.int x0)])) (fun tgt_ kt => ?_) ?_
  · refine XS.iloadN X0.here hx rfl (hb hby d9_0) rfl ?_
    show Steps p.tables e below (s₁.setTop (mkF m 1 #[.val (.int x0), .val (.int x1)] [(.int x0)])) _
    refine XS.iloadN X0.here hx rfl (hb hby d9_1) rfl ?_
    show Steps p.tables e below (s₁.setTop (mkF m 2 #[.val (.int x0), .val (.int x1)] [(.int x1), (.int x0)])) _
    exact kt
  obtain ⟨y, hy⟩ : ∃ z : Int32, z = (if x1 < x0 then x1 else x0) := ⟨_, rfl⟩
  refine RunsTo.of (T' := s₁) (g' := (mkF m 10 #[.val (.int x0), .val (.int x1)] [(.int y)])) (fun tgt_ kt => ?_) ?_
  · by_cases hc2 : x1 < x0
    · refine XS.icmpYes X0.here hx rfl (pc0 := 2) (pc' := 9) rfl (hb hby d9_2) rfl (tlt hc2).2.2.1 (by decide) (by decide) ?_
      show Steps p.tables e below (s₁.setTop (mkF m 9 #[.val (.int x0), .val (.int x1)] [])) _
      try rw [if_pos hc2] at hy
      rw [hy] at kt
      refine XS.iloadN X0.here hx rfl (hb hby d9_9) rfl ?_
      show Steps p.tables e below (s₁.setTop (mkF m 10 #[.val (.int x0), .val (.int x1)] [(.int x1)])) _
      exact kt
    · refine XS.icmpNo X0.here hx rfl (hb hby d9_2) rfl (flt hc2).2.2.1 ?_
      show Steps p.tables e below (s₁.setTop (mkF m 5 #[.val (.int x0), .val (.int x1)] [])) _
      try rw [if_neg hc2] at hy
      rw [hy] at kt
      refine XS.iloadN X0.here hx rfl (hb hby d9_5) rfl ?_
      show Steps p.tables e below (s₁.setTop (mkF m 6 #[.val (.int x0), .val (.int x1)] [(.int x0)])) _
      refine XS.goto X0.here hx rfl (pc0 := 6) (pc' := 10) rfl (hb hby d9_6) (by decide) (by decide) ?_
      show Steps p.tables e below (s₁.setTop (mkF m 10 #[.val (.int x0), .val (.int x1)] [(.int x0)])) _
      exact kt
  refine RunsTo.retI X0 hx Bd.returns Bd.notSynchronized (hb hby d9_10) ?_ (by decide) (by decide)
  rw [e0, hy]
  exact ⟨rfl, N0, rfl⟩
theorem d8_0 : decode jdk_65_method_131_code 0 = .ok (.iload_n 1, 1) := by decide +kernel
theorem d8_1 : decode jdk_65_method_131_code 1 = .ok (.iload_n 0, 1) := by decide +kernel
theorem d8_2 : decode jdk_65_method_131_code 2 = .ok (.if_icmp .ge 35, 3) := by decide +kernel
theorem d8_37 : decode jdk_65_method_131_code 37 = .ok (.return_, 1) := by decide +kernel
theorem pn_0 : plainName "java/util/Arrays" = true := by first | (simp [plainName, overriddenIn]; done) | decide +kernel
theorem ef_rm_chk (m : MethodId) (x0 : Int32) (x1 : Int32) : entryFrame m #[(.int x0), (.int x1)] 2 = mkF m 0 #[.val (.int x0), .val (.int x1)] [] := by first | (simp [entryFrame, mkF, argsToLocals, Value.category]; done) | rfl
def Q_chk (Z : State) (x0 : Int32) (x1 : Int32) (h0 : Heap) (n0 : Nat) (v : Option Value) (h : Heap) (L : List Loc) : Prop := v = none ∧ Fr n0 L ∧ h = h0
set_option maxRecDepth 65536 in
set_option maxHeartbeats 40000000 in
theorem rm_chk (l : Launch) (Z : State) (a0 : Array Value) (hw : ∀ d ∈ tables_1, d.before a0 Z = true) (ws : List Jvm.Cond) (x0 : Int32) (x1 : Int32) (h0 : Heap) (n0 : Nat) (Z0 : n0 ≤ h0.size) (hle : ¬ x1 < x0) :
    MetFree l (⟨"java/util/Arrays", "checkLength", "(II)V"⟩ : MethodName) (head1 (Jvm.Cond.code (⟨"java/util/Arrays", "checkLength", "(II)V"⟩ : MethodName) jdk_65_method_131_code 2 none :: ws) ({ frames := 0, cells := 0, slots := 0, locals := 0 } : Room)) (fun as' U => as' = #[(.int x0), (.int x1)] ∧ Z.Warmed39 U.vm ∧ U.heap = h0) (fun _ _ _ _ _ => True) (fun _ U_ o_ U'_ => ∃ v_ L_, o_ = .returned v_ ∧ Q_chk Z x0 x1 h0 n0 v_ U'_.heap L_ ∧ FrameEnd U_ o_ U'_ L_ ({ frames := 0, cells := 0, slots := 0, locals := 0 } : Room).cells ({ frames := 0, cells := 0, slots := 0, locals := 0 } : Room).slots) := by
  refine MetFree.of_bodySF (plainFor_of_name pn_0) hisR ?_
  intro p e s m args below meth c s₁ Bd hml0 hP hK
  obtain ⟨rfl, hZ, hh⟩ := hP
  have hx := Bd.exec
  have hby := Bd.bytes
  have hml : c.maxLocals = 2 := hml0
  have hown : s.vm.findClass "java/util/Arrays" = some m.cls := findClass_of_methodNamed Bd.named
  have hnm := (name_of_methodNamed Bd.named Bd.method).1
  have X0 : Stand p l e ({ frames := 0, cells := 0, slots := 0, locals := 0 } : Room) s m #[(.int x0), (.int x1)] below meth c s₁ [] 0 0 := Stand.of_body Bd
  have e0 : s₁.heap = h0 := by rw [← hh, Bd.state]; rfl
  have N0 := Fr.nil n0
  refine RunsTo.start (ef_rm_chk m x0 x1) ?_
  show RunsTo p e below s s₁ (mkF m 0 #[.val (.int x0), .val (.int x1)] []) (Q_chk Z x0 x1 h0 n0) ({ frames := 0, cells := 0, slots := 0, locals := 0 } : Room).cells ({ frames := 0, cells := 0, slots := 0, locals := 0 } : Room).slots
  refine RunsTo.of (T' := s₁) (g' := (mkF m 37 #[.val (.int x0), .val (.int x1)] [])) (fun tgt_ kt => ?_) ?_
  · refine XS.iloadN X0.here hx rfl (hb hby d8_0) rfl ?_
    show Steps p.tables e below (s₁.setTop (mkF m 1 #[.val (.int x0), .val (.int x1)] [(.int x1)])) _
    refine XS.iloadN X0.here hx rfl (hb hby d8_1) rfl ?_
    show Steps p.tables e below (s₁.setTop (mkF m 2 #[.val (.int x0), .val (.int x1)] [(.int x0), (.int x1)])) _
    refine XS.icmpYes X0.here hx rfl (pc0 := 2) (pc' := 37) rfl (hb hby d8_2) rfl (flt hle).2.1 (by decide) (by decide) ?_
    show Steps p.tables e below (s₁.setTop (mkF m 37 #[.val (.int x0), .val (.int x1)] [])) _
    exact kt
  refine RunsTo.retV X0 hx Bd.returns Bd.notSynchronized (hb hby d8_37) ?_ (by decide) (by decide)
  rw [e0]
  exact ⟨rfl, N0, rfl⟩
theorem d7_0 : decode jdk_65_method_133_code 0 = .ok (.iload_n 1, 1) := by decide +kernel
theorem d7_1 : decode jdk_65_method_133_code 1 = .ok (.iload_n 2, 1) := by decide +kernel
theorem pd_0 : parseMethodDescriptor "(II)V" = some ⟨[.int, .int], none⟩ := by decide +kernel
theorem d7_2 : decode jdk_65_method_133_code 2 = .ok (.invokestatic 343, 3) := by decide +kernel
theorem d7_5 : decode jdk_65_method_133_code 5 = .ok (.iload_n 2, 1) := by decide +kernel
theorem d7_6 : decode jdk_65_method_133_code 6 = .ok (.iload_n 1, 1) := by decide +kernel
theorem d7_7 : decode jdk_65_method_133_code 7 = .ok (.isub, 1) := by decide +kernel
theorem d7_8 : decode jdk_65_method_133_code 8 = .ok (.istore_n 3, 1) := by decide +kernel
theorem d7_9 : decode jdk_65_method_133_code 9 = .ok (.iload_n 3, 1) := by decide +kernel
theorem d7_10 : decode jdk_65_method_133_code 10 = .ok (.newarray .byte, 2) := by decide +kernel
theorem d7_12 : decode jdk_65_method_133_code 12 = .ok (.astore 4, 2) := by decide +kernel
theorem d7_14 : decode jdk_65_method_133_code 14 = .ok (.aload_n 0, 1) := by decide +kernel
theorem d7_15 : decode jdk_65_method_133_code 15 = .ok (.iload_n 1, 1) := by decide +kernel
theorem d7_16 : decode jdk_65_method_133_code 16 = .ok (.aload 4, 2) := by decide +kernel
theorem d7_18 : decode jdk_65_method_133_code 18 = .ok (.iconst 0, 1) := by decide +kernel
theorem d7_19 : decode jdk_65_method_133_code 19 = .ok (.aload_n 0, 1) := by decide +kernel
theorem d7_20 : decode jdk_65_method_133_code 20 = .ok (.arraylength, 1) := by decide +kernel
theorem d7_21 : decode jdk_65_method_133_code 21 = .ok (.iload_n 1, 1) := by decide +kernel
theorem d7_22 : decode jdk_65_method_133_code 22 = .ok (.isub, 1) := by decide +kernel
theorem d7_23 : decode jdk_65_method_133_code 23 = .ok (.iload_n 3, 1) := by decide +kernel
theorem pd_1 : parseMethodDescriptor "(II)I" = some ⟨[.int, .int], some .int⟩ := by decide +kernel
theorem d7_24 : decode jdk_65_method_133_code 24 = .ok (.invokestatic 304, 3) := by decide +kernel
theorem d7_27 : decode jdk_65_method_133_code 27 = .ok (.invokestatic 150, 3) := by decide +kernel
theorem d7_30 : decode jdk_65_method_133_code 30 = .ok (.aload 4, 2) := by decide +kernel
theorem d7_32 : decode jdk_65_method_133_code 32 = .ok (.areturn, 1) := by decide +kernel
theorem ef_rm_crb (m : MethodId) (x0 : Addr) (x1 : Int32) (x2 : Int32) : entryFrame m #[(.ref x0), (.int x1), (.int x2)] 5 = mkF m 0 #[.val (.ref x0), .val (.int x1), .val (.int x2), .unset, .unset] [] := by first | (simp [entryFrame, mkF, argsToLocals, Value.category]; done) | rfl
def Q_crb (Z : State) (a : Addr) (x1 : Int32) (x2 : Int32) (f : Nat → Value) (h0 : Heap) (n0 : Nat) (v : Option Value) (h : Heap) (L : List Loc) : Prop := ∃ b : Addr, v = some (.ref b) ∧ Fr n0 L ∧ n0 ≤ b ∧ h0.size ≤ b ∧ Keep h0 h [] ∧ Arf Z h b .byte (x2 - x1) (fun i => f (x1.toNatClampNeg + i))
set_option maxRecDepth 65536 in
set_option maxHeartbeats 40000000 in
theorem rm_crb (l : Launch) (Z : State) (a0 : Array Value) (hw : ∀ d ∈ tables_1, d.before a0 Z = true) (ws : List Jvm.Cond) (a : Addr) (x1 : Int32) (x2 : Int32) (f : Nat → Value) (h0 : Heap) (n0 : Nat) (Z0 : n0 ≤ h0.size) (V_a : Arf Z h0 a .byte (4 : Int32) f) (hft : ∀ i, fits .byte (f i) = true) (E_a : Exa Z h0 a "[B") (hr : 0 ≤ x1.toInt ∧ x1.toInt ≤ x2.toInt ∧ x2.toInt ≤ 4) :
    MetFree l (⟨"java/util/Arrays", "copyOfRangeByte", "([BII)[B"⟩ : MethodName) (head1 (Jvm.Cond.code (⟨"java/util/Arrays", "copyOfRangeByte", "([BII)[B"⟩ : MethodName) jdk_65_method_133_code 5 (some (.array .byte)) :: ws) ({ frames := 1, cells := 1, slots := 4, locals := 18 } : Room)) (fun as' U => as' = #[(.ref a), (.int x1), (.int x2)] ∧ Z.Warmed39 U.vm ∧ U.heap = h0) (fun _ _ _ _ _ => True) (fun _ U_ o_ U'_ => ∃ v_ L_, o_ = .returned v_ ∧ Q_crb Z a x1 x2 f h0 n0 v_ U'_.heap L_ ∧ FrameEnd U_ o_ U'_ L_ ({ frames := 1, cells := 1, slots := 4, locals := 18 } : Room).cells ({ frames := 1, cells := 1, slots := 4, locals := 18 } : Room).slots) := by
  refine MetFree.of_bodySF (plainFor_of_name pn_0) hisR ?_
  intro p e s m args below meth c s₁ Bd hml0 hP hK
  obtain ⟨rfl, hZ, hh⟩ := hP
  have hx := Bd.exec
  have hby := Bd.bytes
  have hml : c.maxLocals = 5 := hml0
  have hown : s.vm.findClass "java/util/Arrays" = some m.cls := findClass_of_methodNamed Bd.named
  have hnm := (name_of_methodNamed Bd.named Bd.method).1
  have X0 : Stand p l e ({ frames := 1, cells := 1, slots := 4, locals := 18 } : Room) s m #[(.ref a), (.int x1), (.int x2)] below meth c s₁ [] 0 0 := Stand.of_body Bd
  have e0 : s₁.heap = h0 := by rw [← hh, Bd.state]; rfl
  have N0 := Fr.nil n0
  refine RunsTo.start (ef_rm_crb m a x1 x2) ?_
  show RunsTo p e below s s₁ (mkF m 0 #[.val (.ref a), .val (.int x1), .val (.int x2), .unset, .unset] []) (Q_crb Z a x1 x2 f h0 n0) ({ frames := 1, cells := 1, slots := 4, locals := 18 } : Room).cells ({ frames := 1, cells := 1, slots := 4, locals := 18 } : Room).slots
  refine RunsTo.of (T' := s₁) (g' := (mkF m 2 #[.val (.ref a), .val (.int x1), .val (.int x2), .unset, .unset] [(.int x2), (.int x1)])) (fun tgt_ kt => ?_) ?_
  · refine XS.iloadN X0.here hx rfl (hb hby d7_0) rfl ?_
    show Steps p.tables e below (s₁.setTop (mkF m 1 #[.val (.ref a), .val (.int x1), .val (.int x2), .unset, .unset] [(.int x1)])) _
    refine XS.iloadN X0.here hx rfl (hb hby d7_1) rfl ?_
    show Steps p.tables e below (s₁.setTop (mkF m 2 #[.val (.ref a), .val (.int x1), .val (.int x2), .unset, .unset] [(.int x2), (.int x1)])) _
    exact kt
  obtain ⟨_, _, ⟨T1, L1, k1, n1⟩, -, X1, ⟨Lc1, hQ1, l1, y1, z1⟩, st1⟩ := Jvm.LawKit.callS X0 hx (y := (⟨"java/util/Arrays", "checkLength", "(II)V"⟩ : MethodName)) hown (mvT hZ (hw _ (List.mem_of_getElem? (i := 36) rfl))) (mvT hZ (hw _ (List.mem_of_getElem? (i := 37) rfl))) (mvT hZ (hw _ (List.mem_of_getElem? (i := 31) rfl))) (mvT hZ (hw _ (List.mem_of_getElem? (i := 38) rfl))) (by decide) (backOf (W := 0) (rm_chk l Z a0 hw [] x1 x2 h0 n0 Z0 (by rw [Int32.lt_iff_toInt_lt]; omega)) hZ (hw _ (List.mem_of_getElem? (i := 38) rfl)) (hw _ (List.mem_of_getElem? (i := 31) rfl)) (by decide) (by decide)) (g := (mkF m 2 #[.val (.ref a), .val (.int x1), .val (.int x2), .unset, .unset] [(.int x2), (.int x1)])) rfl (by rw [hml]; rfl) (argsL := [(.int x1), (.int x2)]) (rest := []) (lenOf pd_0 rfl) rfl (by show 2 * 0 + _ ≤ _; exact Nat.le_of_eq rfl) (hb hby d7_2) (fun _ _ => ⟨rfl, e0, (by decide : 0 + 0 ≤ _), (by decide : 0 + 0 ≤ _)⟩)
  dsimp only [Pt.U, Pt.locs, Pt.cells, Pt.slots] at X1 l1 y1 z1 st1 hQ1
  subst l1 y1 z1
  obtain ⟨rfl, N1q, e1⟩ := hQ1
  have N1 := Fr.app N0 N1q
  refine RunsTo.of (T' := T1) (g' := (mkF m 5 #[.val (.ref a), .val (.int x1), .val (.int x2), .unset, .unset] [])) st1 ?_
  refine RunsTo.of (T' := T1) (g' := (mkF m 10 #[.val (.ref a), .val (.int x1), .val (.int x2), .val (.int (x2 - x1)), .unset] [(.int (x2 - x1))])) (fun tgt_ kt => ?_) ?_
  · refine XS.iloadN X1.here hx rfl (hb hby d7_5) rfl ?_
    show Steps p.tables e below (T1.setTop (mkF m 6 #[.val (.ref a), .val (.int x1), .val (.int x2), .unset, .unset] [(.int x2)])) _
    refine XS.iloadN X1.here hx rfl (hb hby d7_6) rfl ?_
    show Steps p.tables e below (T1.setTop (mkF m 7 #[.val (.ref a), .val (.int x1), .val (.int x2), .unset, .unset] [(.int x1), (.int x2)])) _
    refine XS.isub X1.here hx rfl (hb hby d7_7) rfl ?_
    show Steps p.tables e below (T1.setTop (mkF m 8 #[.val (.ref a), .val (.int x1), .val (.int x2), .unset, .unset] [(.int (x2 - x1))])) _
    refine XS.istoreN X1.here hx rfl (hb hby d7_8) rfl (l' := #[.val (.ref a), .val (.int x1), .val (.int x2), .val (.int (x2 - x1)), .unset]) rfl ?_
    show Steps p.tables e below (T1.setTop (mkF m 9 #[.val (.ref a), .val (.int x1), .val (.int x2), .val (.int (x2 - x1)), .unset] [])) _
    refine XS.iloadN X1.here hx rfl (hb hby d7_9) rfl ?_
    show Steps p.tables e below (T1.setTop (mkF m 10 #[.val (.ref a), .val (.int x1), .val (.int x2), .val (.int (x2 - x1)), .unset] [(.int (x2 - x1))])) _
    exact kt
  have hs := c_isub x2 x1
  have hsr := rng32 (x2 - x1)
  have hs' : (x2 - x1).toInt = x2.toInt - x1.toInt := by omega
  have hneg : ¬ (x2 - x1) < 0 := by rw [Int32.lt_iff_toInt_lt]; show ¬ _ < (0 : Int); omega
  have hnn := own_nat (x2 - x1) (by omega)
  have hn1 := own_nat x1 hr.1
  obtain ⟨T2, h2, k2, X2, e2, E2, A2, st2⟩ := newP X1 hx hZ (hw _ (List.mem_of_getElem? (i := 0) rfl)) e1 (g := (mkF m 10 #[.val (.ref a), .val (.int x1), .val (.int x2), .val (.int (x2 - x1)), .unset] [(.int (x2 - x1))])) rfl (hb hby d7_10) rfl hneg (cap := 4) (by omega) (by decide) (by decide) (by decide)
  obtain ⟨b, g2⟩ : ∃ z, z = h0.size := ⟨_, rfl⟩
  rw [← g2] at A2 st2
  have Z2 : n0 ≤ h2.size := Nat.le_trans Z0 E2.1
  have g_b : n0 ≤ b := Nat.le_trans Z0 (Nat.le_of_eq g2.symm)
  have ne_a_b : a ≠ b := Nat.ne_of_lt (Nat.lt_of_lt_of_le V_a.lt (Nat.le_of_eq g2.symm))
  have V_a := V_a.ext E2
  have E_a := E_a.ext E2
  have V_b : Arf Z h2 b .byte (x2 - x1) (fun _ => (Value.int (0 : Int32))) := Arf.new A2 hneg
  refine RunsTo.of (T' := T2) (g' := (mkF m 12 #[.val (.ref a), .val (.int x1), .val (.int x2), .val (.int (x2 - x1)), .unset] [(.ref b)])) st2 ?_
  refine RunsTo.of (T' := T2) (g' := (mkF m 20 #[.val (.ref a), .val (.int x1), .val (.int x2), .val (.int (x2 - x1)), .val (.ref b)] [(.ref a), (.int (0 : Int32)), (.ref b), (.int x1), (.ref a)])) (fun tgt_ kt => ?_) ?_
  · refine XS.astore X2.here hx rfl (hb hby d7_12) rfl rfl (l' := #[.val (.ref a), .val (.int x1), .val (.int x2), .val (.int (x2 - x1)), .val (.ref b)]) rfl ?_
    show Steps p.tables e below (T2.setTop (mkF m 14 #[.val (.ref a), .val (.int x1), .val (.int x2), .val (.int (x2 - x1)), .val (.ref b)] [])) _
    refine XS.aloadN X2.here hx rfl (hb hby d7_14) rfl rfl ?_
    show Steps p.tables e below (T2.setTop (mkF m 15 #[.val (.ref a), .val (.int x1), .val (.int x2), .val (.int (x2 - x1)), .val (.ref b)] [(.ref a)])) _
    refine XS.iloadN X2.here hx rfl (hb hby d7_15) rfl ?_
    show Steps p.tables e below (T2.setTop (mkF m 16 #[.val (.ref a), .val (.int x1), .val (.int x2), .val (.int (x2 - x1)), .val (.ref b)] [(.int x1), (.ref a)])) _
    refine XS.aload X2.here hx rfl (hb hby d7_16) rfl rfl ?_
    show Steps p.tables e below (T2.setTop (mkF m 18 #[.val (.ref a), .val (.int x1), .val (.int x2), .val (.int (x2 - x1)), .val (.ref b)] [(.ref b), (.int x1), (.ref a)])) _
    refine XS.iconst X2.here hx rfl (hb hby d7_18) ?_
    show Steps p.tables e below (T2.setTop (mkF m 19 #[.val (.ref a), .val (.int x1), .val (.int x2), .val (.int (x2 - x1)), .val (.ref b)] [(.int (0 : Int32)), (.ref b), (.int x1), (.ref a)])) _
    refine XS.aloadN X2.here hx rfl (hb hby d7_19) rfl rfl ?_
    show Steps p.tables e below (T2.setTop (mkF m 20 #[.val (.ref a), .val (.int x1), .val (.int x2), .val (.int (x2 - x1)), .val (.ref b)] [(.ref a), (.int (0 : Int32)), (.ref b), (.int x1), (.ref a)])) _
    exact kt
  obtain ⟨cl_a_3, Ar_a_3, S_a_3, M_a_3, H_a_3⟩ := id V_a
  refine RunsTo.of (T' := T2) (g' := (mkF m 21 #[.val (.ref a), .val (.int x1), .val (.int x2), .val (.int (x2 - x1)), .val (.ref b)] [(.int (4 : Int32)), (.int (0 : Int32)), (.ref b), (.int x1), (.ref a)])) (fun tgt_ kt => ?_) ?_
  · refine X2.arraylength hx (by rw [e2]; exact Ar_a_3.1) (State.isArrayOf_alike hZ.alike Ar_a_3.2.1) (g := (mkF m 20 #[.val (.ref a), .val (.int x1), .val (.int x2), .val (.int (x2 - x1)), .val (.ref b)] [(.ref a), (.int (0 : Int32)), (.ref b), (.int x1), (.ref a)])) rfl rfl (hb hby d7_20) _ ?_
    rw [len_of S_a_3 M_a_3]
    show Steps p.tables e below (T2.setTop (mkF m 21 #[.val (.ref a), .val (.int x1), .val (.int x2), .val (.int (x2 - x1)), .val (.ref b)] [(.int (4 : Int32)), (.int (0 : Int32)), (.ref b), (.int x1), (.ref a)])) _
    exact kt
  refine RunsTo.of (T' := T2) (g' := (mkF m 24 #[.val (.ref a), .val (.int x1), .val (.int x2), .val (.int (x2 - x1)), .val (.ref b)] [(.int (x2 - x1)), (.int ((4 : Int32) - x1)), (.int (0 : Int32)), (.ref b), (.int x1), (.ref a)])) (fun tgt_ kt => ?_) ?_
  · refine XS.iloadN X2.here hx rfl (hb hby d7_21) rfl ?_
    show Steps p.tables e below (T2.setTop (mkF m 22 #[.val (.ref a), .val (.int x1), .val (.int x2), .val (.int (x2 - x1)), .val (.ref b)] [(.int x1), (.int (4 : Int32)), (.int (0 : Int32)), (.ref b), (.int x1), (.ref a)])) _
    refine XS.isub X2.here hx rfl (hb hby d7_22) rfl ?_
    show Steps p.tables e below (T2.setTop (mkF m 23 #[.val (.ref a), .val (.int x1), .val (.int x2), .val (.int (x2 - x1)), .val (.ref b)] [(.int ((4 : Int32) - x1)), (.int (0 : Int32)), (.ref b), (.int x1), (.ref a)])) _
    refine XS.iloadN X2.here hx rfl (hb hby d7_23) rfl ?_
    show Steps p.tables e below (T2.setTop (mkF m 24 #[.val (.ref a), .val (.int x1), .val (.int x2), .val (.int (x2 - x1)), .val (.ref b)] [(.int (x2 - x1)), (.int ((4 : Int32) - x1)), (.int (0 : Int32)), (.ref b), (.int x1), (.ref a)])) _
    exact kt
  have hm1 := c_isub 4 x1
  have hm1r := rng32 (4 - x1)
  rw [show (4 : Int32).toInt = 4 from rfl] at hm1
  have hmin : own_min (4 - x1) (x2 - x1) = x2 - x1 := by
    unfold own_min; split
    · rfl
    · rename_i q; rw [Int32.lt_iff_toInt_lt] at q; rw [← Int32.toInt_inj]; omega
  obtain ⟨_, _, ⟨T4, L4, k4, n4⟩, -, X4, ⟨Lc4, hQ4, l4, y4, z4⟩, st4⟩ := Jvm.LawKit.callS X2 hx (y := (⟨"java/lang/Math", "min", "(II)I"⟩ : MethodName)) hown (mvT hZ (hw _ (List.mem_of_getElem? (i := 39) rfl))) (mvT hZ (hw _ (List.mem_of_getElem? (i := 40) rfl))) (mvT hZ (hw _ (List.mem_of_getElem? (i := 41) rfl))) (mvT hZ (hw _ (List.mem_of_getElem? (i := 42) rfl))) (by decide) (backOf (W := 4) (rm_min l Z a0 hw [] (4 - x1) (x2 - x1) h2 n0 Z2 ) hZ (hw _ (List.mem_of_getElem? (i := 42) rfl)) (hw _ (List.mem_of_getElem? (i := 41) rfl)) (by decide) (by decide)) (g := (mkF m 24 #[.val (.ref a), .val (.int x1), .val (.int x2), .val (.int (x2 - x1)), .val (.ref b)] [(.int (x2 - x1)), (.int ((4 : Int32) - x1)), (.int (0 : Int32)), (.ref b), (.int x1), (.ref a)])) rfl (by rw [hml]; rfl) (argsL := [(.int ((4 : Int32) - x1)), (.int (x2 - x1))]) (rest := [(.int (0 : Int32)), (.ref b), (.int x1), (.ref a)]) (lenOf pd_1 rfl) rfl (by show 2 * 0 + _ ≤ _; exact Nat.le_of_eq rfl) (hb hby d7_24) (fun _ _ => ⟨rfl, e2, (by decide : 1 + 0 ≤ _), (by decide : 4 + 0 ≤ _)⟩)
  dsimp only [Pt.U, Pt.locs, Pt.cells, Pt.slots] at X4 l4 y4 z4 st4 hQ4
  subst l4 y4 z4
  obtain ⟨rfl, N4q, e4⟩ := hQ4
  have N4 := Fr.app N1 N4q
  refine RunsTo.of (T' := T4) (g' := (mkF m 27 #[.val (.ref a), .val (.int x1), .val (.int x2), .val (.int (x2 - x1)), .val (.ref b)] [(.int (own_min (4 - x1) (x2 - x1))), (.int (0 : Int32)), (.ref b), (.int x1), (.ref a)])) st4 ?_
  rw [hmin]
  obtain ⟨ka, R_a⟩ := own_arv V_a (fun i _ => hft i) (.int 0)
  obtain ⟨kb, R_b⟩ := own_arv V_b (fun i _ => by decide) (.int 0)
  obtain ⟨T5, h5, Lx5, X5, e5, N5, K5, R5, st5⟩ := cpA X4 hx hZ hown (hw _ (List.mem_of_getElem? (i := 43) rfl)) (hw _ (List.mem_of_getElem? (i := 46) rfl)) (hw _ (List.mem_of_getElem? (i := 44) rfl)) (hw _ (List.mem_of_getElem? (i := 45) rfl)) e4 R_a R_b (Or.inl ⟨rfl, rfl⟩) (sp := x1) (dp := 0) (nn := x2 - x1) (by rw [Int32.lt_iff_toInt_lt]; show ¬ _ < (0 : Int); omega) (by decide) hneg (by show x1.toNatClampNeg + (x2 - x1).toNatClampNeg ≤ 4; omega) (by show 0 + (x2 - x1).toNatClampNeg ≤ (x2 - x1).toNatClampNeg; omega) rfl (by show 0 + (x2 - x1).toNatClampNeg ≤ _; rw [List.length_map, List.length_range]; omega) N4 g_b (g := (mkF m 27 #[.val (.ref a), .val (.int x1), .val (.int x2), .val (.int (x2 - x1)), .val (.ref b)] [(.int (x2 - x1)), (.int (0 : Int32)), (.ref b), (.int x1), (.ref a)])) rfl (by rw [hml]; rfl) rfl (hb hby d7_27) (by decide) (W := 0) (by show 2 * 0 + _ ≤ _; exact Nat.le_of_eq rfl) (by decide)
  have V_b : Arf Z h5 b .byte (x2 - x1) (fun i => f (x1.toNatClampNeg + i)) := (own_arf R5).congr (fun i hi => own_cp (by omega) i hi)
  refine RunsTo.of (T' := T5) (g' := (mkF m 30 #[.val (.ref a), .val (.int x1), .val (.int x2), .val (.int (x2 - x1)), .val (.ref b)] [])) st5 ?_
  refine RunsTo.of (T' := T5) (g' := (mkF m 32 #[.val (.ref a), .val (.int x1), .val (.int x2), .val (.int (x2 - x1)), .val (.ref b)] [(.ref b)])) (fun tgt_ kt => ?_) ?_
  · refine XS.aload X5.here hx rfl (hb hby d7_30) rfl rfl ?_
    show Steps p.tables e below (T5.setTop (mkF m 32 #[.val (.ref a), .val (.int x1), .val (.int x2), .val (.int (x2 - x1)), .val (.ref b)] [(.ref b)])) _
    exact kt
  refine RunsTo.retA X5 hx Bd.returns rfl rfl Bd.notSynchronized (hb hby d7_32) ?_ (by decide) (by decide)
  rw [e5]
  exact ⟨b, rfl, N5, g_b, Nat.le_of_eq g2.symm, ((Keep.refl h0 []).ext E2).trans K5 (allS (Or.inr (Nat.le_of_eq g2.symm)) all0), V_b⟩
theorem d6_0 : decode jdk_65_method_132_code 0 = .ok (.iload_n 1, 1) := by decide +kernel
theorem d6_1 : decode jdk_65_method_132_code 1 = .ok (.ifCond .ne 9, 3) := by decide +kernel
theorem d6_4 : decode jdk_65_method_132_code 4 = .ok (.iload_n 2, 1) := by decide +kernel
theorem d6_5 : decode jdk_65_method_132_code 5 = .ok (.aload_n 0, 1) := by decide +kernel
theorem d6_6 : decode jdk_65_method_132_code 6 = .ok (.arraylength, 1) := by decide +kernel
theorem d6_7 : decode jdk_65_method_132_code 7 = .ok (.if_icmp .eq 10, 3) := by decide +kernel
theorem d6_17 : decode jdk_65_method_132_code 17 = .ok (.aload_n 0, 1) := by decide +kernel
theorem d6_18 : decode jdk_65_method_132_code 18 = .ok (.invokevirtual 310, 3) := by decide +kernel
theorem d6_21 : decode jdk_65_method_132_code 21 = .ok (.checkcast 311, 3) := by decide +kernel
theorem d6_24 : decode jdk_65_method_132_code 24 = .ok (.areturn, 1) := by decide +kernel
theorem d6_10 : decode jdk_65_method_132_code 10 = .ok (.aload_n 0, 1) := by decide +kernel
theorem d6_11 : decode jdk_65_method_132_code 11 = .ok (.iload_n 1, 1) := by decide +kernel
theorem d6_12 : decode jdk_65_method_132_code 12 = .ok (.iload_n 2, 1) := by decide +kernel
theorem pd_2 : parseMethodDescriptor "([BII)[B" = some ⟨[(.array .byte), .int, .int], some (.array .byte)⟩ := by decide +kernel
theorem d6_13 : decode jdk_65_method_132_code 13 = .ok (.invokestatic 339, 3) := by decide +kernel
theorem d6_16 : decode jdk_65_method_132_code 16 = .ok (.areturn, 1) := by decide +kernel
theorem ef_rm_cr (m : MethodId) (x0 : Addr) (x1 : Int32) (x2 : Int32) : entryFrame m #[(.ref x0), (.int x1), (.int x2)] 3 = mkF m 0 #[.val (.ref x0), .val (.int x1), .val (.int x2)] [] := by first | (simp [entryFrame, mkF, argsToLocals, Value.category]; done) | rfl
def Q_cr (Z : State) (a : Addr) (x1 : Int32) (x2 : Int32) (f : Nat → Value) (h0 : Heap) (n0 : Nat) (v : Option Value) (h : Heap) (L : List Loc) : Prop := ∃ b : Addr, v = some (.ref b) ∧ Fr n0 L ∧ n0 ≤ b ∧ h0.size ≤ b ∧ Keep h0 h [] ∧ Arf Z h b .byte (x2 - x1) (fun i => f (x1.toNatClampNeg + i))
set_option maxRecDepth 65536 in
set_option maxHeartbeats 40000000 in
theorem rm_cr (l : Launch) (Z : State) (a0 : Array Value) (hw : ∀ d ∈ tables_1, d.before a0 Z = true) (ws : List Jvm.Cond) (a : Addr) (x1 : Int32) (x2 : Int32) (f : Nat → Value) (h0 : Heap) (n0 : Nat) (Z0 : n0 ≤ h0.size) (V_a : Arf Z h0 a .byte (4 : Int32) f) (hft : ∀ i, fits .byte (f i) = true) (E_a : Exa Z h0 a "[B") (hr : 0 ≤ x1.toInt ∧ x1.toInt ≤ x2.toInt ∧ x2.toInt ≤ 4) :
    MetFree l (⟨"java/util/Arrays", "copyOfRange", "([BII)[B"⟩ : MethodName) (head1 (Jvm.Cond.code (⟨"java/util/Arrays", "copyOfRange", "([BII)[B"⟩ : MethodName) jdk_65_method_132_code 3 (some (.array .byte)) :: ws) ({ frames := 2, cells := 1, slots := 4, locals := 34 } : Room)) (fun as' U => as' = #[(.ref a), (.int x1), (.int x2)] ∧ Z.Warmed39 U.vm ∧ U.heap = h0) (fun _ _ _ _ _ => True) (fun _ U_ o_ U'_ => ∃ v_ L_, o_ = .returned v_ ∧ Q_cr Z a x1 x2 f h0 n0 v_ U'_.heap L_ ∧ FrameEnd U_ o_ U'_ L_ ({ frames := 2, cells := 1, slots := 4, locals := 34 } : Room).cells ({ frames := 2, cells := 1, slots := 4, locals := 34 } : Room).slots) := by
  refine MetFree.of_bodySF (plainFor_of_name pn_0) hisR ?_
  intro p e s m args below meth c s₁ Bd hml0 hP hK
  obtain ⟨rfl, hZ, hh⟩ := hP
  have hx := Bd.exec
  have hby := Bd.bytes
  have hml : c.maxLocals = 3 := hml0
  have hown : s.vm.findClass "java/util/Arrays" = some m.cls := findClass_of_methodNamed Bd.named
  have hnm := (name_of_methodNamed Bd.named Bd.method).1
  have X0 : Stand p l e ({ frames := 2, cells := 1, slots := 4, locals := 34 } : Room) s m #[(.ref a), (.int x1), (.int x2)] below meth c s₁ [] 0 0 := Stand.of_body Bd
  have e0 : s₁.heap = h0 := by rw [← hh, Bd.state]; rfl
  have N0 := Fr.nil n0
  refine RunsTo.start (ef_rm_cr m a x1 x2) ?_
  show RunsTo p e below s s₁ (mkF m 0 #[.val (.ref a), .val (.int x1), .val (.int x2)] []) (Q_cr Z a x1 x2 f h0 n0) ({ frames := 2, cells := 1, slots := 4, locals := 34 } : Room).cells ({ frames := 2, cells := 1, slots := 4, locals := 34 } : Room).slots
  refine RunsTo.of (T' := s₁) (g' := (mkF m 1 #[.val (.ref a), .val (.int x1), .val (.int x2)] [(.int x1)])) (fun tgt_ kt => ?_) ?_
  · refine XS.iloadN X0.here hx rfl (hb hby d6_0) rfl ?_
    show Steps p.tables e below (s₁.setTop (mkF m 1 #[.val (.ref a), .val (.int x1), .val (.int x2)] [(.int x1)])) _
    exact kt
  by_cases hz1 : x1 = (0 : Int32)
  · refine RunsTo.of (T' := s₁) (g' := (mkF m 6 #[.val (.ref a), .val (.int x1), .val (.int x2)] [(.ref a), (.int x2)])) (fun tgt_ kt => ?_) ?_
    · refine XS.ifNo X0.here hx rfl (hb hby d6_1) rfl ((if0 _ _).trans (teq hz1).2) ?_
      show Steps p.tables e below (s₁.setTop (mkF m 4 #[.val (.ref a), .val (.int x1), .val (.int x2)] [])) _
      refine XS.iloadN X0.here hx rfl (hb hby d6_4) rfl ?_
      show Steps p.tables e below (s₁.setTop (mkF m 5 #[.val (.ref a), .val (.int x1), .val (.int x2)] [(.int x2)])) _
      refine XS.aloadN X0.here hx rfl (hb hby d6_5) rfl rfl ?_
      show Steps p.tables e below (s₁.setTop (mkF m 6 #[.val (.ref a), .val (.int x1), .val (.int x2)] [(.ref a), (.int x2)])) _
      exact kt
    obtain ⟨cl_a_1, Ar_a_1, S_a_1, M_a_1, H_a_1⟩ := id V_a
    refine RunsTo.of (T' := s₁) (g' := (mkF m 7 #[.val (.ref a), .val (.int x1), .val (.int x2)] [(.int (4 : Int32)), (.int x2)])) (fun tgt_ kt => ?_) ?_
    · refine X0.arraylength hx (by rw [e0]; exact Ar_a_1.1) (State.isArrayOf_alike hZ.alike Ar_a_1.2.1) (g := (mkF m 6 #[.val (.ref a), .val (.int x1), .val (.int x2)] [(.ref a), (.int x2)])) rfl rfl (hb hby d6_6) _ ?_
      rw [len_of S_a_1 M_a_1]
      show Steps p.tables e below (s₁.setTop (mkF m 7 #[.val (.ref a), .val (.int x1), .val (.int x2)] [(.int (4 : Int32)), (.int x2)])) _
      exact kt
    by_cases hz2 : x2 = (4 : Int32)
    · refine RunsTo.of (T' := s₁) (g' := (mkF m 18 #[.val (.ref a), .val (.int x1), .val (.int x2)] [(.ref a)])) (fun tgt_ kt => ?_) ?_
      · refine XS.icmpYes X0.here hx rfl (pc0 := 7) (pc' := 17) rfl (hb hby d6_7) rfl (teq hz2).1 (by decide) (by decide) ?_
        show Steps p.tables e below (s₁.setTop (mkF m 17 #[.val (.ref a), .val (.int x1), .val (.int x2)] [])) _
        refine XS.aloadN X0.here hx rfl (hb hby d6_17) rfl rfl ?_
        show Steps p.tables e below (s₁.setTop (mkF m 18 #[.val (.ref a), .val (.int x1), .val (.int x2)] [(.ref a)])) _
        exact kt
      obtain ⟨cl_a_c, Ar_a_c, S_a_c, M_a_c, H_a_c⟩ := id V_a
      obtain ⟨T2, h2, X2, e2, E2, A2, G2, st2⟩ := cloneA X0 hx hZ hown (hw _ (List.mem_of_getElem? (i := 61) rfl)) (hw _ (List.mem_of_getElem? (i := 62) rfl)) (hw _ (List.mem_of_getElem? (i := 66) rfl)) (hw _ (List.mem_of_getElem? (i := 64) rfl)) (hw _ (List.mem_of_getElem? (i := 65) rfl)) (hw _ (List.mem_of_getElem? (i := 67) rfl)) e0 Ar_a_c E_a (fitC_of Ar_a_c (fun i hi v hv => by rw [H_a_c i hi] at hv; cases hv; exact hft i)) (g := (mkF m 18 #[.val (.ref a), .val (.int x1), .val (.int x2)] [(.ref a)])) rfl (by rw [hml]; rfl) rfl (hb hby d6_18) (by decide) (W := 0) (cap := 4) (by show 2 * 0 + _ ≤ _; exact Nat.le_of_eq rfl) (by decide) (Nat.le_of_eq S_a_c) (by decide) (by decide)
      obtain ⟨b, g2⟩ : ∃ z, z = h0.size := ⟨_, rfl⟩
      rw [← g2] at A2 G2 st2
      have g_b : n0 ≤ b := Nat.le_trans Z0 (Nat.le_of_eq g2.symm)
      have V_b : Arf Z h2 b .byte (4 : Int32) f := ⟨_, A2, S_a_c, M_a_c, H_a_c⟩
      refine RunsTo.of (T' := T2) (g' := (mkF m 21 #[.val (.ref a), .val (.int x1), .val (.int x2)] [(.ref b)])) st2 ?_
      obtain ⟨T3, X3, e3, st3⟩ := castY X2 hx hZ hown (hw _ (List.mem_of_getElem? (i := 68) rfl)) e2 (Ins.self G2) (g := (mkF m 21 #[.val (.ref a), .val (.int x1), .val (.int x2)] [(.ref b)])) rfl rfl (hb hby d6_21)
      refine RunsTo.of (T' := T3) (g' := (mkF m 24 #[.val (.ref a), .val (.int x1), .val (.int x2)] [(.ref b)])) st3 ?_
      refine RunsTo.retA X3 hx Bd.returns rfl rfl Bd.notSynchronized (hb hby d6_24) ?_ (by decide) (by decide)
      rw [e3]
      refine ⟨b, rfl, N0, g_b, Nat.le_of_eq g2.symm, (Keep.refl h0 []).ext E2, ?_⟩
      have e4 : x2 - x1 = 4 := by rw [hz1, hz2]; decide
      rw [e4, hz1]
      exact V_b.congr (fun i hi => by show _ = f (0 + i); rw [Nat.zero_add])
    · refine RunsTo.of (T' := s₁) (g' := (mkF m 13 #[.val (.ref a), .val (.int x1), .val (.int x2)] [(.int x2), (.int x1), (.ref a)])) (fun tgt_ kt => ?_) ?_
      · refine XS.icmpNo X0.here hx rfl (hb hby d6_7) rfl (feq hz2).1 ?_
        show Steps p.tables e below (s₁.setTop (mkF m 10 #[.val (.ref a), .val (.int x1), .val (.int x2)] [])) _
        refine XS.aloadN X0.here hx rfl (hb hby d6_10) rfl rfl ?_
        show Steps p.tables e below (s₁.setTop (mkF m 11 #[.val (.ref a), .val (.int x1), .val (.int x2)] [(.ref a)])) _
        refine XS.iloadN X0.here hx rfl (hb hby d6_11) rfl ?_
        show Steps p.tables e below (s₁.setTop (mkF m 12 #[.val (.ref a), .val (.int x1), .val (.int x2)] [(.int x1), (.ref a)])) _
        refine XS.iloadN X0.here hx rfl (hb hby d6_12) rfl ?_
        show Steps p.tables e below (s₁.setTop (mkF m 13 #[.val (.ref a), .val (.int x1), .val (.int x2)] [(.int x2), (.int x1), (.ref a)])) _
        exact kt
      obtain ⟨_, _, ⟨T4, L4, k4, n4⟩, -, X4, ⟨Lc4, hQ4, l4, y4, z4⟩, st4⟩ := Jvm.LawKit.callS X0 hx (y := (⟨"java/util/Arrays", "copyOfRangeByte", "([BII)[B"⟩ : MethodName)) hown (mvT hZ (hw _ (List.mem_of_getElem? (i := 33) rfl))) (mvT hZ (hw _ (List.mem_of_getElem? (i := 34) rfl))) (mvT hZ (hw _ (List.mem_of_getElem? (i := 31) rfl))) (mvT hZ (hw _ (List.mem_of_getElem? (i := 35) rfl))) (by decide) (backOf (W := 0) (rm_crb l Z a0 hw [] a x1 x2 f h0 n0 Z0 V_a hft E_a hr) hZ (hw _ (List.mem_of_getElem? (i := 35) rfl)) (hw _ (List.mem_of_getElem? (i := 31) rfl)) (by decide) (by decide)) (g := (mkF m 13 #[.val (.ref a), .val (.int x1), .val (.int x2)] [(.int x2), (.int x1), (.ref a)])) rfl (by rw [hml]; rfl) (argsL := [(.ref a), (.int x1), (.int x2)]) (rest := []) (lenOf pd_2 rfl) rfl (by show 2 * 0 + _ ≤ _; exact Nat.le_of_eq rfl) (hb hby d6_13) (fun _ _ => ⟨rfl, e0, (by decide : 0 + 1 ≤ _), (by decide : 0 + 4 ≤ _)⟩)
      dsimp only [Pt.U, Pt.locs, Pt.cells, Pt.slots] at X4 l4 y4 z4 st4 hQ4
      subst l4 y4 z4
      obtain ⟨b, rfl, N4q, g_b, sz_b, K4, V_b⟩ := hQ4
      have N4 := Fr.app N0 N4q
      refine RunsTo.of (T' := T4) (g' := (mkF m 16 #[.val (.ref a), .val (.int x1), .val (.int x2)] [(.ref b)])) st4 ?_
      refine RunsTo.retA X4 hx Bd.returns rfl rfl Bd.notSynchronized (hb hby d6_16) ?_ (by decide) (by decide)
      exact ⟨b, rfl, N4, g_b, sz_b, K4, V_b⟩
  · refine RunsTo.of (T' := s₁) (g' := (mkF m 13 #[.val (.ref a), .val (.int x1), .val (.int x2)] [(.int x2), (.int x1), (.ref a)])) (fun tgt_ kt => ?_) ?_
    · refine XS.ifYes X0.here hx rfl (pc0 := 1) (pc' := 10) rfl (hb hby d6_1) rfl ((if0 _ _).trans (feq hz1).2) (by decide) (by decide) ?_
      show Steps p.tables e below (s₁.setTop (mkF m 10 #[.val (.ref a), .val (.int x1), .val (.int x2)] [])) _
      refine XS.aloadN X0.here hx rfl (hb hby d6_10) rfl rfl ?_
      show Steps p.tables e below (s₁.setTop (mkF m 11 #[.val (.ref a), .val (.int x1), .val (.int x2)] [(.ref a)])) _
      refine XS.iloadN X0.here hx rfl (hb hby d6_11) rfl ?_
      show Steps p.tables e below (s₁.setTop (mkF m 12 #[.val (.ref a), .val (.int x1), .val (.int x2)] [(.int x1), (.ref a)])) _
      refine XS.iloadN X0.here hx rfl (hb hby d6_12) rfl ?_
      show Steps p.tables e below (s₁.setTop (mkF m 13 #[.val (.ref a), .val (.int x1), .val (.int x2)] [(.int x2), (.int x1), (.ref a)])) _
      exact kt
    obtain ⟨_, _, ⟨T5, L5, k5, n5⟩, -, X5, ⟨Lc5, hQ5, l5, y5, z5⟩, st5⟩ := Jvm.LawKit.callS X0 hx (y := (⟨"java/util/Arrays", "copyOfRangeByte", "([BII)[B"⟩ : MethodName)) hown (mvT hZ (hw _ (List.mem_of_getElem? (i := 33) rfl))) (mvT hZ (hw _ (List.mem_of_getElem? (i := 34) rfl))) (mvT hZ (hw _ (List.mem_of_getElem? (i := 31) rfl))) (mvT hZ (hw _ (List.mem_of_getElem? (i := 35) rfl))) (by decide) (backOf (W := 0) (rm_crb l Z a0 hw [] a x1 x2 f h0 n0 Z0 V_a hft E_a hr) hZ (hw _ (List.mem_of_getElem? (i := 35) rfl)) (hw _ (List.mem_of_getElem? (i := 31) rfl)) (by decide) (by decide)) (g := (mkF m 13 #[.val (.ref a), .val (.int x1), .val (.int x2)] [(.int x2), (.int x1), (.ref a)])) rfl (by rw [hml]; rfl) (argsL := [(.ref a), (.int x1), (.int x2)]) (rest := []) (lenOf pd_2 rfl) rfl (by show 2 * 0 + _ ≤ _; exact Nat.le_of_eq rfl) (hb hby d6_13) (fun _ _ => ⟨rfl, e0, (by decide : 0 + 1 ≤ _), (by decide : 0 + 4 ≤ _)⟩)
    dsimp only [Pt.U, Pt.locs, Pt.cells, Pt.slots] at X5 l5 y5 z5 st5 hQ5
    subst l5 y5 z5
    obtain ⟨b, rfl, N5q, g_b, sz_b, K5, V_b⟩ := hQ5
    have N5 := Fr.app N0 N5q
    refine RunsTo.of (T' := T5) (g' := (mkF m 16 #[.val (.ref a), .val (.int x1), .val (.int x2)] [(.ref b)])) st5 ?_
    refine RunsTo.retA X5 hx Bd.returns rfl rfl Bd.notSynchronized (hb hby d6_16) ?_ (by decide) (by decide)
    exact ⟨b, rfl, N5, g_b, sz_b, K5, V_b⟩
theorem d2_0 : decode prog_93_method_2_code 0 = .ok (.aload_n 0, 1) := by decide +kernel
theorem d2_1 : decode prog_93_method_2_code 1 = .ok (.invokespecial 7, 3) := by decide +kernel
theorem d2_4 : decode prog_93_method_2_code 4 = .ok (.aload_n 0, 1) := by decide +kernel
theorem d2_5 : decode prog_93_method_2_code 5 = .ok (.aload_n 1, 1) := by decide +kernel
theorem d2_6 : decode prog_93_method_2_code 6 = .ok (.putfield 12, 3) := by decide +kernel
theorem d2_9 : decode prog_93_method_2_code 9 = .ok (.aload_n 0, 1) := by decide +kernel
theorem d2_10 : decode prog_93_method_2_code 10 = .ok (.iload_n 2, 1) := by decide +kernel
theorem d2_11 : decode prog_93_method_2_code 11 = .ok (.putfield 16, 3) := by decide +kernel
theorem d2_14 : decode prog_93_method_2_code 14 = .ok (.aload_n 0, 1) := by decide +kernel
theorem d2_15 : decode prog_93_method_2_code 15 = .ok (.iload_n 3, 1) := by decide +kernel
theorem d2_16 : decode prog_93_method_2_code 16 = .ok (.putfield 20, 3) := by decide +kernel
theorem d2_19 : decode prog_93_method_2_code 19 = .ok (.return_, 1) := by decide +kernel
theorem pn_1 : plainName "com/example/roleweave/roleweave/tpm/Unmarshaller" = true := by first | (simp [plainName, overriddenIn]; done) | decide +kernel
theorem ef_rm_init3 (m : MethodId) (x0 : Addr) (x1 : Addr) (x2 : Int32) (x3 : Int32) : entryFrame m #[(.ref x0), (.ref x1), (.int x2), (.int x3)] 4 = mkF m 0 #[.val (.ref x0), .val (.ref x1), .val (.int x2), .val (.int x3)] [] := by first | (simp [entryFrame, mkF, argsToLocals, Value.category]; done) | rfl
def Q_init3 (Z : State) (u : Addr) (a : Addr) (x2 : Int32) (x3 : Int32) (h0 : Heap) (n0 : Nat) (v : Option Value) (h : Heap) (L : List Loc) : Prop := v = none ∧ Fr n0 L ∧ Keep h0 h [u] ∧ Fld Z h u "com/example/roleweave/roleweave/tpm/Unmarshaller" "bytes" "[B" (.ref a) ∧ Fld Z h u "com/example/roleweave/roleweave/tpm/Unmarshaller" "at" "I" (.int x2) ∧ Fld Z h u "com/example/roleweave/roleweave/tpm/Unmarshaller" "end" "I" (.int x3)
set_option maxRecDepth 65536 in
set_option maxHeartbeats 40000000 in
theorem rm_init3 (l : Launch) (Z : State) (a0 : Array Value) (hw : ∀ d ∈ tables_1, d.before a0 Z = true) (ws : List Jvm.Cond) (u : Addr) (a : Addr) (x2 : Int32) (x3 : Int32) (h0 : Heap) (n0 : Nat) (Z0 : n0 ≤ h0.size) (E_u : Exa Z h0 u "com/example/roleweave/roleweave/tpm/Unmarshaller") (g_u : n0 ≤ u) (F_bytes_u : Fld Z h0 u "com/example/roleweave/roleweave/tpm/Unmarshaller" "bytes" "[B" .null) (F_at_u : Fld Z h0 u "com/example/roleweave/roleweave/tpm/Unmarshaller" "at" "I" (.int (0 : Int32))) (F_end_u : Fld Z h0 u "com/example/roleweave/roleweave/tpm/Unmarshaller" "end" "I" (.int (0 : Int32)))  :
    MetFree l (⟨"com/example/roleweave/roleweave/tpm/Unmarshaller", "<init>", "([BII)V"⟩ : MethodName) (head1 (Jvm.Cond.code (⟨"com/example/roleweave/roleweave/tpm/Unmarshaller", "<init>", "([BII)V"⟩ : MethodName) prog_93_method_2_code 4 none :: ws) ({ frames := 1, cells := 0, slots := 0, locals := 12 } : Room)) (fun as' U => as' = #[(.ref u), (.ref a), (.int x2), (.int x3)] ∧ Z.Warmed39 U.vm ∧ U.heap = h0) (fun _ _ _ _ _ => True) (fun _ U_ o_ U'_ => ∃ v_ L_, o_ = .returned v_ ∧ Q_init3 Z u a x2 x3 h0 n0 v_ U'_.heap L_ ∧ FrameEnd U_ o_ U'_ L_ ({ frames := 1, cells := 0, slots := 0, locals := 12 } : Room).cells ({ frames := 1, cells := 0, slots := 0, locals := 12 } : Room).slots) := by
  refine MetFree.of_bodySF (plainFor_of_name pn_1) hisR ?_
  intro p e s m args below meth c s₁ Bd hml0 hP hK
  obtain ⟨rfl, hZ, hh⟩ := hP
  have hx := Bd.exec
  have hby := Bd.bytes
  have hml : c.maxLocals = 4 := hml0
  have hown : s.vm.findClass "com/example/roleweave/roleweave/tpm/Unmarshaller" = some m.cls := findClass_of_methodNamed Bd.named
  have hnm := (name_of_methodNamed Bd.named Bd.method).1
  have X0 : Stand p l e ({ frames := 1, cells := 0, slots := 0, locals := 12 } : Room) s m #[(.ref u), (.ref a), (.int x2), (.int x3)] below meth c s₁ [] 0 0 := Stand.of_body Bd
  have e0 : s₁.heap = h0 := by rw [← hh, Bd.state]; rfl
  have N0 := Fr.nil n0
  refine RunsTo.start (ef_rm_init3 m u a x2 x3) ?_
  show RunsTo p e below s s₁ (mkF m 0 #[.val (.ref u), .val (.ref a), .val (.int x2), .val (.int x3)] []) (Q_init3 Z u a x2 x3 h0 n0) ({ frames := 1, cells := 0, slots := 0, locals := 12 } : Room).cells ({ frames := 1, cells := 0, slots := 0, locals := 12 } : Room).slots
  refine RunsTo.of (T' := s₁) (g' := (mkF m 1 #[.val (.ref u), .val (.ref a), .val (.int x2), .val (.int x3)] [(.ref u)])) (fun tgt_ kt => ?_) ?_
  · refine XS.aloadN X0.here hx rfl (hb hby d2_0) rfl rfl ?_
    show Steps p.tables e below (s₁.setTop (mkF m 1 #[.val (.ref u), .val (.ref a), .val (.int x2), .val (.int x3)] [(.ref u)])) _
    exact kt
  obtain ⟨T1, X1, e1, st1⟩ := initO X0 hx hZ hown (hw _ (List.mem_of_getElem? (i := 11) rfl)) (hw _ (List.mem_of_getElem? (i := 12) rfl)) (hw _ (List.mem_of_getElem? (i := 13) rfl)) e0 (g := (mkF m 1 #[.val (.ref u), .val (.ref a), .val (.int x2), .val (.int x3)] [(.ref u)])) rfl (by rw [hml]; rfl) rfl (hb hby d2_1) (by decide) (W := 0) (by show 2 * 0 + _ ≤ _; exact Nat.le_of_eq rfl) (by decide)
  refine RunsTo.of (T' := T1) (g' := (mkF m 4 #[.val (.ref u), .val (.ref a), .val (.int x2), .val (.int x3)] [])) st1 ?_
  refine RunsTo.of (T' := T1) (g' := (mkF m 6 #[.val (.ref u), .val (.ref a), .val (.int x2), .val (.int x3)] [(.ref a), (.ref u)])) (fun tgt_ kt => ?_) ?_
  · refine XS.aloadN X1.here hx rfl (hb hby d2_4) rfl rfl ?_
    show Steps p.tables e below (T1.setTop (mkF m 5 #[.val (.ref u), .val (.ref a), .val (.int x2), .val (.int x3)] [(.ref u)])) _
    refine XS.aloadN X1.here hx rfl (hb hby d2_5) rfl rfl ?_
    show Steps p.tables e below (T1.setTop (mkF m 6 #[.val (.ref u), .val (.ref a), .val (.int x2), .val (.int x3)] [(.ref a), (.ref u)])) _
    exact kt
  obtain ⟨T2, h2, X2, e2, W2, st2⟩ := putF X1 hx hZ hown (host := "") (Or.inl (hw _ (List.mem_of_getElem? (i := 14) rfl))) Via.refl e1 F_bytes_u E_u (Or.inr ⟨(hw _ (List.mem_of_getElem? (i := 15) rfl)), rfl, hnm⟩) (hw _ (List.mem_of_getElem? (i := 3) rfl)) (ty := (.array .byte)) (by decide) rfl rfl (g := (mkF m 6 #[.val (.ref u), .val (.ref a), .val (.int x2), .val (.int x3)] [(.ref a), (.ref u)])) rfl rfl (hb hby d2_6)
  have N2 := Fr.snoc X2 N0 g_u
  have Z2 : n0 ≤ h2.size := Nat.le_trans Z0 (Nat.le_of_eq W2.size.symm)
  have E_u := E_u.wr W2
  have F_bytes_u := F_bytes_u.same W2
  have F_at_u := F_at_u.other W2 (Or.inr (slot_ne (Or.inl (hw _ (List.mem_of_getElem? (i := 17) rfl))) (Or.inr (hw _ (List.mem_of_getElem? (i := 15) rfl))) (by decide) (t := .int) (t' := (.array .byte)) (by decide) (by decide)))
  have F_end_u := F_end_u.other W2 (Or.inr (slot_ne (Or.inr (hw _ (List.mem_of_getElem? (i := 19) rfl))) (Or.inr (hw _ (List.mem_of_getElem? (i := 15) rfl))) (by decide) (t := .int) (t' := (.array .byte)) (by decide) (by decide)))
  refine RunsTo.of (T' := T2) (g' := (mkF m 9 #[.val (.ref u), .val (.ref a), .val (.int x2), .val (.int x3)] [])) st2 ?_
  refine RunsTo.of (T' := T2) (g' := (mkF m 11 #[.val (.ref u), .val (.ref a), .val (.int x2), .val (.int x3)] [(.int x2), (.ref u)])) (fun tgt_ kt => ?_) ?_
  · refine XS.aloadN X2.here hx rfl (hb hby d2_9) rfl rfl ?_
    show Steps p.tables e below (T2.setTop (mkF m 10 #[.val (.ref u), .val (.ref a), .val (.int x2), .val (.int x3)] [(.ref u)])) _
    refine XS.iloadN X2.here hx rfl (hb hby d2_10) rfl ?_
    show Steps p.tables e below (T2.setTop (mkF m 11 #[.val (.ref u), .val (.ref a), .val (.int x2), .val (.int x3)] [(.int x2), (.ref u)])) _
    exact kt
  obtain ⟨T3, h3, X3, e3, W3, st3⟩ := putF X2 hx hZ hown (host := "") (Or.inl (hw _ (List.mem_of_getElem? (i := 16) rfl))) Via.refl e2 F_at_u E_u (Or.inl (hw _ (List.mem_of_getElem? (i := 17) rfl))) (hw _ (List.mem_of_getElem? (i := 3) rfl)) (ty := .int) (by decide) rfl rfl (g := (mkF m 11 #[.val (.ref u), .val (.ref a), .val (.int x2), .val (.int x3)] [(.int x2), (.ref u)])) rfl rfl (hb hby d2_11)
  have N3 := Fr.snoc X3 N2 g_u
  have Z3 : n0 ≤ h3.size := Nat.le_trans Z2 (Nat.le_of_eq W3.size.symm)
  have E_u := E_u.wr W3
  have F_bytes_u := F_bytes_u.other W3 (Or.inr (slot_ne (Or.inr (hw _ (List.mem_of_getElem? (i := 15) rfl))) (Or.inl (hw _ (List.mem_of_getElem? (i := 17) rfl))) (by decide) (t := (.array .byte)) (t' := .int) (by decide) (by decide)))
  have F_at_u := F_at_u.same W3
  have F_end_u := F_end_u.other W3 (Or.inr (slot_ne (Or.inr (hw _ (List.mem_of_getElem? (i := 19) rfl))) (Or.inl (hw _ (List.mem_of_getElem? (i := 17) rfl))) (by decide) (t := .int) (t' := .int) (by decide) (by decide)))
  refine RunsTo.of (T' := T3) (g' := (mkF m 14 #[.val (.ref u), .val (.ref a), .val (.int x2), .val (.int x3)] [])) st3 ?_
  refine RunsTo.of (T' := T3) (g' := (mkF m 16 #[.val (.ref u), .val (.ref a), .val (.int x2), .val (.int x3)] [(.int x3), (.ref u)])) (fun tgt_ kt => ?_) ?_
  · refine XS.aloadN X3.here hx rfl (hb hby d2_14) rfl rfl ?_
    show Steps p.tables e below (T3.setTop (mkF m 15 #[.val (.ref u), .val (.ref a), .val (.int x2), .val (.int x3)] [(.ref u)])) _
    refine XS.iloadN X3.here hx rfl (hb hby d2_15) rfl ?_
    show Steps p.tables e below (T3.setTop (mkF m 16 #[.val (.ref u), .val (.ref a), .val (.int x2), .val (.int x3)] [(.int x3), (.ref u)])) _
    exact kt
  obtain ⟨T4, h4, X4, e4, W4, st4⟩ := putF X3 hx hZ hown (host := "") (Or.inl (hw _ (List.mem_of_getElem? (i := 18) rfl))) Via.refl e3 F_end_u E_u (Or.inr ⟨(hw _ (List.mem_of_getElem? (i := 19) rfl)), rfl, hnm⟩) (hw _ (List.mem_of_getElem? (i := 3) rfl)) (ty := .int) (by decide) rfl rfl (g := (mkF m 16 #[.val (.ref u), .val (.ref a), .val (.int x2), .val (.int x3)] [(.int x3), (.ref u)])) rfl rfl (hb hby d2_16)
  have N4 := Fr.snoc X4 N3 g_u
  have Z4 : n0 ≤ h4.size := Nat.le_trans Z3 (Nat.le_of_eq W4.size.symm)
  have E_u := E_u.wr W4
  have F_bytes_u := F_bytes_u.other W4 (Or.inr (slot_ne (Or.inr (hw _ (List.mem_of_getElem? (i := 15) rfl))) (Or.inr (hw _ (List.mem_of_getElem? (i := 19) rfl))) (by decide) (t := (.array .byte)) (t' := .int) (by decide) (by decide)))
  have F_at_u := F_at_u.other W4 (Or.inr (slot_ne (Or.inl (hw _ (List.mem_of_getElem? (i := 17) rfl))) (Or.inr (hw _ (List.mem_of_getElem? (i := 19) rfl))) (by decide) (t := .int) (t' := .int) (by decide) (by decide)))
  have F_end_u := F_end_u.same W4
  refine RunsTo.of (T' := T4) (g' := (mkF m 19 #[.val (.ref u), .val (.ref a), .val (.int x2), .val (.int x3)] [])) st4 ?_
  refine RunsTo.retV X4 hx Bd.returns Bd.notSynchronized (hb hby d2_19) ?_ (by decide) (by decide)
  rw [e4]
  exact ⟨rfl, N4, ((((Keep.refl h0 [u]).wr W2 (Or.inl (List.mem_of_getElem? (i := 0) rfl))).wr W3 (Or.inl (List.mem_of_getElem? (i := 0) rfl))).wr W4 (Or.inl (List.mem_of_getElem? (i := 0) rfl))), F_bytes_u, F_at_u, F_end_u⟩
theorem d1_0 : decode prog_93_method_1_code 0 = .ok (.aload_n 0, 1) := by decide +kernel
theorem d1_1 : decode prog_93_method_1_code 1 = .ok (.aload_n 1, 1) := by decide +kernel
theorem d1_2 : decode prog_93_method_1_code 2 = .ok (.iconst 0, 1) := by decide +kernel
theorem d1_3 : decode prog_93_method_1_code 3 = .ok (.aload_n 1, 1) := by decide +kernel
theorem d1_4 : decode prog_93_method_1_code 4 = .ok (.arraylength, 1) := by decide +kernel
theorem pd_3 : parseMethodDescriptor "([BII)V" = some ⟨[(.array .byte), .int, .int], none⟩ := by decide +kernel
theorem d1_5 : decode prog_93_method_1_code 5 = .ok (.invokespecial 1, 3) := by decide +kernel
theorem d1_8 : decode prog_93_method_1_code 8 = .ok (.return_, 1) := by decide +kernel
theorem ef_rm_init1 (m : MethodId) (x0 : Addr) (x1 : Addr) : entryFrame m #[(.ref x0), (.ref x1)] 2 = mkF m 0 #[.val (.ref x0), .val (.ref x1)] [] := by first | (simp [entryFrame, mkF, argsToLocals, Value.category]; done) | rfl
def Q_init1 (Z : State) (u : Addr) (a : Addr) (f : Nat → Value) (h0 : Heap) (n0 : Nat) (v : Option Value) (h : Heap) (L : List Loc) : Prop := v = none ∧ Fr n0 L ∧ Keep h0 h [u] ∧ Fld Z h u "com/example/roleweave/roleweave/tpm/Unmarshaller" "bytes" "[B" (.ref a) ∧ Fld Z h u "com/example/roleweave/roleweave/tpm/Unmarshaller" "at" "I" (.int (0 : Int32)) ∧ Fld Z h u "com/example/roleweave/roleweave/tpm/Unmarshaller" "end" "I" (.int (4 : Int32))
set_option maxRecDepth 65536 in
set_option maxHeartbeats 40000000 in
theorem rm_init1 (l : Launch) (Z : State) (a0 : Array Value) (hw : ∀ d ∈ tables_1, d.before a0 Z = true) (ws : List Jvm.Cond) (u : Addr) (a : Addr) (f : Nat → Value) (h0 : Heap) (n0 : Nat) (Z0 : n0 ≤ h0.size) (E_u : Exa Z h0 u "com/example/roleweave/roleweave/tpm/Unmarshaller") (g_u : n0 ≤ u) (F_bytes_u : Fld Z h0 u "com/example/roleweave/roleweave/tpm/Unmarshaller" "bytes" "[B" .null) (F_at_u : Fld Z h0 u "com/example/roleweave/roleweave/tpm/Unmarshaller" "at" "I" (.int (0 : Int32))) (F_end_u : Fld Z h0 u "com/example/roleweave/roleweave/tpm/Unmarshaller" "end" "I" (.int (0 : Int32))) (V_a : Arf Z h0 a .byte (4 : Int32) f) :
    MetFree l (⟨"com/example/roleweave/roleweave/tpm/Unmarshaller", "<init>", "([B)V"⟩ : MethodName) (head1 (Jvm.Cond.code (⟨"com/example/roleweave/roleweave/tpm/Unmarshaller", "<init>", "([B)V"⟩ : MethodName) prog_93_method_1_code 2 none :: ws) ({ frames := 2, cells := 0, slots := 0, locals := 27 } : Room)) (fun as' U => as' = #[(.ref u), (.ref a)] ∧ Z.Warmed39 U.vm ∧ U.heap = h0) (fun _ _ _ _ _ => True) (fun _ U_ o_ U'_ => ∃ v_ L_, o_ = .returned v_ ∧ Q_init1 Z u a f h0 n0 v_ U'_.heap L_ ∧ FrameEnd U_ o_ U'_ L_ ({ frames := 2, cells := 0, slots := 0, locals := 27 } : Room).cells ({ frames := 2, cells := 0, slots := 0, locals := 27 } : Room).slots) := by
  refine MetFree.of_bodySF (plainFor_of_name pn_1) hisR ?_
  intro p e s m args below meth c s₁ Bd hml0 hP hK
  obtain ⟨rfl, hZ, hh⟩ := hP
  have hx := Bd.exec
  have hby := Bd.bytes
  have hml : c.maxLocals = 2 := hml0
  have hown : s.vm.findClass "com/example/roleweave/roleweave/tpm/Unmarshaller" = some m.cls := findClass_of_methodNamed Bd.named
  have hnm := (name_of_methodNamed Bd.named Bd.method).1
  have X0 : Stand p l e ({ frames := 2, cells := 0, slots := 0, locals := 27 } : Room) s m #[(.ref u), (.ref a)] below meth c s₁ [] 0 0 := Stand.of_body Bd
  have e0 : s₁.heap = h0 := by rw [← hh, Bd.state]; rfl
  have N0 := Fr.nil n0
  refine RunsTo.start (ef_rm_init1 m u a) ?_
  show RunsTo p e below s s₁ (mkF m 0 #[.val (.ref u), .val (.ref a)] []) (Q_init1 Z u a f h0 n0) ({ frames := 2, cells := 0, slots := 0, locals := 27 } : Room).cells ({ frames := 2, cells := 0, slots := 0, locals := 27 } : Room).slots
  refine RunsTo.of (T' := s₁) (g' := (mkF m 4 #[.val (.ref u), .val (.ref a)] [(.ref a), (.int (0 : Int32)), (.ref a), (.ref u)])) (fun tgt_ kt => ?_) ?_
  · refine XS.aloadN X0.here hx rfl (hb hby d1_0) rfl rfl ?_
    show Steps p.tables e below (s₁.setTop (mkF m 1 #[.val (.ref u), .val (.ref a)] [(.ref u)])) _
    refine XS.aloadN X0.here hx rfl (hb hby d1_1) rfl rfl ?_
    show Steps p.tables e below (s₁.setTop (mkF m 2 #[.val (.ref u), .val (.ref a)] [(.ref a), (.ref u)])) _
    refine XS.iconst X0.here hx rfl (hb hby d1_2) ?_
    show Steps p.tables e below (s₁.setTop (mkF m 3 #[.val (.ref u), .val (.ref a)] [(.int (0 : Int32)), (.ref a), (.ref u)])) _
    refine XS.aloadN X0.here hx rfl (hb hby d1_3) rfl rfl ?_
    show Steps p.tables e below (s₁.setTop (mkF m 4 #[.val (.ref u), .val (.ref a)] [(.ref a), (.int (0 : Int32)), (.ref a), (.ref u)])) _
    exact kt
  obtain ⟨cl_a_1, Ar_a_1, S_a_1, M_a_1, H_a_1⟩ := id V_a
  refine RunsTo.of (T' := s₁) (g' := (mkF m 5 #[.val (.ref u), .val (.ref a)] [(.int (4 : Int32)), (.int (0 : Int32)), (.ref a), (.ref u)])) (fun tgt_ kt => ?_) ?_
  · refine X0.arraylength hx (by rw [e0]; exact Ar_a_1.1) (State.isArrayOf_alike hZ.alike Ar_a_1.2.1) (g := (mkF m 4 #[.val (.ref u), .val (.ref a)] [(.ref a), (.int (0 : Int32)), (.ref a), (.ref u)])) rfl rfl (hb hby d1_4) _ ?_
    rw [len_of S_a_1 M_a_1]
    show Steps p.tables e below (s₁.setTop (mkF m 5 #[.val (.ref u), .val (.ref a)] [(.int (4 : Int32)), (.int (0 : Int32)), (.ref a), (.ref u)])) _
    exact kt
  obtain ⟨_, _, ⟨T2, L2, k2, n2⟩, -, X2, ⟨Lc2, hQ2, l2, y2, z2⟩, st2⟩ := X0.specialBack hx (y := (⟨"com/example/roleweave/roleweave/tpm/Unmarshaller", "<init>", "([BII)V"⟩ : MethodName)) rfl hown (mvT hZ (hw _ (List.mem_of_getElem? (i := 8) rfl))) (mvT hZ (hw _ (List.mem_of_getElem? (i := 9) rfl))) (mvT hZ (hw _ (List.mem_of_getElem? (i := 10) rfl))) (by decide) (backOf (W := 0) (rm_init3 l Z a0 hw [] u a 0 4 h0 n0 Z0 E_u g_u F_bytes_u F_at_u F_end_u) hZ (hw _ (List.mem_of_getElem? (i := 10) rfl)) (hw _ (List.mem_of_getElem? (i := 4) rfl)) (by decide) (by decide)) (g := (mkF m 5 #[.val (.ref u), .val (.ref a)] [(.int (4 : Int32)), (.int (0 : Int32)), (.ref a), (.ref u)])) rfl (by rw [hml]; rfl) (Steps.refl _) (a := u) (argsL := [(.ref a), (.int (0 : Int32)), (.int (4 : Int32))]) (rest := []) (lenOf pd_3 rfl) rfl (by show 2 * 0 + _ ≤ _; exact Nat.le_of_eq rfl) (hb hby d1_5) (fun _ _ => ⟨rfl, e0, (by decide : 0 + 0 ≤ _), (by decide : 0 + 0 ≤ _)⟩)
  dsimp only [Pt.U, Pt.locs, Pt.cells, Pt.slots] at X2 l2 y2 z2 st2 hQ2
  subst l2 y2 z2
  obtain ⟨rfl, N2q, K2, F_bytes_u, F_at_u, F_end_u⟩ := hQ2
  have N2 := Fr.app N0 N2q
  refine RunsTo.of (T' := T2) (g' := (mkF m 8 #[.val (.ref u), .val (.ref a)] [])) (fun _ kt => st2.trans kt) ?_
  refine RunsTo.retV X2 hx Bd.returns Bd.notSynchronized (hb hby d1_8) ?_ (by decide) (by decide)
  exact ⟨rfl, N2, K2, F_bytes_u, F_at_u, F_end_u⟩
theorem d5_0 : decode prog_93_method_13_code 0 = .ok (.iload_n 1, 1) := by decide +kernel
theorem d5_1 : decode prog_93_method_13_code 1 = .ok (.ifCond .lt 16, 3) := by decide +kernel
theorem d5_4 : decode prog_93_method_13_code 4 = .ok (.aload_n 0, 1) := by decide +kernel
theorem d5_5 : decode prog_93_method_13_code 5 = .ok (.getfield 20, 3) := by decide +kernel
theorem d5_8 : decode prog_93_method_13_code 8 = .ok (.aload_n 0, 1) := by decide +kernel
theorem d5_9 : decode prog_93_method_13_code 9 = .ok (.getfield 16, 3) := by decide +kernel
theorem d5_12 : decode prog_93_method_13_code 12 = .ok (.isub, 1) := by decide +kernel
theorem d5_13 : decode prog_93_method_13_code 13 = .ok (.iload_n 1, 1) := by decide +kernel
theorem d5_14 : decode prog_93_method_13_code 14 = .ok (.if_icmp .ge 15, 3) := by decide +kernel
theorem d5_29 : decode prog_93_method_13_code 29 = .ok (.return_, 1) := by decide +kernel
theorem ef_rm_need (m : MethodId) (x0 : Addr) (x1 : Int32) : entryFrame m #[(.ref x0), (.int x1)] 2 = mkF m 0 #[.val (.ref x0), .val (.int x1)] [] := by first | (simp [entryFrame, mkF, argsToLocals, Value.category]; done) | rfl
def Q_need (Z : State) (u : Addr) (x1 : Int32) (at_ en : Int32) (h0 : Heap) (n0 : Nat) (v : Option Value) (h : Heap) (L : List Loc) : Prop := v = none ∧ Fr n0 L ∧ h = h0
set_option maxRecDepth 65536 in
set_option maxHeartbeats 40000000 in
theorem rm_need (l : Launch) (Z : State) (a0 : Array Value) (hw : ∀ d ∈ tables_1, d.before a0 Z = true) (ws : List Jvm.Cond) (u : Addr) (x1 : Int32) (at_ en : Int32) (h0 : Heap) (n0 : Nat) (Z0 : n0 ≤ h0.size) (F_at_u : Fld Z h0 u "com/example/roleweave/roleweave/tpm/Unmarshaller" "at" "I" (.int at_)) (F_end_u : Fld Z h0 u "com/example/roleweave/roleweave/tpm/Unmarshaller" "end" "I" (.int en)) (h1 : ¬ x1 < 0) (h2 : ¬ (en - at_) < x1) :
    MetFree l (⟨"com/example/roleweave/roleweave/tpm/Unmarshaller", "need", "(I)V"⟩ : MethodName) (head1 (Jvm.Cond.code (⟨"com/example/roleweave/roleweave/tpm/Unmarshaller", "need", "(I)V"⟩ : MethodName) prog_93_method_13_code 2 none :: ws) ({ frames := 0, cells := 0, slots := 0, locals := 0 } : Room)) (fun as' U => as' = #[(.ref u), (.int x1)] ∧ Z.Warmed39 U.vm ∧ U.heap = h0) (fun _ _ _ _ _ => True) (fun _ U_ o_ U'_ => ∃ v_ L_, o_ = .returned v_ ∧ Q_need Z u x1 at_ en h0 n0 v_ U'_.heap L_ ∧ FrameEnd U_ o_ U'_ L_ ({ frames := 0, cells := 0, slots := 0, locals := 0 } : Room).cells ({ frames := 0, cells := 0, slots := 0, locals := 0 } : Room).slots) := by
  refine MetFree.of_bodySF (plainFor_of_name pn_1) hisR ?_
  intro p e s m args below meth c s₁ Bd hml0 hP hK
  obtain ⟨rfl, hZ, hh⟩ := hP
  have hx := Bd.exec
  have hby := Bd.bytes
  have hml : c.maxLocals = 2 := hml0
  have hown : s.vm.findClass "com/example/roleweave/roleweave/tpm/Unmarshaller" = some m.cls := findClass_of_methodNamed Bd.named
  have hnm := (name_of_methodNamed Bd.named Bd.method).1
  have X0 : Stand p l e ({ frames := 0, cells := 0, slots := 0, locals := 0 } : Room) s m #[(.ref u), (.int x1)] below meth c s₁ [] 0 0 := Stand.of_body Bd
  have e0 : s₁.heap = h0 := by rw [← hh, Bd.state]; rfl
  have N0 := Fr.nil n0
  refine RunsTo.start (ef_rm_need m u x1) ?_
  show RunsTo p e below s s₁ (mkF m 0 #[.val (.ref u), .val (.int x1)] []) (Q_need Z u x1 at_ en h0 n0) ({ frames := 0, cells := 0, slots := 0, locals := 0 } : Room).cells ({ frames := 0, cells := 0, slots := 0, locals := 0 } : Room).slots
  refine RunsTo.of (T' := s₁) (g' := (mkF m 5 #[.val (.ref u), .val (.int x1)] [(.ref u)])) (fun tgt_ kt => ?_) ?_
  · refine XS.iloadN X0.here hx rfl (hb hby d5_0) rfl ?_
    show Steps p.tables e below (s₁.setTop (mkF m 1 #[.val (.ref u), .val (.int x1)] [(.int x1)])) _
    refine XS.ifNo X0.here hx rfl (hb hby d5_1) rfl ((if0 _ _).trans (flt h1).1) ?_
    show Steps p.tables e below (s₁.setTop (mkF m 4 #[.val (.ref u), .val (.int x1)] [])) _
    refine XS.aloadN X0.here hx rfl (hb hby d5_4) rfl rfl ?_
    show Steps p.tables e below (s₁.setTop (mkF m 5 #[.val (.ref u), .val (.int x1)] [(.ref u)])) _
    exact kt
  obtain ⟨T1, X1, e1, st1⟩ := getF X0 hx hZ hown (host := "") (Or.inl (hw _ (List.mem_of_getElem? (i := 18) rfl))) Via.refl e0 F_end_u (g := (mkF m 5 #[.val (.ref u), .val (.int x1)] [(.ref u)])) rfl rfl (hb hby d5_5)
  refine RunsTo.of (T' := T1) (g' := (mkF m 8 #[.val (.ref u), .val (.int x1)] [(.int en)])) st1 ?_
  refine RunsTo.of (T' := T1) (g' := (mkF m 9 #[.val (.ref u), .val (.int x1)] [(.ref u), (.int en)])) (fun tgt_ kt => ?_) ?_
  · refine XS.aloadN X1.here hx rfl (hb hby d5_8) rfl rfl ?_
    show Steps p.tables e below (T1.setTop (mkF m 9 #[.val (.ref u), .val (.int x1)] [(.ref u), (.int en)])) _
    exact kt
  obtain ⟨T2, X2, e2, st2⟩ := getF X1 hx hZ hown (host := "") (Or.inl (hw _ (List.mem_of_getElem? (i := 16) rfl))) Via.refl e1 F_at_u (g := (mkF m 9 #[.val (.ref u), .val (.int x1)] [(.ref u), (.int en)])) rfl rfl (hb hby d5_9)
  refine RunsTo.of (T' := T2) (g' := (mkF m 12 #[.val (.ref u), .val (.int x1)] [(.int at_), (.int en)])) st2 ?_
  refine RunsTo.of (T' := T2) (g' := (mkF m 29 #[.val (.ref u), .val (.int x1)] [])) (fun tgt_ kt => ?_) ?_
  · refine XS.isub X2.here hx rfl (hb hby d5_12) rfl ?_
    show Steps p.tables e below (T2.setTop (mkF m 13 #[.val (.ref u), .val (.int x1)] [(.int (en - at_))])) _
    refine XS.iloadN X2.here hx rfl (hb hby d5_13) rfl ?_
    show Steps p.tables e below (T2.setTop (mkF m 14 #[.val (.ref u), .val (.int x1)] [(.int x1), (.int (en - at_))])) _
    refine XS.icmpYes X2.here hx rfl (pc0 := 14) (pc' := 29) rfl (hb hby d5_14) rfl (flt h2).2.1 (by decide) (by decide) ?_
    show Steps p.tables e below (T2.setTop (mkF m 29 #[.val (.ref u), .val (.int x1)] [])) _
    exact kt
  refine RunsTo.retV X2 hx Bd.returns Bd.notSynchronized (hb hby d5_29) ?_ (by decide) (by decide)
  rw [e2]
  exact ⟨rfl, N0, rfl⟩
theorem d4_0 : decode prog_93_method_7_code 0 = .ok (.aload_n 0, 1) := by decide +kernel
theorem d4_1 : decode prog_93_method_7_code 1 = .ok (.iload_n 1, 1) := by decide +kernel
theorem pd_4 : parseMethodDescriptor "(I)V" = some ⟨[.int], none⟩ := by decide +kernel
theorem d4_2 : decode prog_93_method_7_code 2 = .ok (.invokevirtual 23, 3) := by decide +kernel
theorem d4_5 : decode prog_93_method_7_code 5 = .ok (.aload_n 0, 1) := by decide +kernel
theorem d4_6 : decode prog_93_method_7_code 6 = .ok (.dup, 1) := by decide +kernel
theorem d4_7 : decode prog_93_method_7_code 7 = .ok (.getfield 16, 3) := by decide +kernel
theorem d4_10 : decode prog_93_method_7_code 10 = .ok (.iload_n 1, 1) := by decide +kernel
theorem d4_11 : decode prog_93_method_7_code 11 = .ok (.iadd, 1) := by decide +kernel
theorem d4_12 : decode prog_93_method_7_code 12 = .ok (.putfield 16, 3) := by decide +kernel
theorem d4_15 : decode prog_93_method_7_code 15 = .ok (.aload_n 0, 1) := by decide +kernel
theorem d4_16 : decode prog_93_method_7_code 16 = .ok (.getfield 12, 3) := by decide +kernel
theorem d4_19 : decode prog_93_method_7_code 19 = .ok (.aload_n 0, 1) := by decide +kernel
theorem d4_20 : decode prog_93_method_7_code 20 = .ok (.getfield 16, 3) := by decide +kernel
theorem d4_23 : decode prog_93_method_7_code 23 = .ok (.iload_n 1, 1) := by decide +kernel
theorem d4_24 : decode prog_93_method_7_code 24 = .ok (.isub, 1) := by decide +kernel
theorem d4_25 : decode prog_93_method_7_code 25 = .ok (.aload_n 0, 1) := by decide +kernel
theorem d4_26 : decode prog_93_method_7_code 26 = .ok (.getfield 16, 3) := by decide +kernel
theorem d4_29 : decode prog_93_method_7_code 29 = .ok (.invokestatic 39, 3) := by decide +kernel
theorem d4_32 : decode prog_93_method_7_code 32 = .ok (.areturn, 1) := by decide +kernel
theorem ef_rm_raw (m : MethodId) (x0 : Addr) (x1 : Int32) : entryFrame m #[(.ref x0), (.int x1)] 2 = mkF m 0 #[.val (.ref x0), .val (.int x1)] [] := by first | (simp [entryFrame, mkF, argsToLocals, Value.category]; done) | rfl
def Q_raw (Z : State) (u : Addr) (x1 : Int32) (a : Addr) (f : Nat → Value) (h0 : Heap) (n0 : Nat) (v : Option Value) (h : Heap) (L : List Loc) : Prop := ∃ b : Addr, v = some (.ref b) ∧ Fr n0 L ∧ Keep h0 h [u] ∧ Fld Z h u "com/example/roleweave/roleweave/tpm/Unmarshaller" "bytes" "[B" (.ref a) ∧ Fld Z h u "com/example/roleweave/roleweave/tpm/Unmarshaller" "at" "I" (.int x1) ∧ Fld Z h u "com/example/roleweave/roleweave/tpm/Unmarshaller" "end" "I" (.int (4 : Int32))
set_option maxRecDepth 65536 in
set_option maxHeartbeats 40000000 in
theorem rm_raw (l : Launch) (Z : State) (a0 : Array Value) (hw : ∀ d ∈ tables_1, d.before a0 Z = true) (ws : List Jvm.Cond) (u : Addr) (x1 : Int32) (a : Addr) (f : Nat → Value) (h0 : Heap) (n0 : Nat) (Z0 : n0 ≤ h0.size) (E_u : Exa Z h0 u "com/example/roleweave/roleweave/tpm/Unmarshaller") (g_u : n0 ≤ u) (F_bytes_u : Fld Z h0 u "com/example/roleweave/roleweave/tpm/Unmarshaller" "bytes" "[B" (.ref a)) (F_at_u : Fld Z h0 u "com/example/roleweave/roleweave/tpm/Unmarshaller" "at" "I" (.int (0 : Int32))) (F_end_u : Fld Z h0 u "com/example/roleweave/roleweave/tpm/Unmarshaller" "end" "I" (.int (4 : Int32))) (V_a : Arf Z h0 a .byte (4 : Int32) f) (hft : ∀ i, fits .byte (f i) = true) (E_a : Exa Z h0 a "[B") (ne_u_a : u ≠ a) (hk : 0 ≤ x1.toInt ∧ x1.toInt ≤ 4) :
    MetFree l (⟨"com/example/roleweave/roleweave/tpm/Unmarshaller", "raw", "(I)[B"⟩ : MethodName) (head1 (Jvm.Cond.code (⟨"com/example/roleweave/roleweave/tpm/Unmarshaller", "raw", "(I)[B"⟩ : MethodName) prog_93_method_7_code 2 (some (.array .byte)) :: ws) ({ frames := 3, cells := 1, slots := 4, locals := 48 } : Room)) (fun as' U => as' = #[(.ref u), (.int x1)] ∧ Z.Warmed39 U.vm ∧ U.heap = h0) (fun _ _ _ _ _ => True) (fun _ U_ o_ U'_ => ∃ v_ L_, o_ = .returned v_ ∧ Q_raw Z u x1 a f h0 n0 v_ U'_.heap L_ ∧ FrameEnd U_ o_ U'_ L_ ({ frames := 3, cells := 1, slots := 4, locals := 48 } : Room).cells ({ frames := 3, cells := 1, slots := 4, locals := 48 } : Room).slots) := by
  refine MetFree.of_bodySF (plainFor_of_name pn_1) hisR ?_
  intro p e s m args below meth c s₁ Bd hml0 hP hK
  obtain ⟨rfl, hZ, hh⟩ := hP
  have hx := Bd.exec
  have hby := Bd.bytes
  have hml : c.maxLocals = 2 := hml0
  have hown : s.vm.findClass "com/example/roleweave/roleweave/tpm/Unmarshaller" = some m.cls := findClass_of_methodNamed Bd.named
  have hnm := (name_of_methodNamed Bd.named Bd.method).1
  have X0 : Stand p l e ({ frames := 3, cells := 1, slots := 4, locals := 48 } : Room) s m #[(.ref u), (.int x1)] below meth c s₁ [] 0 0 := Stand.of_body Bd
  have e0 : s₁.heap = h0 := by rw [← hh, Bd.state]; rfl
  have N0 := Fr.nil n0
  refine RunsTo.start (ef_rm_raw m u x1) ?_
  show RunsTo p e below s s₁ (mkF m 0 #[.val (.ref u), .val (.int x1)] []) (Q_raw Z u x1 a f h0 n0) ({ frames := 3, cells := 1, slots := 4, locals := 48 } : Room).cells ({ frames := 3, cells := 1, slots := 4, locals := 48 } : Room).slots
  refine RunsTo.of (T' := s₁) (g' := (mkF m 2 #[.val (.ref u), .val (.int x1)] [(.int x1), (.ref u)])) (fun tgt_ kt => ?_) ?_
  · refine XS.aloadN X0.here hx rfl (hb hby d4_0) rfl rfl ?_
    show Steps p.tables e below (s₁.setTop (mkF m 1 #[.val (.ref u), .val (.int x1)] [(.ref u)])) _
    refine XS.iloadN X0.here hx rfl (hb hby d4_1) rfl ?_
    show Steps p.tables e below (s₁.setTop (mkF m 2 #[.val (.ref u), .val (.int x1)] [(.int x1), (.ref u)])) _
    exact kt
  obtain ⟨cq1, q1, q1'⟩ := E_u.cell
  obtain ⟨_, _, ⟨T1, L1, k1, n1⟩, -, X1, ⟨Lc1, hQ1, l1, y1, z1⟩, st1⟩ := X0.privateBack hx (y := (⟨"com/example/roleweave/roleweave/tpm/Unmarshaller", "need", "(I)V"⟩ : MethodName)) hown (mvT hZ (hw _ (List.mem_of_getElem? (i := 25) rfl))) (mvT hZ (hw _ (List.mem_of_getElem? (i := 26) rfl))) (own_sel (y := (⟨"com/example/roleweave/roleweave/tpm/Unmarshaller", "need", "(I)V"⟩ : MethodName)) (mvT hZ (hw _ (List.mem_of_getElem? (i := 3) rfl))) (Cond.privateMethod_at (mvP hZ (hw _ (List.mem_of_getElem? (i := 27) rfl)) (args := #[]))) (mvT hZ (hw _ (List.mem_of_getElem? (i := 26) rfl))) (by decide)) (Cond.privateMethod_at (mvP hZ (hw _ (List.mem_of_getElem? (i := 27) rfl)) (args := #[]))) (mvT hZ (hw _ (List.mem_of_getElem? (i := 28) rfl))) (by decide) (backOf (W := 0) (rm_need l Z a0 hw [] u x1 0 4 h0 n0 Z0 F_at_u F_end_u (by rw [Int32.lt_iff_toInt_lt]; show ¬ _ < (0 : Int); omega) (by rw [Int32.lt_iff_toInt_lt]; show ¬ (4 : Int) < _; omega)) hZ (hw _ (List.mem_of_getElem? (i := 28) rfl)) (hw _ (List.mem_of_getElem? (i := 4) rfl)) (by decide) (by decide)) (g := (mkF m 2 #[.val (.ref u), .val (.int x1)] [(.int x1), (.ref u)])) rfl (by rw [hml]; rfl) (Steps.refl _) (a := u) (by rw [e0]; exact q1) q1' (argsL := [(.int x1)]) (rest := []) (lenOf pd_4 rfl) rfl (by show 2 * 0 + _ ≤ _; exact Nat.le_of_eq rfl) (hb hby d4_2) (fun _ _ => ⟨rfl, e0, (by decide : 0 + 0 ≤ _), (by decide : 0 + 0 ≤ _)⟩)
  dsimp only [Pt.U, Pt.locs, Pt.cells, Pt.slots] at X1 l1 y1 z1 st1 hQ1
  subst l1 y1 z1
  obtain ⟨rfl, N1q, e1⟩ := hQ1
  have N1 := Fr.app N0 N1q
  refine RunsTo.of (T' := T1) (g' := (mkF m 5 #[.val (.ref u), .val (.int x1)] [])) (fun _ kt => st1.trans kt) ?_
  refine RunsTo.of (T' := T1) (g' := (mkF m 7 #[.val (.ref u), .val (.int x1)] [(.ref u), (.ref u)])) (fun tgt_ kt => ?_) ?_
  · refine XS.aloadN X1.here hx rfl (hb hby d4_5) rfl rfl ?_
    show Steps p.tables e below (T1.setTop (mkF m 6 #[.val (.ref u), .val (.int x1)] [(.ref u)])) _
    refine XS.dup X1.here hx rfl (hb hby d4_6) rfl rfl ?_
    show Steps p.tables e below (T1.setTop (mkF m 7 #[.val (.ref u), .val (.int x1)] [(.ref u), (.ref u)])) _
    exact kt
  obtain ⟨T2, X2, e2, st2⟩ := getF X1 hx hZ hown (host := "") (Or.inl (hw _ (List.mem_of_getElem? (i := 16) rfl))) Via.refl e1 F_at_u (g := (mkF m 7 #[.val (.ref u), .val (.int x1)] [(.ref u), (.ref u)])) rfl rfl (hb hby d4_7)
  refine RunsTo.of (T' := T2) (g' := (mkF m 10 #[.val (.ref u), .val (.int x1)] [(.int (0 : Int32)), (.ref u)])) st2 ?_
  refine RunsTo.of (T' := T2) (g' := (mkF m 12 #[.val (.ref u), .val (.int x1)] [(.int ((0 : Int32) + x1)), (.ref u)])) (fun tgt_ kt => ?_) ?_
  · refine XS.iloadN X2.here hx rfl (hb hby d4_10) rfl ?_
    show Steps p.tables e below (T2.setTop (mkF m 11 #[.val (.ref u), .val (.int x1)] [(.int x1), (.int (0 : Int32)), (.ref u)])) _
    refine XS.iadd X2.here hx rfl (hb hby d4_11) rfl ?_
    show Steps p.tables e below (T2.setTop (mkF m 12 #[.val (.ref u), .val (.int x1)] [(.int ((0 : Int32) + x1)), (.ref u)])) _
    exact kt
  rw [Int32.zero_add]
  obtain ⟨T3, h3, X3, e3, W3, st3⟩ := putF X2 hx hZ hown (host := "") (Or.inl (hw _ (List.mem_of_getElem? (i := 16) rfl))) Via.refl e2 F_at_u E_u (Or.inl (hw _ (List.mem_of_getElem? (i := 17) rfl))) (hw _ (List.mem_of_getElem? (i := 3) rfl)) (ty := .int) (by decide) rfl rfl (g := (mkF m 12 #[.val (.ref u), .val (.int x1)] [(.int x1), (.ref u)])) rfl rfl (hb hby d4_12)
  have N3 := Fr.snoc X3 N1 g_u
  have Z3 : n0 ≤ h3.size := Nat.le_trans Z0 (Nat.le_of_eq W3.size.symm)
  have E_u := E_u.wr W3
  have F_bytes_u := F_bytes_u.other W3 (Or.inr (slot_ne (Or.inr (hw _ (List.mem_of_getElem? (i := 15) rfl))) (Or.inl (hw _ (List.mem_of_getElem? (i := 17) rfl))) (by decide) (t := (.array .byte)) (t' := .int) (by decide) (by decide)))
  have F_at_u := F_at_u.same W3
  have F_end_u := F_end_u.other W3 (Or.inr (slot_ne (Or.inr (hw _ (List.mem_of_getElem? (i := 19) rfl))) (Or.inl (hw _ (List.mem_of_getElem? (i := 17) rfl))) (by decide) (t := .int) (t' := .int) (by decide) (by decide)))
  have V_a := V_a.other W3 (Ne.symm ne_u_a)
  have E_a := E_a.wr W3
  refine RunsTo.of (T' := T3) (g' := (mkF m 15 #[.val (.ref u), .val (.int x1)] [])) st3 ?_
  refine RunsTo.of (T' := T3) (g' := (mkF m 16 #[.val (.ref u), .val (.int x1)] [(.ref u)])) (fun tgt_ kt => ?_) ?_
  · refine XS.aloadN X3.here hx rfl (hb hby d4_15) rfl rfl ?_
    show Steps p.tables e below (T3.setTop (mkF m 16 #[.val (.ref u), .val (.int x1)] [(.ref u)])) _
    exact kt
  obtain ⟨T4, X4, e4, st4⟩ := getF X3 hx hZ hown (host := "") (Or.inl (hw _ (List.mem_of_getElem? (i := 14) rfl))) Via.refl e3 F_bytes_u (g := (mkF m 16 #[.val (.ref u), .val (.int x1)] [(.ref u)])) rfl rfl (hb hby d4_16)
  refine RunsTo.of (T' := T4) (g' := (mkF m 19 #[.val (.ref u), .val (.int x1)] [(.ref a)])) st4 ?_
  refine RunsTo.of (T' := T4) (g' := (mkF m 20 #[.val (.ref u), .val (.int x1)] [(.ref u), (.ref a)])) (fun tgt_ kt => ?_) ?_
  · refine XS.aloadN X4.here hx rfl (hb hby d4_19) rfl rfl ?_
    show Steps p.tables e below (T4.setTop (mkF m 20 #[.val (.ref u), .val (.int x1)] [(.ref u), (.ref a)])) _
    exact kt
  obtain ⟨T5, X5, e5, st5⟩ := getF X4 hx hZ hown (host := "") (Or.inl (hw _ (List.mem_of_getElem? (i := 16) rfl))) Via.refl e4 F_at_u (g := (mkF m 20 #[.val (.ref u), .val (.int x1)] [(.ref u), (.ref a)])) rfl rfl (hb hby d4_20)
  refine RunsTo.of (T' := T5) (g' := (mkF m 23 #[.val (.ref u), .val (.int x1)] [(.int x1), (.ref a)])) st5 ?_
  refine RunsTo.of (T' := T5) (g' := (mkF m 25 #[.val (.ref u), .val (.int x1)] [(.int (x1 - x1)), (.ref a)])) (fun tgt_ kt => ?_) ?_
  · refine XS.iloadN X5.here hx rfl (hb hby d4_23) rfl ?_
    show Steps p.tables e below (T5.setTop (mkF m 24 #[.val (.ref u), .val (.int x1)] [(.int x1), (.int x1), (.ref a)])) _
    refine XS.isub X5.here hx rfl (hb hby d4_24) rfl ?_
    show Steps p.tables e below (T5.setTop (mkF m 25 #[.val (.ref u), .val (.int x1)] [(.int (x1 - x1)), (.ref a)])) _
    exact kt
  rw [Int32.sub_self]
  refine RunsTo.of (T' := T5) (g' := (mkF m 26 #[.val (.ref u), .val (.int x1)] [(.ref u), (.int (0 : Int32)), (.ref a)])) (fun tgt_ kt => ?_) ?_
  · refine XS.aloadN X5.here hx rfl (hb hby d4_25) rfl rfl ?_
    show Steps p.tables e below (T5.setTop (mkF m 26 #[.val (.ref u), .val (.int x1)] [(.ref u), (.int (0 : Int32)), (.ref a)])) _
    exact kt
  obtain ⟨T6, X6, e6, st6⟩ := getF X5 hx hZ hown (host := "") (Or.inl (hw _ (List.mem_of_getElem? (i := 16) rfl))) Via.refl e5 F_at_u (g := (mkF m 26 #[.val (.ref u), .val (.int x1)] [(.ref u), (.int (0 : Int32)), (.ref a)])) rfl rfl (hb hby d4_26)
  refine RunsTo.of (T' := T6) (g' := (mkF m 29 #[.val (.ref u), .val (.int x1)] [(.int x1), (.int (0 : Int32)), (.ref a)])) st6 ?_
  obtain ⟨_, _, ⟨T7, L7, k7, n7⟩, -, X7, ⟨Lc7, hQ7, l7, y7, z7⟩, st7⟩ := Jvm.LawKit.callS X6 hx (y := (⟨"java/util/Arrays", "copyOfRange", "([BII)[B"⟩ : MethodName)) hown (mvT hZ (hw _ (List.mem_of_getElem? (i := 29) rfl))) (mvT hZ (hw _ (List.mem_of_getElem? (i := 30) rfl))) (mvT hZ (hw _ (List.mem_of_getElem? (i := 31) rfl))) (mvT hZ (hw _ (List.mem_of_getElem? (i := 32) rfl))) (by decide) (backOf (W := 0) (rm_cr l Z a0 hw [] a 0 x1 f h3 n0 Z3 V_a hft E_a ⟨Int.le_refl 0, hk.1, hk.2⟩) hZ (hw _ (List.mem_of_getElem? (i := 32) rfl)) (hw _ (List.mem_of_getElem? (i := 31) rfl)) (by decide) (by decide)) (g := (mkF m 29 #[.val (.ref u), .val (.int x1)] [(.int x1), (.int (0 : Int32)), (.ref a)])) rfl (by rw [hml]; rfl) (argsL := [(.ref a), (.int (0 : Int32)), (.int x1)]) (rest := []) (lenOf pd_2 rfl) rfl (by show 2 * 0 + _ ≤ _; exact Nat.le_of_eq rfl) (hb hby d4_29) (fun _ _ => ⟨rfl, e6, (by decide : 0 + 1 ≤ _), (by decide : 0 + 4 ≤ _)⟩)
  dsimp only [Pt.U, Pt.locs, Pt.cells, Pt.slots] at X7 l7 y7 z7 st7 hQ7
  subst l7 y7 z7
  obtain ⟨b, rfl, N7q, g_b, sz_b, K7, V_b⟩ := hQ7
  have N7 := Fr.app N3 N7q
  have Z7 : n0 ≤ T7.heap.size := Nat.le_trans Z3 K7.1
  have E_u := E_u.keep K7
  have F_bytes_u := F_bytes_u.keep K7 nin0
  have F_at_u := F_at_u.keep K7 nin0
  have F_end_u := F_end_u.keep K7 nin0
  have V_a := V_a.keep K7 nin0
  have E_a := E_a.keep K7
  refine RunsTo.of (T' := T7) (g' := (mkF m 32 #[.val (.ref u), .val (.int x1)] [(.ref b)])) st7 ?_
  refine RunsTo.retA X7 hx Bd.returns rfl rfl Bd.notSynchronized (hb hby d4_32) ?_ (by decide) (by decide)
  exact ⟨b, rfl, N7, ((Keep.refl h0 [u]).wr W3 (Or.inl (List.mem_of_getElem? (i := 0) rfl))).trans K7 all0, F_bytes_u, F_at_u, F_end_u⟩
theorem d10_0 : decode prog_93_method_10_code 0 = .ok (.aload_n 0, 1) := by decide +kernel
theorem d10_1 : decode prog_93_method_10_code 1 = .ok (.getfield 12, 3) := by decide +kernel
theorem d10_4 : decode prog_93_method_10_code 4 = .ok (.iload_n 1, 1) := by decide +kernel
theorem d10_5 : decode prog_93_method_10_code 5 = .ok (.aload_n 0, 1) := by decide +kernel
theorem d10_6 : decode prog_93_method_10_code 6 = .ok (.getfield 16, 3) := by decide +kernel
theorem d10_9 : decode prog_93_method_10_code 9 = .ok (.invokestatic 39, 3) := by decide +kernel
theorem d10_12 : decode prog_93_method_10_code 12 = .ok (.areturn, 1) := by decide +kernel
theorem ef_rm_rs (m : MethodId) (x0 : Addr) (x1 : Int32) : entryFrame m #[(.ref x0), (.int x1)] 2 = mkF m 0 #[.val (.ref x0), .val (.int x1)] [] := by first | (simp [entryFrame, mkF, argsToLocals, Value.category]; done) | rfl
def Q_rs (Z : State) (u : Addr) (x1 : Int32) (a : Addr) (x2 : Int32) (f : Nat → Value) (h0 : Heap) (n0 : Nat) (v : Option Value) (h : Heap) (L : List Loc) : Prop := ∃ b : Addr, v = some (.ref b) ∧ Fr n0 L ∧ n0 ≤ b ∧ h0.size ≤ b ∧ Keep h0 h [] ∧ Arf Z h b .byte (x2 - x1) (fun i => f (x1.toNatClampNeg + i))
set_option maxRecDepth 65536 in
set_option maxHeartbeats 40000000 in
theorem rm_rs (l : Launch) (Z : State) (a0 : Array Value) (hw : ∀ d ∈ tables_1, d.before a0 Z = true) (ws : List Jvm.Cond) (u : Addr) (x1 : Int32) (a : Addr) (x2 : Int32) (f : Nat → Value) (h0 : Heap) (n0 : Nat) (Z0 : n0 ≤ h0.size) (E_u : Exa Z h0 u "com/example/roleweave/roleweave/tpm/Unmarshaller") (g_u : n0 ≤ u) (F_bytes_u : Fld Z h0 u "com/example/roleweave/roleweave/tpm/Unmarshaller" "bytes" "[B" (.ref a)) (F_at_u : Fld Z h0 u "com/example/roleweave/roleweave/tpm/Unmarshaller" "at" "I" (.int x2)) (F_end_u : Fld Z h0 u "com/example/roleweave/roleweave/tpm/Unmarshaller" "end" "I" (.int (4 : Int32))) (V_a : Arf Z h0 a .byte (4 : Int32) f) (hft : ∀ i, fits .byte (f i) = true) (E_a : Exa Z h0 a "[B") (ne_u_a : u ≠ a) (hr : 0 ≤ x1.toInt ∧ x1.toInt ≤ x2.toInt ∧ x2.toInt ≤ 4) :
    MetFree l (⟨"com/example/roleweave/roleweave/tpm/Unmarshaller", "readSince", "(I)[B"⟩ : MethodName) (head1 (Jvm.Cond.code (⟨"com/example/roleweave/roleweave/tpm/Unmarshaller", "readSince", "(I)[B"⟩ : MethodName) prog_93_method_10_code 2 (some (.array .byte)) :: ws) ({ frames := 3, cells := 1, slots := 4, locals := 48 } : Room)) (fun as' U => as' = #[(.ref u), (.int x1)] ∧ Z.Warmed39 U.vm ∧ U.heap = h0) (fun _ _ _ _ _ => True) (fun _ U_ o_ U'_ => ∃ v_ L_, o_ = .returned v_ ∧ Q_rs Z u x1 a x2 f h0 n0 v_ U'_.heap L_ ∧ FrameEnd U_ o_ U'_ L_ ({ frames := 3, cells := 1, slots := 4, locals := 48 } : Room).cells ({ frames := 3, cells := 1, slots := 4, locals := 48 } : Room).slots) := by
  refine MetFree.of_bodySF (plainFor_of_name pn_1) hisR ?_
  intro p e s m args below meth c s₁ Bd hml0 hP hK
  obtain ⟨rfl, hZ, hh⟩ := hP
  have hx := Bd.exec
  have hby := Bd.bytes
  have hml : c.maxLocals = 2 := hml0
  have hown : s.vm.findClass "com/example/roleweave/roleweave/tpm/Unmarshaller" = some m.cls := findClass_of_methodNamed Bd.named
  have hnm := (name_of_methodNamed Bd.named Bd.method).1
  have X0 : Stand p l e ({ frames := 3, cells := 1, slots := 4, locals := 48 } : Room) s m #[(.ref u), (.int x1)] below meth c s₁ [] 0 0 := Stand.of_body Bd
  have e0 : s₁.heap = h0 := by rw [← hh, Bd.state]; rfl
  have N0 := Fr.nil n0
  refine RunsTo.start (ef_rm_rs m u x1) ?_
  show RunsTo p e below s s₁ (mkF m 0 #[.val (.ref u), .val (.int x1)] []) (Q_rs Z u x1 a x2 f h0 n0) ({ frames := 3, cells := 1, slots := 4, locals := 48 } : Room).cells ({ frames := 3, cells := 1, slots := 4, locals := 48 } : Room).slots
  refine RunsTo.of (T' := s₁) (g' := (mkF m 1 #[.val (.ref u), .val (.int x1)] [(.ref u)])) (fun tgt_ kt => ?_) ?_
  · refine XS.aloadN X0.here hx rfl (hb hby d10_0) rfl rfl ?_
    show Steps p.tables e below (s₁.setTop (mkF m 1 #[.val (.ref u), .val (.int x1)] [(.ref u)])) _
    exact kt
  obtain ⟨T1, X1, e1, st1⟩ := getF X0 hx hZ hown (host := "") (Or.inl (hw _ (List.mem_of_getElem? (i := 14) rfl))) Via.refl e0 F_bytes_u (g := (mkF m 1 #[.val (.ref u), .val (.int x1)] [(.ref u)])) rfl rfl (hb hby d10_1)
  refine RunsTo.of (T' := T1) (g' := (mkF m 4 #[.val (.ref u), .val (.int x1)] [(.ref a)])) st1 ?_
  refine RunsTo.of (T' := T1) (g' := (mkF m 6 #[.val (.ref u), .val (.int x1)] [(.ref u), (.int x1), (.ref a)])) (fun tgt_ kt => ?_) ?_
  · refine XS.iloadN X1.here hx rfl (hb hby d10_4) rfl ?_
    show Steps p.tables e below (T1.setTop (mkF m 5 #[.val (.ref u), .val (.int x1)] [(.int x1), (.ref a)])) _
    refine XS.aloadN X1.here hx rfl (hb hby d10_5) rfl rfl ?_
    show Steps p.tables e below (T1.setTop (mkF m 6 #[.val (.ref u), .val (.int x1)] [(.ref u), (.int x1), (.ref a)])) _
    exact kt
  obtain ⟨T2, X2, e2, st2⟩ := getF X1 hx hZ hown (host := "") (Or.inl (hw _ (List.mem_of_getElem? (i := 16) rfl))) Via.refl e1 F_at_u (g := (mkF m 6 #[.val (.ref u), .val (.int x1)] [(.ref u), (.int x1), (.ref a)])) rfl rfl (hb hby d10_6)
  refine RunsTo.of (T' := T2) (g' := (mkF m 9 #[.val (.ref u), .val (.int x1)] [(.int x2), (.int x1), (.ref a)])) st2 ?_
  obtain ⟨_, _, ⟨T3, L3, k3, n3⟩, -, X3, ⟨Lc3, hQ3, l3, y3, z3⟩, st3⟩ := Jvm.LawKit.callS X2 hx (y := (⟨"java/util/Arrays", "copyOfRange", "([BII)[B"⟩ : MethodName)) hown (mvT hZ (hw _ (List.mem_of_getElem? (i := 29) rfl))) (mvT hZ (hw _ (List.mem_of_getElem? (i := 30) rfl))) (mvT hZ (hw _ (List.mem_of_getElem? (i := 31) rfl))) (mvT hZ (hw _ (List.mem_of_getElem? (i := 32) rfl))) (by decide) (backOf (W := 0) (rm_cr l Z a0 hw [] a x1 x2 f h0 n0 Z0 V_a hft E_a hr) hZ (hw _ (List.mem_of_getElem? (i := 32) rfl)) (hw _ (List.mem_of_getElem? (i := 31) rfl)) (by decide) (by decide)) (g := (mkF m 9 #[.val (.ref u), .val (.int x1)] [(.int x2), (.int x1), (.ref a)])) rfl (by rw [hml]; rfl) (argsL := [(.ref a), (.int x1), (.int x2)]) (rest := []) (lenOf pd_2 rfl) rfl (by show 2 * 0 + _ ≤ _; exact Nat.le_of_eq rfl) (hb hby d10_9) (fun _ _ => ⟨rfl, e2, (by decide : 0 + 1 ≤ _), (by decide : 0 + 4 ≤ _)⟩)
  dsimp only [Pt.U, Pt.locs, Pt.cells, Pt.slots] at X3 l3 y3 z3 st3 hQ3
  subst l3 y3 z3
  obtain ⟨b, rfl, N3q, g_b, sz_b, K3, V_b⟩ := hQ3
  have N3 := Fr.app N0 N3q
  refine RunsTo.of (T' := T3) (g' := (mkF m 12 #[.val (.ref u), .val (.int x1)] [(.ref b)])) st3 ?_
  refine RunsTo.retA X3 hx Bd.returns rfl rfl Bd.notSynchronized (hb hby d10_12) ?_ (by decide) (by decide)
  exact ⟨b, rfl, N3, g_b, sz_b, K3, V_b⟩
theorem d11_0 : decode prog_93_method_11_code 0 = .ok (.aload_n 0, 1) := by decide +kernel
theorem d11_1 : decode prog_93_method_11_code 1 = .ok (.getfield 16, 3) := by decide +kernel
theorem d11_4 : decode prog_93_method_11_code 4 = .ok (.ireturn, 1) := by decide +kernel
theorem ef_rm_pos (m : MethodId) (x0 : Addr) : entryFrame m #[(.ref x0)] 1 = mkF m 0 #[.val (.ref x0)] [] := by first | (simp [entryFrame, mkF, argsToLocals, Value.category]; done) | rfl
def Q_pos (Z : State) (u : Addr) (w : Int32) (h0 : Heap) (n0 : Nat) (v : Option Value) (h : Heap) (L : List Loc) : Prop := v = some (.int w) ∧ Fr n0 L ∧ h = h0
set_option maxRecDepth 65536 in
set_option maxHeartbeats 40000000 in
theorem rm_pos (l : Launch) (Z : State) (a0 : Array Value) (hw : ∀ d ∈ tables_1, d.before a0 Z = true) (ws : List Jvm.Cond) (u : Addr) (w : Int32) (h0 : Heap) (n0 : Nat) (Z0 : n0 ≤ h0.size) (F_at_u : Fld Z h0 u "com/example/roleweave/roleweave/tpm/Unmarshaller" "at" "I" (.int w)) :
    MetFree l (⟨"com/example/roleweave/roleweave/tpm/Unmarshaller", "position", "()I"⟩ : MethodName) (head1 (Jvm.Cond.code (⟨"com/example/roleweave/roleweave/tpm/Unmarshaller", "position", "()I"⟩ : MethodName) prog_93_method_11_code 1 (some .int) :: ws) ({ frames := 0, cells := 0, slots := 0, locals := 0 } : Room)) (fun as' U => as' = #[(.ref u)] ∧ Z.Warmed39 U.vm ∧ U.heap = h0) (fun _ _ _ _ _ => True) (fun _ U_ o_ U'_ => ∃ v_ L_, o_ = .returned v_ ∧ Q_pos Z u w h0 n0 v_ U'_.heap L_ ∧ FrameEnd U_ o_ U'_ L_ ({ frames := 0, cells := 0, slots := 0, locals := 0 } : Room).cells ({ frames := 0, cells := 0, slots := 0, locals := 0 } : Room).slots) := by
  refine MetFree.of_bodySF (plainFor_of_name pn_1) hisR ?_
  intro p e s m args below meth c s₁ Bd hml0 hP hK
  obtain ⟨rfl, hZ, hh⟩ := hP
  have hx := Bd.exec
  have hby := Bd.bytes
  have hml : c.maxLocals = 1 := hml0
  have hown : s.vm.findClass "com/example/roleweave/roleweave/tpm/Unmarshaller" = some m.cls := findClass_of_methodNamed Bd.named
  have hnm := (name_of_methodNamed Bd.named Bd.method).1
  have X0 : Stand p l e ({ frames := 0, cells := 0, slots := 0, locals := 0 } : Room) s m #[(.ref u)] below meth c s₁ [] 0 0 := Stand.of_body Bd
  have e0 : s₁.heap = h0 := by rw [← hh, Bd.state]; rfl
  have N0 := Fr.nil n0
  refine RunsTo.start (ef_rm_pos m u) ?_
  show RunsTo p e below s s₁ (mkF m 0 #[.val (.ref u)] []) (Q_pos Z u w h0 n0) ({ frames := 0, cells := 0, slots := 0, locals := 0 } : Room).cells ({ frames := 0, cells := 0, slots := 0, locals := 0 } : Room).slots
  refine RunsTo.of (T' := s₁) (g' := (mkF m 1 #[.val (.ref u)] [(.ref u)])) (fun tgt_ kt => ?_) ?_
  · refine XS.aloadN X0.here hx rfl (hb hby d11_0) rfl rfl ?_
    show Steps p.tables e below (s₁.setTop (mkF m 1 #[.val (.ref u)] [(.ref u)])) _
    exact kt
  obtain ⟨T1, X1, e1, st1⟩ := getF X0 hx hZ hown (host := "") (Or.inl (hw _ (List.mem_of_getElem? (i := 16) rfl))) Via.refl e0 F_at_u (g := (mkF m 1 #[.val (.ref u)] [(.ref u)])) rfl rfl (hb hby d11_1)
  refine RunsTo.of (T' := T1) (g' := (mkF m 4 #[.val (.ref u)] [(.int w)])) st1 ?_
  refine RunsTo.retI X1 hx Bd.returns Bd.notSynchronized (hb hby d11_4) ?_ (by decide) (by decide)
  rw [e1]
  exact ⟨rfl, N0, rfl⟩
theorem d12_0 : decode method_3_code 0 = .ok (.iload 4, 2) := by decide +kernel
theorem d12_2 : decode method_3_code 2 = .ok (.iload_n 3, 1) := by decide +kernel
theorem d12_3 : decode method_3_code 3 = .ok (.if_icmp .ge 16, 3) := by decide +kernel
theorem d12_6 : decode method_3_code 6 = .ok (.aload_n 0, 1) := by decide +kernel
theorem d12_7 : decode method_3_code 7 = .ok (.iload 4, 2) := by decide +kernel
theorem d12_9 : decode method_3_code 9 = .ok (.baload, 1) := by decide +kernel
theorem d12_10 : decode method_3_code 10 = .ok (.aload_n 1, 1) := by decide +kernel
theorem d12_11 : decode method_3_code 11 = .ok (.iload_n 2, 1) := by decide +kernel
theorem d12_12 : decode method_3_code 12 = .ok (.iload 4, 2) := by decide +kernel
theorem d12_14 : decode method_3_code 14 = .ok (.iadd, 1) := by decide +kernel
theorem d12_15 : decode method_3_code 15 = .ok (.baload, 1) := by decide +kernel
theorem d12_16 : decode method_3_code 16 = .ok (.if_icmp .ne 7, 3) := by decide +kernel
theorem d12_19 : decode method_3_code 19 = .ok (.iconst 1, 1) := by decide +kernel
theorem d12_20 : decode method_3_code 20 = .ok (.goto 4, 3) := by decide +kernel
theorem d12_24 : decode method_3_code 24 = .ok (.ireturn, 1) := by decide +kernel
theorem pn_2 : plainName "com/example/roleweave/roleweave/tpm/UnmarshallerReadSincePinLaw" = true := by first | (simp [plainName, overriddenIn]; done) | decide +kernel
theorem ef_rm_same (m : MethodId) (x0 : Addr) (x1 : Addr) (x2 : Int32) (x3 : Int32) (x4 : Int32) : entryFrame m #[(.ref x0), (.ref x1), (.int x2), (.int x3), (.int x4)] 5 = mkF m 0 #[.val (.ref x0), .val (.ref x1), .val (.int x2), .val (.int x3), .val (.int x4)] [] := by first | (simp [entryFrame, mkF, argsToLocals, Value.category]; done) | rfl
def Q_same (Z : State) (b : Addr) (a : Addr) (x2 : Int32) (x3 : Int32) (x4 : Int32) (sb : Nat → Int32) (h0 : Heap) (n0 : Nat) (v : Option Value) (h : Heap) (L : List Loc) : Prop := v = some (.int 1) ∧ Fr n0 L ∧ h = h0
set_option maxRecDepth 65536 in
set_option maxHeartbeats 40000000 in
theorem rm_same (l : Launch) (Z : State) (a0 : Array Value) (hw : ∀ d ∈ tables_1, d.before a0 Z = true) (ws : List Jvm.Cond) (b : Addr) (a : Addr) (x2 : Int32) (x3 : Int32) (x4 : Int32) (sb : Nat → Int32) (h0 : Heap) (n0 : Nat) (Z0 : n0 ≤ h0.size) (V_b : Arf Z h0 b .byte x3 (fun i => .int (sb (x2.toNatClampNeg + i)))) (V_a : Arf Z h0 a .byte (4 : Int32) (fun i => .int (sb i))) (h2 : 0 ≤ x2.toInt) (h4 : 0 ≤ x4.toInt) (h3 : x2.toInt + x3.toInt ≤ 4) :
    MetFree l (⟨"com/example/roleweave/roleweave/tpm/UnmarshallerReadSincePinLaw", "same", "([B[BIII)Z"⟩ : MethodName) (head1 (Jvm.Cond.code (⟨"com/example/roleweave/roleweave/tpm/UnmarshallerReadSincePinLaw", "same", "([B[BIII)Z"⟩ : MethodName) method_3_code 5 (some .boolean) :: ws) ({ frames := 0, cells := 0, slots := 0, locals := 0 } : Room)) (fun as' U => as' = #[(.ref b), (.ref a), (.int x2), (.int x3), (.int x4)] ∧ Z.Warmed39 U.vm ∧ U.heap = h0) (fun _ _ _ _ _ => True) (fun _ U_ o_ U'_ => ∃ v_ L_, o_ = .returned v_ ∧ Q_same Z b a x2 x3 x4 sb h0 n0 v_ U'_.heap L_ ∧ FrameEnd U_ o_ U'_ L_ ({ frames := 0, cells := 0, slots := 0, locals := 0 } : Room).cells ({ frames := 0, cells := 0, slots := 0, locals := 0 } : Room).slots) := by
  refine MetFree.of_bodySF (plainFor_of_name pn_2) hisR ?_
  intro p e s m args below meth c s₁ Bd hml0 hP hK
  obtain ⟨rfl, hZ, hh⟩ := hP
  have hx := Bd.exec
  have hby := Bd.bytes
  have hml : c.maxLocals = 5 := hml0
  have hown : s.vm.findClass "com/example/roleweave/roleweave/tpm/UnmarshallerReadSincePinLaw" = some m.cls := findClass_of_methodNamed Bd.named
  have hnm := (name_of_methodNamed Bd.named Bd.method).1
  have X0 : Stand p l e ({ frames := 0, cells := 0, slots := 0, locals := 0 } : Room) s m #[(.ref b), (.ref a), (.int x2), (.int x3), (.int x4)] below meth c s₁ [] 0 0 := Stand.of_body Bd
  have e0 : s₁.heap = h0 := by rw [← hh, Bd.state]; rfl
  have N0 := Fr.nil n0
  refine RunsTo.start (ef_rm_same m b a x2 x3 x4) ?_
  show RunsTo p e below s s₁ (mkF m 0 #[.val (.ref b), .val (.ref a), .val (.int x2), .val (.int x3), .val (.int x4)] []) (Q_same Z b a x2 x3 x4 sb h0 n0) ({ frames := 0, cells := 0, slots := 0, locals := 0 } : Room).cells ({ frames := 0, cells := 0, slots := 0, locals := 0 } : Room).slots
  refine RunsTo.of (T' := s₁) (g' := (mkF m 3 #[.val (.ref b), .val (.ref a), .val (.int x2), .val (.int x3), .val (.int x4)] [(.int x3), (.int x4)])) (fun tgt_ kt => ?_) ?_
  · refine XS.iload X0.here hx rfl (hb hby d12_0) rfl ?_
    show Steps p.tables e below (s₁.setTop (mkF m 2 #[.val (.ref b), .val (.ref a), .val (.int x2), .val (.int x3), .val (.int x4)] [(.int x4)])) _
    refine XS.iloadN X0.here hx rfl (hb hby d12_2) rfl ?_
    show Steps p.tables e below (s₁.setTop (mkF m 3 #[.val (.ref b), .val (.ref a), .val (.int x2), .val (.int x3), .val (.int x4)] [(.int x3), (.int x4)])) _
    exact kt
  by_cases hlt : x4 < x3
  · refine RunsTo.of (T' := s₁) (g' := (mkF m 9 #[.val (.ref b), .val (.ref a), .val (.int x2), .val (.int x3), .val (.int x4)] [(.int x4), (.ref b)])) (fun tgt_ kt => ?_) ?_
    · refine XS.icmpNo X0.here hx rfl (hb hby d12_3) rfl (tlt hlt).2.1 ?_
      show Steps p.tables e below (s₁.setTop (mkF m 6 #[.val (.ref b), .val (.ref a), .val (.int x2), .val (.int x3), .val (.int x4)] [])) _
      refine XS.aloadN X0.here hx rfl (hb hby d12_6) rfl rfl ?_
      show Steps p.tables e below (s₁.setTop (mkF m 7 #[.val (.ref b), .val (.ref a), .val (.int x2), .val (.int x3), .val (.int x4)] [(.ref b)])) _
      refine XS.iload X0.here hx rfl (hb hby d12_7) rfl ?_
      show Steps p.tables e below (s₁.setTop (mkF m 9 #[.val (.ref b), .val (.ref a), .val (.int x2), .val (.int x3), .val (.int x4)] [(.int x4), (.ref b)])) _
      exact kt
    have hl := hlt
    rw [Int32.lt_iff_toInt_lt] at hl
    have hs := c_iadd x2 x4
    have hsr := rng32 (x2 + x4)
    have hs' : (x2 + x4).toInt = x2.toInt + x4.toInt := by omega
    have k2 := own_nat x2 h2
    have k4 := own_nat x4 h4
    have k6 := own_nat (x2 + x4) (by omega)
    have ke : (x2 + x4).toNatClampNeg = x2.toNatClampNeg + x4.toNatClampNeg := by omega
    obtain ⟨cl_b_1, Ar_b_1, S_b_1, M_b_1, H_b_1⟩ := id V_b
    have hin_b_1 : ¬ (x4 < 0 ∨ cl_b_1.slots.size ≤ (x4).toNatClampNeg) := inb_of S_b_1 ⟨by rw [Int32.lt_iff_toInt_lt]; show ¬ _ < (0 : Int); omega, hlt⟩
    have hat_b_1 : cl_b_1.slots[(x4).toNatClampNeg]? = some (.int (sb (x2.toNatClampNeg + x4.toNatClampNeg))) := (H_b_1 _ (Nat.lt_of_not_le fun y => hin_b_1 (Or.inr y))).trans (congrArg some rfl)
    refine RunsTo.of (T' := s₁) (g' := (mkF m 10 #[.val (.ref b), .val (.ref a), .val (.int x2), .val (.int x3), .val (.int x4)] [(.int (sb (x2.toNatClampNeg + x4.toNatClampNeg)))])) (fun tgt_ kt => ?_) ?_
    · refine X0.baloadBytes hx (j := x4) (v := (.int (sb (x2.toNatClampNeg + x4.toNatClampNeg)))) (by rw [e0]; exact Ar_b_1.1) (State.isArrayOf_alike hZ.alike Ar_b_1.2.1) Ar_b_1.2.2 hin_b_1 hat_b_1 (g := (mkF m 9 #[.val (.ref b), .val (.ref a), .val (.int x2), .val (.int x3), .val (.int x4)] [(.int x4), (.ref b)])) rfl rfl (hb hby d12_9) _ ?_
      show Steps p.tables e below (s₁.setTop (mkF m 10 #[.val (.ref b), .val (.ref a), .val (.int x2), .val (.int x3), .val (.int x4)] [(.int (sb (x2.toNatClampNeg + x4.toNatClampNeg)))])) _
      exact kt
    refine RunsTo.of (T' := s₁) (g' := (mkF m 15 #[.val (.ref b), .val (.ref a), .val (.int x2), .val (.int x3), .val (.int x4)] [(.int (x2 + x4)), (.ref a), (.int (sb (x2.toNatClampNeg + x4.toNatClampNeg)))])) (fun tgt_ kt => ?_) ?_
    · refine XS.aloadN X0.here hx rfl (hb hby d12_10) rfl rfl ?_
      show Steps p.tables e below (s₁.setTop (mkF m 11 #[.val (.ref b), .val (.ref a), .val (.int x2), .val (.int x3), .val (.int x4)] [(.ref a), (.int (sb (x2.toNatClampNeg + x4.toNatClampNeg)))])) _
      refine XS.iloadN X0.here hx rfl (hb hby d12_11) rfl ?_
      show Steps p.tables e below (s₁.setTop (mkF m 12 #[.val (.ref b), .val (.ref a), .val (.int x2), .val (.int x3), .val (.int x4)] [(.int x2), (.ref a), (.int (sb (x2.toNatClampNeg + x4.toNatClampNeg)))])) _
      refine XS.iload X0.here hx rfl (hb hby d12_12) rfl ?_
      show Steps p.tables e below (s₁.setTop (mkF m 14 #[.val (.ref b), .val (.ref a), .val (.int x2), .val (.int x3), .val (.int x4)] [(.int x4), (.int x2), (.ref a), (.int (sb (x2.toNatClampNeg + x4.toNatClampNeg)))])) _
      refine XS.iadd X0.here hx rfl (hb hby d12_14) rfl ?_
      show Steps p.tables e below (s₁.setTop (mkF m 15 #[.val (.ref b), .val (.ref a), .val (.int x2), .val (.int x3), .val (.int x4)] [(.int (x2 + x4)), (.ref a), (.int (sb (x2.toNatClampNeg + x4.toNatClampNeg)))])) _
      exact kt
    obtain ⟨cl_a_2, Ar_a_2, S_a_2, M_a_2, H_a_2⟩ := id V_a
    have hin_a_2 : ¬ ((x2 + x4) < 0 ∨ cl_a_2.slots.size ≤ ((x2 + x4)).toNatClampNeg) := inb_of S_a_2 ⟨by rw [Int32.lt_iff_toInt_lt]; show ¬ _ < (0 : Int); omega, by rw [Int32.lt_iff_toInt_lt]; show _ < (4 : Int); omega⟩
    have hat_a_2 : cl_a_2.slots[((x2 + x4)).toNatClampNeg]? = some (.int (sb (x2.toNatClampNeg + x4.toNatClampNeg))) := (H_a_2 _ (Nat.lt_of_not_le fun y => hin_a_2 (Or.inr y))).trans (congrArg some (by rw [ke]))
    refine RunsTo.of (T' := s₁) (g' := (mkF m 16 #[.val (.ref b), .val (.ref a), .val (.int x2), .val (.int x3), .val (.int x4)] [(.int (sb (x2.toNatClampNeg + x4.toNatClampNeg))), (.int (sb (x2.toNatClampNeg + x4.toNatClampNeg)))])) (fun tgt_ kt => ?_) ?_
    · refine X0.baloadBytes hx (j := (x2 + x4)) (v := (.int (sb (x2.toNatClampNeg + x4.toNatClampNeg)))) (by rw [e0]; exact Ar_a_2.1) (State.isArrayOf_alike hZ.alike Ar_a_2.2.1) Ar_a_2.2.2 hin_a_2 hat_a_2 (g := (mkF m 15 #[.val (.ref b), .val (.ref a), .val (.int x2), .val (.int x3), .val (.int x4)] [(.int (x2 + x4)), (.ref a), (.int (sb (x2.toNatClampNeg + x4.toNatClampNeg)))])) rfl rfl (hb hby d12_15) _ ?_
      show Steps p.tables e below (s₁.setTop (mkF m 16 #[.val (.ref b), .val (.ref a), .val (.int x2), .val (.int x3), .val (.int x4)] [(.int (sb (x2.toNatClampNeg + x4.toNatClampNeg))), (.int (sb (x2.toNatClampNeg + x4.toNatClampNeg)))])) _
      exact kt
    refine RunsTo.of (T' := s₁) (g' := (mkF m 24 #[.val (.ref b), .val (.ref a), .val (.int x2), .val (.int x3), .val (.int x4)] [(.int (1 : Int32))])) (fun tgt_ kt => ?_) ?_
    · refine XS.icmpNo X0.here hx rfl (hb hby d12_16) rfl (teq rfl).2 ?_
      show Steps p.tables e below (s₁.setTop (mkF m 19 #[.val (.ref b), .val (.ref a), .val (.int x2), .val (.int x3), .val (.int x4)] [])) _
      refine XS.iconst X0.here hx rfl (hb hby d12_19) ?_
      show Steps p.tables e below (s₁.setTop (mkF m 20 #[.val (.ref b), .val (.ref a), .val (.int x2), .val (.int x3), .val (.int x4)] [(.int (1 : Int32))])) _
      refine XS.goto X0.here hx rfl (pc0 := 20) (pc' := 24) rfl (hb hby d12_20) (by decide) (by decide) ?_
      show Steps p.tables e below (s₁.setTop (mkF m 24 #[.val (.ref b), .val (.ref a), .val (.int x2), .val (.int x3), .val (.int x4)] [(.int (1 : Int32))])) _
      exact kt
    refine RunsTo.retN X0 hx (t := .boolean) Bd.returns (by simp) Bd.notSynchronized (hb hby d12_24) ?_ (by decide) (by decide)
    rw [e0]
    exact ⟨rfl, N0, rfl⟩
  · refine RunsTo.of (T' := s₁) (g' := (mkF m 24 #[.val (.ref b), .val (.ref a), .val (.int x2), .val (.int x3), .val (.int x4)] [(.int (1 : Int32))])) (fun tgt_ kt => ?_) ?_
    · refine XS.icmpYes X0.here hx rfl (pc0 := 3) (pc' := 19) rfl (hb hby d12_3) rfl (flt hlt).2.1 (by decide) (by decide) ?_
      show Steps p.tables e below (s₁.setTop (mkF m 19 #[.val (.ref b), .val (.ref a), .val (.int x2), .val (.int x3), .val (.int x4)] [])) _
      refine XS.iconst X0.here hx rfl (hb hby d12_19) ?_
      show Steps p.tables e below (s₁.setTop (mkF m 20 #[.val (.ref b), .val (.ref a), .val (.int x2), .val (.int x3), .val (.int x4)] [(.int (1 : Int32))])) _
      refine XS.goto X0.here hx rfl (pc0 := 20) (pc' := 24) rfl (hb hby d12_20) (by decide) (by decide) ?_
      show Steps p.tables e below (s₁.setTop (mkF m 24 #[.val (.ref b), .val (.ref a), .val (.int x2), .val (.int x3), .val (.int x4)] [(.int (1 : Int32))])) _
      exact kt
    refine RunsTo.retN X0 hx (t := .boolean) Bd.returns (by simp) Bd.notSynchronized (hb hby d12_24) ?_ (by decide) (by decide)
    rw [e0]
    exact ⟨rfl, N0, rfl⟩
theorem pd_5 : parseMethodDescriptor "([B)V" = some ⟨[(.array .byte)], none⟩ := by decide +kernel
theorem pd_6 : parseMethodDescriptor "(I)[B" = some ⟨[.int], some (.array .byte)⟩ := by decide +kernel
theorem pd_7 : parseMethodDescriptor "()I" = some ⟨[], some .int⟩ := by decide +kernel
theorem pd_8 : parseMethodDescriptor "([B[BIII)Z" = some ⟨[(.array .byte), (.array .byte), .int, .int, .int], some .boolean⟩ := by decide +kernel
theorem ef_rm0 (m : MethodId) (x0 : Int32) (x1 : Int32) (x2 : Int32) : entryFrame m #[(.int x0), (.int x1), (.int x2)] maxLocals = mkF m 0 #[.val (.int x0), .val (.int x1), .val (.int x2), .unset, .unset, .unset, .unset, .unset, .unset] [] := by first | (simp [entryFrame, mkF, argsToLocals, Value.category, maxLocals]; done) | rfl
def Q0 (Z : State) (x0 : Int32) (x1 : Int32) (x2 : Int32) (h0 : Heap) (n0 : Nat) (v : Option Value) (h : Heap) (L : List Loc) : Prop := v = some (.int 1) ∧ Fr n0 L
set_option maxRecDepth 65536 in
set_option maxHeartbeats 40000000 in
theorem rm0 (l : Launch) (Z : State) (a0 : Array Value) (hw : ∀ d ∈ tables_1, d.before a0 Z = true) (ws : List Jvm.Cond) (x0 : Int32) (x1 : Int32) (x2 : Int32) (h0 : Heap) (n0 : Nat) (Z0 : n0 ≤ h0.size)  :
    MetFree l x (head1 (Jvm.Cond.code x code maxLocals ret :: ws) room_1) (fun as' U => as' = #[(.int x0), (.int x1), (.int x2)] ∧ Z.Warmed39 U.vm ∧ U.heap = h0) (fun _ _ _ _ _ => True) (fun _ U_ o_ U'_ => ∃ v_ L_, o_ = .returned v_ ∧ Q0 Z x0 x1 x2 h0 n0 v_ U'_.heap L_ ∧ FrameEnd U_ o_ U'_ L_ room_1.cells room_1.slots) := by
  refine MetFree.of_bodySF (plainFor_of_name pn_2) hisR ?_
  intro p e s m args below meth c s₁ Bd hml0 hP hK
  obtain ⟨rfl, hZ, hh⟩ := hP
  have hx := Bd.exec
  have hby := Bd.bytes
  have hml : c.maxLocals = 9 := hml0
  have hown : s.vm.findClass "com/example/roleweave/roleweave/tpm/UnmarshallerReadSincePinLaw" = some m.cls := findClass_of_methodNamed Bd.named
  have hnm := (name_of_methodNamed Bd.named Bd.method).1
  have X0 : Stand p l e room_1 s m #[(.int x0), (.int x1), (.int x2)] below meth c s₁ [] 0 0 := Stand.of_body Bd
  have e0 : s₁.heap = h0 := by rw [← hh, Bd.state]; rfl
  have N0 := Fr.nil n0
  refine RunsTo.start (ef_rm0 m x0 x1 x2) ?_
  show RunsTo p e below s s₁ (mkF m 0 #[.val (.int x0), .val (.int x1), .val (.int x2), .unset, .unset, .unset, .unset, .unset, .unset] []) (Q0 Z x0 x1 x2 h0 n0) room_1.cells room_1.slots
  refine RunsTo.of (T' := s₁) (g' := (mkF m 1 #[.val (.int x0), .val (.int x1), .val (.int x2), .unset, .unset, .unset, .unset, .unset, .unset] [(.int (4 : Int32))])) (fun tgt_ kt => ?_) ?_
  · refine XS.iconst X0.here hx rfl (hb hby at_0) ?_
    show Steps p.tables e below (s₁.setTop (mkF m 1 #[.val (.int x0), .val (.int x1), .val (.int x2), .unset, .unset, .unset, .unset, .unset, .unset] [(.int (4 : Int32))])) _
    exact kt
  obtain ⟨T1, h1, k1, X1, e1, E1, A1, G1, st1⟩ := newPE X0 hx hZ (hw _ (List.mem_of_getElem? (i := 0) rfl)) e0 (g := (mkF m 1 #[.val (.int x0), .val (.int x1), .val (.int x2), .unset, .unset, .unset, .unset, .unset, .unset] [(.int (4 : Int32))])) rfl (hb hby at_1) rfl (by decide) (cap := 4) (by decide) (by decide) (by decide) (by decide) (ad := "[B") rfl
  obtain ⟨a, g1⟩ : ∃ z, z = h0.size := ⟨_, rfl⟩
  rw [← g1] at A1 G1 st1
  have Z1 : n0 ≤ h1.size := Nat.le_trans Z0 E1.1
  have g_a : n0 ≤ a := Nat.le_trans Z0 (Nat.le_of_eq g1.symm)
  have V_a : Arf Z h1 a .byte (4 : Int32) (fun _ => (Value.int (0 : Int32))) := Arf.new A1 (by decide)
  have E_a : Exa Z h1 a "[B" := G1
  refine RunsTo.of (T' := T1) (g' := (mkF m 3 #[.val (.int x0), .val (.int x1), .val (.int x2), .unset, .unset, .unset, .unset, .unset, .unset] [(.ref a)])) st1 ?_
  refine RunsTo.of (T' := T1) (g' := (mkF m 8 #[.val (.int x0), .val (.int x1), .val (.int x2), .val (.ref a), .unset, .unset, .unset, .unset, .unset] [(.int x0.toInt8.toInt32), (.int (0 : Int32)), (.ref a)])) (fun tgt_ kt => ?_) ?_
  · refine XS.astoreN X1.here hx rfl (hb hby at_3) rfl rfl (l' := #[.val (.int x0), .val (.int x1), .val (.int x2), .val (.ref a), .unset, .unset, .unset, .unset, .unset]) rfl ?_
    show Steps p.tables e below (T1.setTop (mkF m 4 #[.val (.int x0), .val (.int x1), .val (.int x2), .val (.ref a), .unset, .unset, .unset, .unset, .unset] [])) _
    refine XS.aloadN X1.here hx rfl (hb hby at_4) rfl rfl ?_
    show Steps p.tables e below (T1.setTop (mkF m 5 #[.val (.int x0), .val (.int x1), .val (.int x2), .val (.ref a), .unset, .unset, .unset, .unset, .unset] [(.ref a)])) _
    refine XS.iconst X1.here hx rfl (hb hby at_5) ?_
    show Steps p.tables e below (T1.setTop (mkF m 6 #[.val (.int x0), .val (.int x1), .val (.int x2), .val (.ref a), .unset, .unset, .unset, .unset, .unset] [(.int (0 : Int32)), (.ref a)])) _
    refine XS.iloadN X1.here hx rfl (hb hby at_6) rfl ?_
    show Steps p.tables e below (T1.setTop (mkF m 7 #[.val (.int x0), .val (.int x1), .val (.int x2), .val (.ref a), .unset, .unset, .unset, .unset, .unset] [(.int x0), (.int (0 : Int32)), (.ref a)])) _
    refine XS.i2b X1.here hx rfl (hb hby at_7) rfl ?_
    show Steps p.tables e below (T1.setTop (mkF m 8 #[.val (.int x0), .val (.int x1), .val (.int x2), .val (.ref a), .unset, .unset, .unset, .unset, .unset] [(.int x0.toInt8.toInt32), (.int (0 : Int32)), (.ref a)])) _
    exact kt
  obtain ⟨cl_a_2, Ar_a_2, S_a_2, M_a_2, H_a_2⟩ := id V_a
  have hin_a_2 : ¬ ((0 : Int32) < 0 ∨ cl_a_2.slots.size ≤ ((0 : Int32)).toNatClampNeg) := inb_of S_a_2 ⟨by decide, by decide⟩
  obtain ⟨T3, h3, X3, e3, W3, st3⟩ := stB X1 hx hZ e1 Ar_a_2 (j := (0 : Int32)) hin_a_2 (g := (mkF m 8 #[.val (.int x0), .val (.int x1), .val (.int x2), .val (.ref a), .unset, .unset, .unset, .unset, .unset] [(.int x0.toInt8.toInt32), (.int (0 : Int32)), (.ref a)])) rfl rfl (hb hby at_8)
  have N3 := Fr.snoc X3 N0 g_a
  have Z3 : n0 ≤ h3.size := Nat.le_trans Z1 (Nat.le_of_eq W3.size.symm)
  have V_a : Arf Z h3 a .byte (4 : Int32) (fun jj => if jj = ((0 : Int32)).toNatClampNeg then (Value.int (nar .byte x0.toInt8.toInt32)) else (fun _ => (Value.int (0 : Int32))) jj) := Arf.set Ar_a_2 S_a_2 M_a_2 H_a_2 W3
  have E_a := E_a.wr W3
  refine RunsTo.of (T' := T3) (g' := (mkF m 9 #[.val (.int x0), .val (.int x1), .val (.int x2), .val (.ref a), .unset, .unset, .unset, .unset, .unset] [])) st3 ?_
  refine RunsTo.of (T' := T3) (g' := (mkF m 16 #[.val (.int x0), .val (.int x1), .val (.int x2), .val (.ref a), .unset, .unset, .unset, .unset, .unset] [(.int ((x0.toUInt32 >>> ((8 : Int32) &&& 31).toUInt32).toInt32).toInt8.toInt32), (.int (1 : Int32)), (.ref a)])) (fun tgt_ kt => ?_) ?_
  · refine XS.aloadN X3.here hx rfl (hb hby at_9) rfl rfl ?_
    show Steps p.tables e below (T3.setTop (mkF m 10 #[.val (.int x0), .val (.int x1), .val (.int x2), .val (.ref a), .unset, .unset, .unset, .unset, .unset] [(.ref a)])) _
    refine XS.iconst X3.here hx rfl (hb hby at_10) ?_
    show Steps p.tables e below (T3.setTop (mkF m 11 #[.val (.int x0), .val (.int x1), .val (.int x2), .val (.ref a), .unset, .unset, .unset, .unset, .unset] [(.int (1 : Int32)), (.ref a)])) _
    refine XS.iloadN X3.here hx rfl (hb hby at_11) rfl ?_
    show Steps p.tables e below (T3.setTop (mkF m 12 #[.val (.int x0), .val (.int x1), .val (.int x2), .val (.ref a), .unset, .unset, .unset, .unset, .unset] [(.int x0), (.int (1 : Int32)), (.ref a)])) _
    refine XS.bipush X3.here hx rfl (hb hby at_12) ?_
    show Steps p.tables e below (T3.setTop (mkF m 14 #[.val (.int x0), .val (.int x1), .val (.int x2), .val (.ref a), .unset, .unset, .unset, .unset, .unset] [(.int (8 : Int32)), (.int x0), (.int (1 : Int32)), (.ref a)])) _
    refine XS.iushr X3.here hx rfl (hb hby at_14) rfl ?_
    show Steps p.tables e below (T3.setTop (mkF m 15 #[.val (.int x0), .val (.int x1), .val (.int x2), .val (.ref a), .unset, .unset, .unset, .unset, .unset] [(.int ((x0.toUInt32 >>> ((8 : Int32) &&& 31).toUInt32).toInt32)), (.int (1 : Int32)), (.ref a)])) _
    refine XS.i2b X3.here hx rfl (hb hby at_15) rfl ?_
    show Steps p.tables e below (T3.setTop (mkF m 16 #[.val (.int x0), .val (.int x1), .val (.int x2), .val (.ref a), .unset, .unset, .unset, .unset, .unset] [(.int ((x0.toUInt32 >>> ((8 : Int32) &&& 31).toUInt32).toInt32).toInt8.toInt32), (.int (1 : Int32)), (.ref a)])) _
    exact kt
  obtain ⟨cl_a_4, Ar_a_4, S_a_4, M_a_4, H_a_4⟩ := id V_a
  have hin_a_4 : ¬ ((1 : Int32) < 0 ∨ cl_a_4.slots.size ≤ ((1 : Int32)).toNatClampNeg) := inb_of S_a_4 ⟨by decide, by decide⟩
  obtain ⟨T5, h5, X5, e5, W5, st5⟩ := stB X3 hx hZ e3 Ar_a_4 (j := (1 : Int32)) hin_a_4 (g := (mkF m 16 #[.val (.int x0), .val (.int x1), .val (.int x2), .val (.ref a), .unset, .unset, .unset, .unset, .unset] [(.int ((x0.toUInt32 >>> ((8 : Int32) &&& 31).toUInt32).toInt32).toInt8.toInt32), (.int (1 : Int32)), (.ref a)])) rfl rfl (hb hby at_16)
  have N5 := Fr.snoc X5 N3 g_a
  have Z5 : n0 ≤ h5.size := Nat.le_trans Z3 (Nat.le_of_eq W5.size.symm)
  have V_a : Arf Z h5 a .byte (4 : Int32) (fun jj => if jj = ((1 : Int32)).toNatClampNeg then (Value.int (nar .byte ((x0.toUInt32 >>> ((8 : Int32) &&& 31).toUInt32).toInt32).toInt8.toInt32)) else (fun jj => if jj = ((0 : Int32)).toNatClampNeg then (Value.int (nar .byte x0.toInt8.toInt32)) else (fun _ => (Value.int (0 : Int32))) jj) jj) := Arf.set Ar_a_4 S_a_4 M_a_4 H_a_4 W5
  have E_a := E_a.wr W5
  refine RunsTo.of (T' := T5) (g' := (mkF m 17 #[.val (.int x0), .val (.int x1), .val (.int x2), .val (.ref a), .unset, .unset, .unset, .unset, .unset] [])) st5 ?_
  refine RunsTo.of (T' := T5) (g' := (mkF m 24 #[.val (.int x0), .val (.int x1), .val (.int x2), .val (.ref a), .unset, .unset, .unset, .unset, .unset] [(.int ((x0.toUInt32 >>> ((16 : Int32) &&& 31).toUInt32).toInt32).toInt8.toInt32), (.int (2 : Int32)), (.ref a)])) (fun tgt_ kt => ?_) ?_
  · refine XS.aloadN X5.here hx rfl (hb hby at_17) rfl rfl ?_
    show Steps p.tables e below (T5.setTop (mkF m 18 #[.val (.int x0), .val (.int x1), .val (.int x2), .val (.ref a), .unset, .unset, .unset, .unset, .unset] [(.ref a)])) _
    refine XS.iconst X5.here hx rfl (hb hby at_18) ?_
    show Steps p.tables e below (T5.setTop (mkF m 19 #[.val (.int x0), .val (.int x1), .val (.int x2), .val (.ref a), .unset, .unset, .unset, .unset, .unset] [(.int (2 : Int32)), (.ref a)])) _
    refine XS.iloadN X5.here hx rfl (hb hby at_19) rfl ?_
    show Steps p.tables e below (T5.setTop (mkF m 20 #[.val (.int x0), .val (.int x1), .val (.int x2), .val (.ref a), .unset, .unset, .unset, .unset, .unset] [(.int x0), (.int (2 : Int32)), (.ref a)])) _
    refine XS.bipush X5.here hx rfl (hb hby at_20) ?_
    show Steps p.tables e below (T5.setTop (mkF m 22 #[.val (.int x0), .val (.int x1), .val (.int x2), .val (.ref a), .unset, .unset, .unset, .unset, .unset] [(.int (16 : Int32)), (.int x0), (.int (2 : Int32)), (.ref a)])) _
    refine XS.iushr X5.here hx rfl (hb hby at_22) rfl ?_
    show Steps p.tables e below (T5.setTop (mkF m 23 #[.val (.int x0), .val (.int x1), .val (.int x2), .val (.ref a), .unset, .unset, .unset, .unset, .unset] [(.int ((x0.toUInt32 >>> ((16 : Int32) &&& 31).toUInt32).toInt32)), (.int (2 : Int32)), (.ref a)])) _
    refine XS.i2b X5.here hx rfl (hb hby at_23) rfl ?_
    show Steps p.tables e below (T5.setTop (mkF m 24 #[.val (.int x0), .val (.int x1), .val (.int x2), .val (.ref a), .unset, .unset, .unset, .unset, .unset] [(.int ((x0.toUInt32 >>> ((16 : Int32) &&& 31).toUInt32).toInt32).toInt8.toInt32), (.int (2 : Int32)), (.ref a)])) _
    exact kt
  obtain ⟨cl_a_6, Ar_a_6, S_a_6, M_a_6, H_a_6⟩ := id V_a
  have hin_a_6 : ¬ ((2 : Int32) < 0 ∨ cl_a_6.slots.size ≤ ((2 : Int32)).toNatClampNeg) := inb_of S_a_6 ⟨by decide, by decide⟩
  obtain ⟨T7, h7, X7, e7, W7, st7⟩ := stB X5 hx hZ e5 Ar_a_6 (j := (2 : Int32)) hin_a_6 (g := (mkF m 24 #[.val (.int x0), .val (.int x1), .val (.int x2), .val (.ref a), .unset, .unset, .unset, .unset, .unset] [(.int ((x0.toUInt32 >>> ((16 : Int32) &&& 31).toUInt32).toInt32).toInt8.toInt32), (.int (2 : Int32)), (.ref a)])) rfl rfl (hb hby at_24)
  have N7 := Fr.snoc X7 N5 g_a
  have Z7 : n0 ≤ h7.size := Nat.le_trans Z5 (Nat.le_of_eq W7.size.symm)
  have V_a : Arf Z h7 a .byte (4 : Int32) (fun jj => if jj = ((2 : Int32)).toNatClampNeg then (Value.int (nar .byte ((x0.toUInt32 >>> ((16 : Int32) &&& 31).toUInt32).toInt32).toInt8.toInt32)) else (fun jj => if jj = ((1 : Int32)).toNatClampNeg then (Value.int (nar .byte ((x0.toUInt32 >>> ((8 : Int32) &&& 31).toUInt32).toInt32).toInt8.toInt32)) else (fun jj => if jj = ((0 : Int32)).toNatClampNeg then (Value.int (nar .byte x0.toInt8.toInt32)) else (fun _ => (Value.int (0 : Int32))) jj) jj) jj) := Arf.set Ar_a_6 S_a_6 M_a_6 H_a_6 W7
  have E_a := E_a.wr W7
  refine RunsTo.of (T' := T7) (g' := (mkF m 25 #[.val (.int x0), .val (.int x1), .val (.int x2), .val (.ref a), .unset, .unset, .unset, .unset, .unset] [])) st7 ?_
  refine RunsTo.of (T' := T7) (g' := (mkF m 32 #[.val (.int x0), .val (.int x1), .val (.int x2), .val (.ref a), .unset, .unset, .unset, .unset, .unset] [(.int ((x0.toUInt32 >>> ((24 : Int32) &&& 31).toUInt32).toInt32).toInt8.toInt32), (.int (3 : Int32)), (.ref a)])) (fun tgt_ kt => ?_) ?_
  · refine XS.aloadN X7.here hx rfl (hb hby at_25) rfl rfl ?_
    show Steps p.tables e below (T7.setTop (mkF m 26 #[.val (.int x0), .val (.int x1), .val (.int x2), .val (.ref a), .unset, .unset, .unset, .unset, .unset] [(.ref a)])) _
    refine XS.iconst X7.here hx rfl (hb hby at_26) ?_
    show Steps p.tables e below (T7.setTop (mkF m 27 #[.val (.int x0), .val (.int x1), .val (.int x2), .val (.ref a), .unset, .unset, .unset, .unset, .unset] [(.int (3 : Int32)), (.ref a)])) _
    refine XS.iloadN X7.here hx rfl (hb hby at_27) rfl ?_
    show Steps p.tables e below (T7.setTop (mkF m 28 #[.val (.int x0), .val (.int x1), .val (.int x2), .val (.ref a), .unset, .unset, .unset, .unset, .unset] [(.int x0), (.int (3 : Int32)), (.ref a)])) _
    refine XS.bipush X7.here hx rfl (hb hby at_28) ?_
    show Steps p.tables e below (T7.setTop (mkF m 30 #[.val (.int x0), .val (.int x1), .val (.int x2), .val (.ref a), .unset, .unset, .unset, .unset, .unset] [(.int (24 : Int32)), (.int x0), (.int (3 : Int32)), (.ref a)])) _
    refine XS.iushr X7.here hx rfl (hb hby at_30) rfl ?_
    show Steps p.tables e below (T7.setTop (mkF m 31 #[.val (.int x0), .val (.int x1), .val (.int x2), .val (.ref a), .unset, .unset, .unset, .unset, .unset] [(.int ((x0.toUInt32 >>> ((24 : Int32) &&& 31).toUInt32).toInt32)), (.int (3 : Int32)), (.ref a)])) _
    refine XS.i2b X7.here hx rfl (hb hby at_31) rfl ?_
    show Steps p.tables e below (T7.setTop (mkF m 32 #[.val (.int x0), .val (.int x1), .val (.int x2), .val (.ref a), .unset, .unset, .unset, .unset, .unset] [(.int ((x0.toUInt32 >>> ((24 : Int32) &&& 31).toUInt32).toInt32).toInt8.toInt32), (.int (3 : Int32)), (.ref a)])) _
    exact kt
  obtain ⟨cl_a_8, Ar_a_8, S_a_8, M_a_8, H_a_8⟩ := id V_a
  have hin_a_8 : ¬ ((3 : Int32) < 0 ∨ cl_a_8.slots.size ≤ ((3 : Int32)).toNatClampNeg) := inb_of S_a_8 ⟨by decide, by decide⟩
  obtain ⟨T9, h9, X9, e9, W9, st9⟩ := stB X7 hx hZ e7 Ar_a_8 (j := (3 : Int32)) hin_a_8 (g := (mkF m 32 #[.val (.int x0), .val (.int x1), .val (.int x2), .val (.ref a), .unset, .unset, .unset, .unset, .unset] [(.int ((x0.toUInt32 >>> ((24 : Int32) &&& 31).toUInt32).toInt32).toInt8.toInt32), (.int (3 : Int32)), (.ref a)])) rfl rfl (hb hby at_32)
  have N9 := Fr.snoc X9 N7 g_a
  have Z9 : n0 ≤ h9.size := Nat.le_trans Z7 (Nat.le_of_eq W9.size.symm)
  have V_a : Arf Z h9 a .byte (4 : Int32) (fun jj => if jj = ((3 : Int32)).toNatClampNeg then (Value.int (nar .byte ((x0.toUInt32 >>> ((24 : Int32) &&& 31).toUInt32).toInt32).toInt8.toInt32)) else (fun jj => if jj = ((2 : Int32)).toNatClampNeg then (Value.int (nar .byte ((x0.toUInt32 >>> ((16 : Int32) &&& 31).toUInt32).toInt32).toInt8.toInt32)) else (fun jj => if jj = ((1 : Int32)).toNatClampNeg then (Value.int (nar .byte ((x0.toUInt32 >>> ((8 : Int32) &&& 31).toUInt32).toInt32).toInt8.toInt32)) else (fun jj => if jj = ((0 : Int32)).toNatClampNeg then (Value.int (nar .byte x0.toInt8.toInt32)) else (fun _ => (Value.int (0 : Int32))) jj) jj) jj) jj) := Arf.set Ar_a_8 S_a_8 M_a_8 H_a_8 W9
  have V_a : Arf Z h9 a .byte (4 : Int32) (fun i => .int (own_sb x0 i)) := V_a.congr (fun i hi => by
    have h4 : i < 4 := hi
    have : i = 0 ∨ i = 1 ∨ i = 2 ∨ i = 3 := by omega
    rcases this with rfl | rfl | rfl | rfl <;> rfl)
  have E_a := E_a.wr W9
  refine RunsTo.of (T' := T9) (g' := (mkF m 33 #[.val (.int x0), .val (.int x1), .val (.int x2), .val (.ref a), .unset, .unset, .unset, .unset, .unset] [])) st9 ?_
  refine RunsTo.of (T' := T9) (g' := (mkF m 41 #[.val (.int x0), .val (.int x1), .val (.int x2), .val (.ref a), .val (.int ((x1 &&& (2147483647 : Int32)) % (5 : Int32))), .unset, .unset, .unset, .unset] [])) (fun tgt_ kt => ?_) ?_
  · refine XS.iloadN X9.here hx rfl (hb hby at_33) rfl ?_
    show Steps p.tables e below (T9.setTop (mkF m 34 #[.val (.int x0), .val (.int x1), .val (.int x2), .val (.ref a), .unset, .unset, .unset, .unset, .unset] [(.int x1)])) _
    refine X9.ldcInt hx hown (mvT hZ (hw _ (List.mem_of_getElem? (i := 1) rfl))) (g := (mkF m 34 #[.val (.int x0), .val (.int x1), .val (.int x2), .val (.ref a), .unset, .unset, .unset, .unset, .unset] [(.int x1)])) rfl (hb hby at_34) _ ?_
    show Steps p.tables e below (T9.setTop (mkF m 36 #[.val (.int x0), .val (.int x1), .val (.int x2), .val (.ref a), .unset, .unset, .unset, .unset, .unset] [(.int (2147483647 : Int32)), (.int x1)])) _
    refine XS.iand X9.here hx rfl (hb hby at_36) rfl ?_
    show Steps p.tables e below (T9.setTop (mkF m 37 #[.val (.int x0), .val (.int x1), .val (.int x2), .val (.ref a), .unset, .unset, .unset, .unset, .unset] [(.int (x1 &&& (2147483647 : Int32)))])) _
    refine XS.iconst X9.here hx rfl (hb hby at_37) ?_
    show Steps p.tables e below (T9.setTop (mkF m 38 #[.val (.int x0), .val (.int x1), .val (.int x2), .val (.ref a), .unset, .unset, .unset, .unset, .unset] [(.int (5 : Int32)), (.int (x1 &&& (2147483647 : Int32)))])) _
    refine XS.irem X9.here hx rfl (hb hby at_38) rfl (by decide) ?_
    rw [irem_eq_mod]
    show Steps p.tables e below (T9.setTop (mkF m 39 #[.val (.int x0), .val (.int x1), .val (.int x2), .val (.ref a), .unset, .unset, .unset, .unset, .unset] [(.int ((x1 &&& (2147483647 : Int32)) % (5 : Int32)))])) _
    refine XS.istore X9.here hx rfl (hb hby at_39) rfl (l' := #[.val (.int x0), .val (.int x1), .val (.int x2), .val (.ref a), .val (.int ((x1 &&& (2147483647 : Int32)) % (5 : Int32))), .unset, .unset, .unset, .unset]) rfl ?_
    show Steps p.tables e below (T9.setTop (mkF m 41 #[.val (.int x0), .val (.int x1), .val (.int x2), .val (.ref a), .val (.int ((x1 &&& (2147483647 : Int32)) % (5 : Int32))), .unset, .unset, .unset, .unset] [])) _
    exact kt
  obtain ⟨kk, hkk⟩ : ∃ z : Int32, z = ((x1 &&& (2147483647 : Int32)) % (5 : Int32)) := ⟨_, rfl⟩
  rw [← hkk]
  have hk : 0 ≤ kk.toInt ∧ kk.toInt ≤ 4 := by rw [hkk]; exact own_five x1
  clear hkk
  have hk1 := c_iadd kk 1
  have hk1r := rng32 (kk + 1)
  rw [show (1 : Int32).toInt = 1 from rfl] at hk1
  have hk1' : (kk + 1).toInt = kk.toInt + 1 := by omega
  have hms := c_mask x2 2147483647 31 (by decide) (by decide)
  have hfr := (c_iremV (x2 &&& 2147483647) (kk + 1)).1 (by omega) (by omega)
  refine RunsTo.of (T' := T9) (g' := (mkF m 52 #[.val (.int x0), .val (.int x1), .val (.int x2), .val (.ref a), .val (.int kk), .val (.int ((x2 &&& (2147483647 : Int32)) % (kk + (1 : Int32)))), .unset, .unset, .unset] [])) (fun tgt_ kt => ?_) ?_
  · refine XS.iloadN X9.here hx rfl (hb hby at_41) rfl ?_
    show Steps p.tables e below (T9.setTop (mkF m 42 #[.val (.int x0), .val (.int x1), .val (.int x2), .val (.ref a), .val (.int kk), .unset, .unset, .unset, .unset] [(.int x2)])) _
    refine X9.ldcInt hx hown (mvT hZ (hw _ (List.mem_of_getElem? (i := 1) rfl))) (g := (mkF m 42 #[.val (.int x0), .val (.int x1), .val (.int x2), .val (.ref a), .val (.int kk), .unset, .unset, .unset, .unset] [(.int x2)])) rfl (hb hby at_42) _ ?_
    show Steps p.tables e below (T9.setTop (mkF m 44 #[.val (.int x0), .val (.int x1), .val (.int x2), .val (.ref a), .val (.int kk), .unset, .unset, .unset, .unset] [(.int (2147483647 : Int32)), (.int x2)])) _
    refine XS.iand X9.here hx rfl (hb hby at_44) rfl ?_
    show Steps p.tables e below (T9.setTop (mkF m 45 #[.val (.int x0), .val (.int x1), .val (.int x2), .val (.ref a), .val (.int kk), .unset, .unset, .unset, .unset] [(.int (x2 &&& (2147483647 : Int32)))])) _
    refine XS.iload X9.here hx rfl (hb hby at_45) rfl ?_
    show Steps p.tables e below (T9.setTop (mkF m 47 #[.val (.int x0), .val (.int x1), .val (.int x2), .val (.ref a), .val (.int kk), .unset, .unset, .unset, .unset] [(.int kk), (.int (x2 &&& (2147483647 : Int32)))])) _
    refine XS.iconst X9.here hx rfl (hb hby at_47) ?_
    show Steps p.tables e below (T9.setTop (mkF m 48 #[.val (.int x0), .val (.int x1), .val (.int x2), .val (.ref a), .val (.int kk), .unset, .unset, .unset, .unset] [(.int (1 : Int32)), (.int kk), (.int (x2 &&& (2147483647 : Int32)))])) _
    refine XS.iadd X9.here hx rfl (hb hby at_48) rfl ?_
    show Steps p.tables e below (T9.setTop (mkF m 49 #[.val (.int x0), .val (.int x1), .val (.int x2), .val (.ref a), .val (.int kk), .unset, .unset, .unset, .unset] [(.int (kk + (1 : Int32))), (.int (x2 &&& (2147483647 : Int32)))])) _
    refine XS.irem X9.here hx rfl (hb hby at_49) rfl (fun q => by rw [← Int32.toInt_inj] at q; have : (0 : Int32).toInt = 0 := rfl; omega) ?_
    rw [irem_eq_mod]
    show Steps p.tables e below (T9.setTop (mkF m 50 #[.val (.int x0), .val (.int x1), .val (.int x2), .val (.ref a), .val (.int kk), .unset, .unset, .unset, .unset] [(.int ((x2 &&& (2147483647 : Int32)) % (kk + (1 : Int32))))])) _
    refine XS.istore X9.here hx rfl (hb hby at_50) rfl (l' := #[.val (.int x0), .val (.int x1), .val (.int x2), .val (.ref a), .val (.int kk), .val (.int ((x2 &&& (2147483647 : Int32)) % (kk + (1 : Int32)))), .unset, .unset, .unset]) rfl ?_
    show Steps p.tables e below (T9.setTop (mkF m 52 #[.val (.int x0), .val (.int x1), .val (.int x2), .val (.ref a), .val (.int kk), .val (.int ((x2 &&& (2147483647 : Int32)) % (kk + (1 : Int32)))), .unset, .unset, .unset] [])) _
    exact kt
  obtain ⟨fr, hfr⟩ : ∃ z : Int32, z = ((x2 &&& (2147483647 : Int32)) % (kk + (1 : Int32))) := ⟨_, rfl⟩
  rw [← hfr]
  have hf : 0 ≤ fr.toInt ∧ fr.toInt ≤ kk.toInt := by rw [hfr]; have := (c_iremV (x2 &&& 2147483647) (kk + 1)).1 (by omega) (by omega); omega
  obtain ⟨T10, h10, X10, e10, E10, A10, D10, -, st10⟩ := newO X9 hx hZ hown (hw _ (List.mem_of_getElem? (i := 2) rfl)) (hw _ (List.mem_of_getElem? (i := 3) rfl)) (hw _ (List.mem_of_getElem? (i := 4) rfl)) e9 (g := (mkF m 52 #[.val (.int x0), .val (.int x1), .val (.int x2), .val (.ref a), .val (.int kk), .val (.int fr), .unset, .unset, .unset] [])) rfl (hb hby at_52) (by decide) (by decide)
  obtain ⟨u, g10⟩ : ∃ z, z = h9.size := ⟨_, rfl⟩
  rw [← g10] at A10 D10 st10
  have Z10 : n0 ≤ h10.size := Nat.le_trans Z9 E10.1
  have g_u : n0 ≤ u := Nat.le_trans Z9 (Nat.le_of_eq g10.symm)
  have ne_a_u : a ≠ u := Nat.ne_of_lt (Nat.lt_of_lt_of_le V_a.lt (Nat.le_of_eq g10.symm))
  have V_a := V_a.ext E10
  have E_a := E_a.ext E10
  have F_bytes_u : Fld Z h10 u "com/example/roleweave/roleweave/tpm/Unmarshaller" "bytes" "[B" .null := D10 (Or.inr (hw _ (List.mem_of_getElem? (i := 15) rfl))) (ty := (.array .byte)) (by decide)
  have F_at_u : Fld Z h10 u "com/example/roleweave/roleweave/tpm/Unmarshaller" "at" "I" (.int (0 : Int32)) := D10 (Or.inl (hw _ (List.mem_of_getElem? (i := 17) rfl))) (ty := .int) (by decide)
  have F_end_u : Fld Z h10 u "com/example/roleweave/roleweave/tpm/Unmarshaller" "end" "I" (.int (0 : Int32)) := D10 (Or.inr (hw _ (List.mem_of_getElem? (i := 19) rfl))) (ty := .int) (by decide)
  have E_u : Exa Z h10 u "com/example/roleweave/roleweave/tpm/Unmarshaller" := A10
  refine RunsTo.of (T' := T10) (g' := (mkF m 55 #[.val (.int x0), .val (.int x1), .val (.int x2), .val (.ref a), .val (.int kk), .val (.int fr), .unset, .unset, .unset] [(.ref u)])) st10 ?_
  refine RunsTo.of (T' := T10) (g' := (mkF m 57 #[.val (.int x0), .val (.int x1), .val (.int x2), .val (.ref a), .val (.int kk), .val (.int fr), .unset, .unset, .unset] [(.ref a), (.ref u), (.ref u)])) (fun tgt_ kt => ?_) ?_
  · refine XS.dup X10.here hx rfl (hb hby at_55) rfl rfl ?_
    show Steps p.tables e below (T10.setTop (mkF m 56 #[.val (.int x0), .val (.int x1), .val (.int x2), .val (.ref a), .val (.int kk), .val (.int fr), .unset, .unset, .unset] [(.ref u), (.ref u)])) _
    refine XS.aloadN X10.here hx rfl (hb hby at_56) rfl rfl ?_
    show Steps p.tables e below (T10.setTop (mkF m 57 #[.val (.int x0), .val (.int x1), .val (.int x2), .val (.ref a), .val (.int kk), .val (.int fr), .unset, .unset, .unset] [(.ref a), (.ref u), (.ref u)])) _
    exact kt
  obtain ⟨_, _, ⟨T11, L11, k11, n11⟩, -, X11, ⟨Lc11, hQ11, l11, y11, z11⟩, st11⟩ := X10.specialBack hx (y := (⟨"com/example/roleweave/roleweave/tpm/Unmarshaller", "<init>", "([B)V"⟩ : MethodName)) rfl hown (mvT hZ (hw _ (List.mem_of_getElem? (i := 5) rfl))) (mvT hZ (hw _ (List.mem_of_getElem? (i := 6) rfl))) (mvT hZ (hw _ (List.mem_of_getElem? (i := 7) rfl))) (by decide) (backOf (W := 1) (rm_init1 l Z a0 hw [] u a (fun i => Value.int (own_sb x0 i)) h10 n0 Z10 E_u g_u F_bytes_u F_at_u F_end_u V_a) hZ (hw _ (List.mem_of_getElem? (i := 7) rfl)) (hw _ (List.mem_of_getElem? (i := 4) rfl)) (by decide) (by decide)) (g := (mkF m 57 #[.val (.int x0), .val (.int x1), .val (.int x2), .val (.ref a), .val (.int kk), .val (.int fr), .unset, .unset, .unset] [(.ref a), (.ref u), (.ref u)])) rfl (by rw [hml]; rfl) (Steps.refl _) (a := u) (argsL := [(.ref a)]) (rest := [(.ref u)]) (lenOf pd_5 rfl) rfl (by show 2 * 0 + _ ≤ _; exact Nat.le_of_eq rfl) (hb hby at_57) (fun _ _ => ⟨rfl, e10, (by decide : 2 + 0 ≤ _), (by decide : 7 + 0 ≤ _)⟩)
  dsimp only [Pt.U, Pt.locs, Pt.cells, Pt.slots] at X11 l11 y11 z11 st11 hQ11
  subst l11 y11 z11
  obtain ⟨rfl, N11q, K11, F_bytes_u, F_at_u, F_end_u⟩ := hQ11
  have N11 := Fr.app N9 N11q
  have Z11 : n0 ≤ T11.heap.size := Nat.le_trans Z10 K11.1
  have V_a := V_a.keep K11 (ninS ne_a_u nin0)
  have E_a := E_a.keep K11
  have E_u := E_u.keep K11
  refine RunsTo.of (T' := T11) (g' := (mkF m 60 #[.val (.int x0), .val (.int x1), .val (.int x2), .val (.ref a), .val (.int kk), .val (.int fr), .unset, .unset, .unset] [(.ref u)])) (fun _ kt => st11.trans kt) ?_
  refine RunsTo.of (T' := T11) (g' := (mkF m 66 #[.val (.int x0), .val (.int x1), .val (.int x2), .val (.ref a), .val (.int kk), .val (.int fr), .val (.ref u), .unset, .unset] [(.int kk), (.ref u)])) (fun tgt_ kt => ?_) ?_
  · refine XS.astore X11.here hx rfl (hb hby at_60) rfl rfl (l' := #[.val (.int x0), .val (.int x1), .val (.int x2), .val (.ref a), .val (.int kk), .val (.int fr), .val (.ref u), .unset, .unset]) rfl ?_
    show Steps p.tables e below (T11.setTop (mkF m 62 #[.val (.int x0), .val (.int x1), .val (.int x2), .val (.ref a), .val (.int kk), .val (.int fr), .val (.ref u), .unset, .unset] [])) _
    refine XS.aload X11.here hx rfl (hb hby at_62) rfl rfl ?_
    show Steps p.tables e below (T11.setTop (mkF m 64 #[.val (.int x0), .val (.int x1), .val (.int x2), .val (.ref a), .val (.int kk), .val (.int fr), .val (.ref u), .unset, .unset] [(.ref u)])) _
    refine XS.iload X11.here hx rfl (hb hby at_64) rfl ?_
    show Steps p.tables e below (T11.setTop (mkF m 66 #[.val (.int x0), .val (.int x1), .val (.int x2), .val (.ref a), .val (.int kk), .val (.int fr), .val (.ref u), .unset, .unset] [(.int kk), (.ref u)])) _
    exact kt
  obtain ⟨cq12, kq12, q12a, q12b, q12c⟩ := isOf hZ rfl E_u
  obtain ⟨_, _, ⟨T12, L12, k12, n12⟩, -, X12, ⟨Lc12, hQ12, l12, y12, z12⟩, st12⟩ := X11.virtualBack hx (y := (⟨"com/example/roleweave/roleweave/tpm/Unmarshaller", "raw", "(I)[B"⟩ : MethodName)) (z := (⟨"com/example/roleweave/roleweave/tpm/Unmarshaller", "raw", "(I)[B"⟩ : MethodName)) hown (mvT hZ (hw _ (List.mem_of_getElem? (i := 20) rfl))) (mvT hZ (hw _ (List.mem_of_getElem? (i := 21) rfl))) (notFace_of_selects (args := #[]) (mvT hZ (hw _ (List.mem_of_getElem? (i := 23) rfl)))) (mvT hZ (hw _ (List.mem_of_getElem? (i := 23) rfl))) (mvT hZ (hw _ (List.mem_of_getElem? (i := 22) rfl))) (by decide) (backOf (W := 0) (rm_raw l Z a0 hw [] u kk a (fun i => Value.int (own_sb x0 i)) T11.heap n0 Z11 E_u g_u F_bytes_u F_at_u F_end_u V_a (fun i => own_fit x0 i) E_a (Ne.symm ne_a_u) hk) hZ (hw _ (List.mem_of_getElem? (i := 24) rfl)) (hw _ (List.mem_of_getElem? (i := 4) rfl)) (by decide) (by decide)) q12a q12c (g := (mkF m 66 #[.val (.int x0), .val (.int x1), .val (.int x2), .val (.ref a), .val (.int kk), .val (.int fr), .val (.ref u), .unset, .unset] [(.int kk), (.ref u)])) rfl (by rw [hml]; rfl) (Steps.refl _) (argsL := [(.int kk)]) (rest := []) (lenOf pd_6 rfl) rfl (by show 2 * 0 + _ ≤ _; exact Nat.le_of_eq rfl) (hb hby at_66) (fun _ _ => ⟨rfl, rfl, (by decide : 2 + 1 ≤ _), (by decide : 7 + 4 ≤ _)⟩)
  dsimp only [Pt.U, Pt.locs, Pt.cells, Pt.slots] at X12 l12 y12 z12 st12 hQ12
  subst l12 y12 z12
  obtain ⟨bz, rfl, N12q, K12, F_bytes_u, F_at_u, F_end_u⟩ := hQ12
  have N12 := Fr.app N11 N12q
  have Z12 : n0 ≤ T12.heap.size := Nat.le_trans Z11 K12.1
  have V_a := V_a.keep K12 (ninS ne_a_u nin0)
  have E_a := E_a.keep K12
  have E_u := E_u.keep K12
  refine RunsTo.of (T' := T12) (g' := (mkF m 69 #[.val (.int x0), .val (.int x1), .val (.int x2), .val (.ref a), .val (.int kk), .val (.int fr), .val (.ref u), .unset, .unset] [(.ref bz)])) (fun _ kt => st12.trans kt) ?_
  refine RunsTo.of (T' := T12) (g' := (mkF m 74 #[.val (.int x0), .val (.int x1), .val (.int x2), .val (.ref a), .val (.int kk), .val (.int fr), .val (.ref u), .unset, .unset] [(.int fr), (.ref u)])) (fun tgt_ kt => ?_) ?_
  · refine XS.pop X12.here hx rfl (hb hby at_69) rfl rfl ?_
    show Steps p.tables e below (T12.setTop (mkF m 70 #[.val (.int x0), .val (.int x1), .val (.int x2), .val (.ref a), .val (.int kk), .val (.int fr), .val (.ref u), .unset, .unset] [])) _
    refine XS.aload X12.here hx rfl (hb hby at_70) rfl rfl ?_
    show Steps p.tables e below (T12.setTop (mkF m 72 #[.val (.int x0), .val (.int x1), .val (.int x2), .val (.ref a), .val (.int kk), .val (.int fr), .val (.ref u), .unset, .unset] [(.ref u)])) _
    refine XS.iload X12.here hx rfl (hb hby at_72) rfl ?_
    show Steps p.tables e below (T12.setTop (mkF m 74 #[.val (.int x0), .val (.int x1), .val (.int x2), .val (.ref a), .val (.int kk), .val (.int fr), .val (.ref u), .unset, .unset] [(.int fr), (.ref u)])) _
    exact kt
  obtain ⟨cq13, kq13, q13a, q13b, q13c⟩ := isOf hZ rfl E_u
  obtain ⟨_, _, ⟨T13, L13, k13, n13⟩, -, X13, ⟨Lc13, hQ13, l13, y13, z13⟩, st13⟩ := X12.virtualBack hx (y := (⟨"com/example/roleweave/roleweave/tpm/Unmarshaller", "readSince", "(I)[B"⟩ : MethodName)) (z := (⟨"com/example/roleweave/roleweave/tpm/Unmarshaller", "readSince", "(I)[B"⟩ : MethodName)) hown (mvT hZ (hw _ (List.mem_of_getElem? (i := 47) rfl))) (mvT hZ (hw _ (List.mem_of_getElem? (i := 48) rfl))) (notFace_of_selects (args := #[]) (mvT hZ (hw _ (List.mem_of_getElem? (i := 50) rfl)))) (mvT hZ (hw _ (List.mem_of_getElem? (i := 50) rfl))) (mvT hZ (hw _ (List.mem_of_getElem? (i := 49) rfl))) (by decide) (backOf (W := 0) (rm_rs l Z a0 hw [] u fr a kk (fun i => Value.int (own_sb x0 i)) T12.heap n0 Z12 E_u g_u F_bytes_u F_at_u F_end_u V_a (fun i => own_fit x0 i) E_a (Ne.symm ne_a_u) ⟨hf.1, hf.2, hk.2⟩) hZ (hw _ (List.mem_of_getElem? (i := 51) rfl)) (hw _ (List.mem_of_getElem? (i := 4) rfl)) (by decide) (by decide)) q13a q13c (g := (mkF m 74 #[.val (.int x0), .val (.int x1), .val (.int x2), .val (.ref a), .val (.int kk), .val (.int fr), .val (.ref u), .unset, .unset] [(.int fr), (.ref u)])) rfl (by rw [hml]; rfl) (Steps.refl _) (argsL := [(.int fr)]) (rest := []) (lenOf pd_6 rfl) rfl (by show 2 * 0 + _ ≤ _; exact Nat.le_of_eq rfl) (hb hby at_74) (fun _ _ => ⟨rfl, rfl, (by decide : 3 + 1 ≤ _), (by decide : 11 + 4 ≤ _)⟩)
  dsimp only [Pt.U, Pt.locs, Pt.cells, Pt.slots] at X13 l13 y13 z13 st13 hQ13
  subst l13 y13 z13
  obtain ⟨b, rfl, N13q, g_b, sz_b, K13, V_b⟩ := hQ13
  have N13 := Fr.app N12 N13q
  have Z13 : n0 ≤ T13.heap.size := Nat.le_trans Z12 K13.1
  have V_a := V_a.keep K13 nin0
  have E_a := E_a.keep K13
  have E_u := E_u.keep K13
  have F_bytes_u := F_bytes_u.keep K13 nin0
  have F_at_u := F_at_u.keep K13 nin0
  have F_end_u := F_end_u.keep K13 nin0
  refine RunsTo.of (T' := T13) (g' := (mkF m 77 #[.val (.int x0), .val (.int x1), .val (.int x2), .val (.ref a), .val (.int kk), .val (.int fr), .val (.ref u), .unset, .unset] [(.ref b)])) (fun _ kt => st13.trans kt) ?_
  have hd := c_isub kk fr
  have hdr := rng32 (kk - fr)
  have hd' : (kk - fr).toInt = kk.toInt - fr.toInt := by omega
  refine RunsTo.of (T' := T13) (g' := (mkF m 88 #[.val (.int x0), .val (.int x1), .val (.int x2), .val (.ref a), .val (.int kk), .val (.int fr), .val (.ref u), .val (.ref b), .val (.int (kk - fr))] [(.ref b)])) (fun tgt_ kt => ?_) ?_
  · refine XS.astore X13.here hx rfl (hb hby at_77) rfl rfl (l' := #[.val (.int x0), .val (.int x1), .val (.int x2), .val (.ref a), .val (.int kk), .val (.int fr), .val (.ref u), .val (.ref b), .unset]) rfl ?_
    show Steps p.tables e below (T13.setTop (mkF m 79 #[.val (.int x0), .val (.int x1), .val (.int x2), .val (.ref a), .val (.int kk), .val (.int fr), .val (.ref u), .val (.ref b), .unset] [])) _
    refine XS.iload X13.here hx rfl (hb hby at_79) rfl ?_
    show Steps p.tables e below (T13.setTop (mkF m 81 #[.val (.int x0), .val (.int x1), .val (.int x2), .val (.ref a), .val (.int kk), .val (.int fr), .val (.ref u), .val (.ref b), .unset] [(.int kk)])) _
    refine XS.iload X13.here hx rfl (hb hby at_81) rfl ?_
    show Steps p.tables e below (T13.setTop (mkF m 83 #[.val (.int x0), .val (.int x1), .val (.int x2), .val (.ref a), .val (.int kk), .val (.int fr), .val (.ref u), .val (.ref b), .unset] [(.int fr), (.int kk)])) _
    refine XS.isub X13.here hx rfl (hb hby at_83) rfl ?_
    show Steps p.tables e below (T13.setTop (mkF m 84 #[.val (.int x0), .val (.int x1), .val (.int x2), .val (.ref a), .val (.int kk), .val (.int fr), .val (.ref u), .val (.ref b), .unset] [(.int (kk - fr))])) _
    refine XS.istore X13.here hx rfl (hb hby at_84) rfl (l' := #[.val (.int x0), .val (.int x1), .val (.int x2), .val (.ref a), .val (.int kk), .val (.int fr), .val (.ref u), .val (.ref b), .val (.int (kk - fr))]) rfl ?_
    show Steps p.tables e below (T13.setTop (mkF m 86 #[.val (.int x0), .val (.int x1), .val (.int x2), .val (.ref a), .val (.int kk), .val (.int fr), .val (.ref u), .val (.ref b), .val (.int (kk - fr))] [])) _
    refine XS.aload X13.here hx rfl (hb hby at_86) rfl rfl ?_
    show Steps p.tables e below (T13.setTop (mkF m 88 #[.val (.int x0), .val (.int x1), .val (.int x2), .val (.ref a), .val (.int kk), .val (.int fr), .val (.ref u), .val (.ref b), .val (.int (kk - fr))] [(.ref b)])) _
    exact kt
  obtain ⟨cl_b_14, Ar_b_14, S_b_14, M_b_14, H_b_14⟩ := id V_b
  refine RunsTo.of (T' := T13) (g' := (mkF m 89 #[.val (.int x0), .val (.int x1), .val (.int x2), .val (.ref a), .val (.int kk), .val (.int fr), .val (.ref u), .val (.ref b), .val (.int (kk - fr))] [(.int (kk - fr))])) (fun tgt_ kt => ?_) ?_
  · refine X13.arraylength hx Ar_b_14.1 (State.isArrayOf_alike hZ.alike Ar_b_14.2.1) (g := (mkF m 88 #[.val (.int x0), .val (.int x1), .val (.int x2), .val (.ref a), .val (.int kk), .val (.int fr), .val (.ref u), .val (.ref b), .val (.int (kk - fr))] [(.ref b)])) rfl rfl (hb hby at_88) _ ?_
    rw [len_of S_b_14 M_b_14]
    show Steps p.tables e below (T13.setTop (mkF m 89 #[.val (.int x0), .val (.int x1), .val (.int x2), .val (.ref a), .val (.int kk), .val (.int fr), .val (.ref u), .val (.ref b), .val (.int (kk - fr))] [(.int (kk - fr))])) _
    exact kt
  refine RunsTo.of (T' := T13) (g' := (mkF m 98 #[.val (.int x0), .val (.int x1), .val (.int x2), .val (.ref a), .val (.int kk), .val (.int fr), .val (.ref u), .val (.ref b), .val (.int (kk - fr))] [(.ref u)])) (fun tgt_ kt => ?_) ?_
  · refine XS.iload X13.here hx rfl (hb hby at_89) rfl ?_
    show Steps p.tables e below (T13.setTop (mkF m 91 #[.val (.int x0), .val (.int x1), .val (.int x2), .val (.ref a), .val (.int kk), .val (.int fr), .val (.ref u), .val (.ref b), .val (.int (kk - fr))] [(.int (kk - fr)), (.int (kk - fr))])) _
    refine XS.icmpYes X13.here hx rfl (pc0 := 91) (pc' := 96) rfl (hb hby at_91) rfl (teq rfl).1 (by decide) (by decide) ?_
    show Steps p.tables e below (T13.setTop (mkF m 96 #[.val (.int x0), .val (.int x1), .val (.int x2), .val (.ref a), .val (.int kk), .val (.int fr), .val (.ref u), .val (.ref b), .val (.int (kk - fr))] [])) _
    refine XS.aload X13.here hx rfl (hb hby at_96) rfl rfl ?_
    show Steps p.tables e below (T13.setTop (mkF m 98 #[.val (.int x0), .val (.int x1), .val (.int x2), .val (.ref a), .val (.int kk), .val (.int fr), .val (.ref u), .val (.ref b), .val (.int (kk - fr))] [(.ref u)])) _
    exact kt
  obtain ⟨cq15, kq15, q15a, q15b, q15c⟩ := isOf hZ rfl E_u
  obtain ⟨_, _, ⟨T15, L15, k15, n15⟩, -, X15, ⟨Lc15, hQ15, l15, y15, z15⟩, st15⟩ := X13.virtualBack hx (y := (⟨"com/example/roleweave/roleweave/tpm/Unmarshaller", "position", "()I"⟩ : MethodName)) (z := (⟨"com/example/roleweave/roleweave/tpm/Unmarshaller", "position", "()I"⟩ : MethodName)) hown (mvT hZ (hw _ (List.mem_of_getElem? (i := 52) rfl))) (mvT hZ (hw _ (List.mem_of_getElem? (i := 53) rfl))) (notFace_of_selects (args := #[]) (mvT hZ (hw _ (List.mem_of_getElem? (i := 55) rfl)))) (mvT hZ (hw _ (List.mem_of_getElem? (i := 55) rfl))) (mvT hZ (hw _ (List.mem_of_getElem? (i := 54) rfl))) (by decide) (backOf (W := 0) (rm_pos l Z a0 hw [] u kk T13.heap n0 Z13 F_at_u) hZ (hw _ (List.mem_of_getElem? (i := 56) rfl)) (hw _ (List.mem_of_getElem? (i := 4) rfl)) (by decide) (by decide)) q15a q15c (g := (mkF m 98 #[.val (.int x0), .val (.int x1), .val (.int x2), .val (.ref a), .val (.int kk), .val (.int fr), .val (.ref u), .val (.ref b), .val (.int (kk - fr))] [(.ref u)])) rfl (by rw [hml]; rfl) (Steps.refl _) (argsL := []) (rest := []) (lenOf pd_7 rfl) rfl (by show 2 * 0 + _ ≤ _; exact Nat.le_of_eq rfl) (hb hby at_98) (fun _ _ => ⟨rfl, rfl, (by decide : 4 + 0 ≤ _), (by decide : 15 + 0 ≤ _)⟩)
  dsimp only [Pt.U, Pt.locs, Pt.cells, Pt.slots] at X15 l15 y15 z15 st15 hQ15
  subst l15 y15 z15
  obtain ⟨rfl, N15q, e15⟩ := hQ15
  have N15 := Fr.app N13 N15q
  refine RunsTo.of (T' := T15) (g' := (mkF m 101 #[.val (.int x0), .val (.int x1), .val (.int x2), .val (.ref a), .val (.int kk), .val (.int fr), .val (.ref u), .val (.ref b), .val (.int (kk - fr))] [(.int kk)])) (fun _ kt => st15.trans kt) ?_
  refine RunsTo.of (T' := T15) (g' := (mkF m 116 #[.val (.int x0), .val (.int x1), .val (.int x2), .val (.ref a), .val (.int kk), .val (.int fr), .val (.ref u), .val (.ref b), .val (.int (kk - fr))] [(.int (0 : Int32)), (.int (kk - fr)), (.int fr), (.ref a), (.ref b)])) (fun tgt_ kt => ?_) ?_
  · refine XS.iload X15.here hx rfl (hb hby at_101) rfl ?_
    show Steps p.tables e below (T15.setTop (mkF m 103 #[.val (.int x0), .val (.int x1), .val (.int x2), .val (.ref a), .val (.int kk), .val (.int fr), .val (.ref u), .val (.ref b), .val (.int (kk - fr))] [(.int kk), (.int kk)])) _
    refine XS.icmpYes X15.here hx rfl (pc0 := 103) (pc' := 108) rfl (hb hby at_103) rfl (teq rfl).1 (by decide) (by decide) ?_
    show Steps p.tables e below (T15.setTop (mkF m 108 #[.val (.int x0), .val (.int x1), .val (.int x2), .val (.ref a), .val (.int kk), .val (.int fr), .val (.ref u), .val (.ref b), .val (.int (kk - fr))] [])) _
    refine XS.aload X15.here hx rfl (hb hby at_108) rfl rfl ?_
    show Steps p.tables e below (T15.setTop (mkF m 110 #[.val (.int x0), .val (.int x1), .val (.int x2), .val (.ref a), .val (.int kk), .val (.int fr), .val (.ref u), .val (.ref b), .val (.int (kk - fr))] [(.ref b)])) _
    refine XS.aloadN X15.here hx rfl (hb hby at_110) rfl rfl ?_
    show Steps p.tables e below (T15.setTop (mkF m 111 #[.val (.int x0), .val (.int x1), .val (.int x2), .val (.ref a), .val (.int kk), .val (.int fr), .val (.ref u), .val (.ref b), .val (.int (kk - fr))] [(.ref a), (.ref b)])) _
    refine XS.iload X15.here hx rfl (hb hby at_111) rfl ?_
    show Steps p.tables e below (T15.setTop (mkF m 113 #[.val (.int x0), .val (.int x1), .val (.int x2), .val (.ref a), .val (.int kk), .val (.int fr), .val (.ref u), .val (.ref b), .val (.int (kk - fr))] [(.int fr), (.ref a), (.ref b)])) _
    refine XS.iload X15.here hx rfl (hb hby at_113) rfl ?_
    show Steps p.tables e below (T15.setTop (mkF m 115 #[.val (.int x0), .val (.int x1), .val (.int x2), .val (.ref a), .val (.int kk), .val (.int fr), .val (.ref u), .val (.ref b), .val (.int (kk - fr))] [(.int (kk - fr)), (.int fr), (.ref a), (.ref b)])) _
    refine XS.iconst X15.here hx rfl (hb hby at_115) ?_
    show Steps p.tables e below (T15.setTop (mkF m 116 #[.val (.int x0), .val (.int x1), .val (.int x2), .val (.ref a), .val (.int kk), .val (.int fr), .val (.ref u), .val (.ref b), .val (.int (kk - fr))] [(.int (0 : Int32)), (.int (kk - fr)), (.int fr), (.ref a), (.ref b)])) _
    exact kt
  obtain ⟨_, _, ⟨T16, L16, k16, n16⟩, -, X16, ⟨Lc16, hQ16, l16, y16, z16⟩, st16⟩ := Jvm.LawKit.callS X15 hx (y := (⟨"com/example/roleweave/roleweave/tpm/UnmarshallerReadSincePinLaw", "same", "([B[BIII)Z"⟩ : MethodName)) hown (mvT hZ (hw _ (List.mem_of_getElem? (i := 57) rfl))) (mvT hZ (hw _ (List.mem_of_getElem? (i := 58) rfl))) (mvT hZ (hw _ (List.mem_of_getElem? (i := 59) rfl))) (mvT hZ (hw _ (List.mem_of_getElem? (i := 60) rfl))) (by decide) (backOf (W := 0) (rm_same l Z a0 hw [] b a fr (kk - fr) (0 : Int32) (own_sb x0) T13.heap n0 Z13 V_b V_a hf.1 (by decide) (by omega)) hZ (hw _ (List.mem_of_getElem? (i := 60) rfl)) (hw _ (List.mem_of_getElem? (i := 59) rfl)) (by decide) (by decide)) (g := (mkF m 116 #[.val (.int x0), .val (.int x1), .val (.int x2), .val (.ref a), .val (.int kk), .val (.int fr), .val (.ref u), .val (.ref b), .val (.int (kk - fr))] [(.int (0 : Int32)), (.int (kk - fr)), (.int fr), (.ref a), (.ref b)])) rfl (by rw [hml]; rfl) (argsL := [(.ref b), (.ref a), (.int fr), (.int (kk - fr)), (.int (0 : Int32))]) (rest := []) (lenOf pd_8 rfl) rfl (by show 2 * 0 + _ ≤ _; exact Nat.le_of_eq rfl) (hb hby at_116) (fun _ _ => ⟨rfl, e15, (by decide : 4 + 0 ≤ _), (by decide : 15 + 0 ≤ _)⟩)
  dsimp only [Pt.U, Pt.locs, Pt.cells, Pt.slots] at X16 l16 y16 z16 st16 hQ16
  subst l16 y16 z16
  obtain ⟨rfl, N16q, e16⟩ := hQ16
  have N16 := Fr.app N15 N16q
  refine RunsTo.of (T' := T16) (g' := (mkF m 119 #[.val (.int x0), .val (.int x1), .val (.int x2), .val (.ref a), .val (.int kk), .val (.int fr), .val (.ref u), .val (.ref b), .val (.int (kk - fr))] [(.int (1 : Int32))])) st16 ?_
  refine RunsTo.of (T' := T16) (g' := (mkF m 130 #[.val (.int x0), .val (.int x1), .val (.int x2), .val (.ref a), .val (.int kk), .val (.int fr), .val (.ref u), .val (.ref b), .val (.int (kk - fr))] [(.int (1 : Int32)), (.int (kk - fr)), (.int fr), (.ref a), (.ref b)])) (fun tgt_ kt => ?_) ?_
  · refine XS.ifNo X16.here hx rfl (hb hby at_119) rfl ((if0 _ _).trans (feq (by decide)).1) ?_
    show Steps p.tables e below (T16.setTop (mkF m 122 #[.val (.int x0), .val (.int x1), .val (.int x2), .val (.ref a), .val (.int kk), .val (.int fr), .val (.ref u), .val (.ref b), .val (.int (kk - fr))] [])) _
    refine XS.aload X16.here hx rfl (hb hby at_122) rfl rfl ?_
    show Steps p.tables e below (T16.setTop (mkF m 124 #[.val (.int x0), .val (.int x1), .val (.int x2), .val (.ref a), .val (.int kk), .val (.int fr), .val (.ref u), .val (.ref b), .val (.int (kk - fr))] [(.ref b)])) _
    refine XS.aloadN X16.here hx rfl (hb hby at_124) rfl rfl ?_
    show Steps p.tables e below (T16.setTop (mkF m 125 #[.val (.int x0), .val (.int x1), .val (.int x2), .val (.ref a), .val (.int kk), .val (.int fr), .val (.ref u), .val (.ref b), .val (.int (kk - fr))] [(.ref a), (.ref b)])) _
    refine XS.iload X16.here hx rfl (hb hby at_125) rfl ?_
    show Steps p.tables e below (T16.setTop (mkF m 127 #[.val (.int x0), .val (.int x1), .val (.int x2), .val (.ref a), .val (.int kk), .val (.int fr), .val (.ref u), .val (.ref b), .val (.int (kk - fr))] [(.int fr), (.ref a), (.ref b)])) _
    refine XS.iload X16.here hx rfl (hb hby at_127) rfl ?_
    show Steps p.tables e below (T16.setTop (mkF m 129 #[.val (.int x0), .val (.int x1), .val (.int x2), .val (.ref a), .val (.int kk), .val (.int fr), .val (.ref u), .val (.ref b), .val (.int (kk - fr))] [(.int (kk - fr)), (.int fr), (.ref a), (.ref b)])) _
    refine XS.iconst X16.here hx rfl (hb hby at_129) ?_
    show Steps p.tables e below (T16.setTop (mkF m 130 #[.val (.int x0), .val (.int x1), .val (.int x2), .val (.ref a), .val (.int kk), .val (.int fr), .val (.ref u), .val (.ref b), .val (.int (kk - fr))] [(.int (1 : Int32)), (.int (kk - fr)), (.int fr), (.ref a), (.ref b)])) _
    exact kt
  obtain ⟨_, _, ⟨T17, L17, k17, n17⟩, -, X17, ⟨Lc17, hQ17, l17, y17, z17⟩, st17⟩ := Jvm.LawKit.callS X16 hx (y := (⟨"com/example/roleweave/roleweave/tpm/UnmarshallerReadSincePinLaw", "same", "([B[BIII)Z"⟩ : MethodName)) hown (mvT hZ (hw _ (List.mem_of_getElem? (i := 57) rfl))) (mvT hZ (hw _ (List.mem_of_getElem? (i := 58) rfl))) (mvT hZ (hw _ (List.mem_of_getElem? (i := 59) rfl))) (mvT hZ (hw _ (List.mem_of_getElem? (i := 60) rfl))) (by decide) (backOf (W := 0) (rm_same l Z a0 hw [] b a fr (kk - fr) (1 : Int32) (own_sb x0) T13.heap n0 Z13 V_b V_a hf.1 (by decide) (by omega)) hZ (hw _ (List.mem_of_getElem? (i := 60) rfl)) (hw _ (List.mem_of_getElem? (i := 59) rfl)) (by decide) (by decide)) (g := (mkF m 130 #[.val (.int x0), .val (.int x1), .val (.int x2), .val (.ref a), .val (.int kk), .val (.int fr), .val (.ref u), .val (.ref b), .val (.int (kk - fr))] [(.int (1 : Int32)), (.int (kk - fr)), (.int fr), (.ref a), (.ref b)])) rfl (by rw [hml]; rfl) (argsL := [(.ref b), (.ref a), (.int fr), (.int (kk - fr)), (.int (1 : Int32))]) (rest := []) (lenOf pd_8 rfl) rfl (by show 2 * 0 + _ ≤ _; exact Nat.le_of_eq rfl) (hb hby at_130) (fun _ _ => ⟨rfl, e16, (by decide : 4 + 0 ≤ _), (by decide : 15 + 0 ≤ _)⟩)
  dsimp only [Pt.U, Pt.locs, Pt.cells, Pt.slots] at X17 l17 y17 z17 st17 hQ17
  subst l17 y17 z17
  obtain ⟨rfl, N17q, e17⟩ := hQ17
  have N17 := Fr.app N16 N17q
  refine RunsTo.of (T' := T17) (g' := (mkF m 133 #[.val (.int x0), .val (.int x1), .val (.int x2), .val (.ref a), .val (.int kk), .val (.int fr), .val (.ref u), .val (.ref b), .val (.int (kk - fr))] [(.int (1 : Int32))])) st17 ?_
  refine RunsTo.of (T' := T17) (g' := (mkF m 144 #[.val (.int x0), .val (.int x1), .val (.int x2), .val (.ref a), .val (.int kk), .val (.int fr), .val (.ref u), .val (.ref b), .val (.int (kk - fr))] [(.int (2 : Int32)), (.int (kk - fr)), (.int fr), (.ref a), (.ref b)])) (fun tgt_ kt => ?_) ?_
  · refine XS.ifNo X17.here hx rfl (hb hby at_133) rfl ((if0 _ _).trans (feq (by decide)).1) ?_
    show Steps p.tables e below (T17.setTop (mkF m 136 #[.val (.int x0), .val (.int x1), .val (.int x2), .val (.ref a), .val (.int kk), .val (.int fr), .val (.ref u), .val (.ref b), .val (.int (kk - fr))] [])) _
    refine XS.aload X17.here hx rfl (hb hby at_136) rfl rfl ?_
    show Steps p.tables e below (T17.setTop (mkF m 138 #[.val (.int x0), .val (.int x1), .val (.int x2), .val (.ref a), .val (.int kk), .val (.int fr), .val (.ref u), .val (.ref b), .val (.int (kk - fr))] [(.ref b)])) _
    refine XS.aloadN X17.here hx rfl (hb hby at_138) rfl rfl ?_
    show Steps p.tables e below (T17.setTop (mkF m 139 #[.val (.int x0), .val (.int x1), .val (.int x2), .val (.ref a), .val (.int kk), .val (.int fr), .val (.ref u), .val (.ref b), .val (.int (kk - fr))] [(.ref a), (.ref b)])) _
    refine XS.iload X17.here hx rfl (hb hby at_139) rfl ?_
    show Steps p.tables e below (T17.setTop (mkF m 141 #[.val (.int x0), .val (.int x1), .val (.int x2), .val (.ref a), .val (.int kk), .val (.int fr), .val (.ref u), .val (.ref b), .val (.int (kk - fr))] [(.int fr), (.ref a), (.ref b)])) _
    refine XS.iload X17.here hx rfl (hb hby at_141) rfl ?_
    show Steps p.tables e below (T17.setTop (mkF m 143 #[.val (.int x0), .val (.int x1), .val (.int x2), .val (.ref a), .val (.int kk), .val (.int fr), .val (.ref u), .val (.ref b), .val (.int (kk - fr))] [(.int (kk - fr)), (.int fr), (.ref a), (.ref b)])) _
    refine XS.iconst X17.here hx rfl (hb hby at_143) ?_
    show Steps p.tables e below (T17.setTop (mkF m 144 #[.val (.int x0), .val (.int x1), .val (.int x2), .val (.ref a), .val (.int kk), .val (.int fr), .val (.ref u), .val (.ref b), .val (.int (kk - fr))] [(.int (2 : Int32)), (.int (kk - fr)), (.int fr), (.ref a), (.ref b)])) _
    exact kt
  obtain ⟨_, _, ⟨T18, L18, k18, n18⟩, -, X18, ⟨Lc18, hQ18, l18, y18, z18⟩, st18⟩ := Jvm.LawKit.callS X17 hx (y := (⟨"com/example/roleweave/roleweave/tpm/UnmarshallerReadSincePinLaw", "same", "([B[BIII)Z"⟩ : MethodName)) hown (mvT hZ (hw _ (List.mem_of_getElem? (i := 57) rfl))) (mvT hZ (hw _ (List.mem_of_getElem? (i := 58) rfl))) (mvT hZ (hw _ (List.mem_of_getElem? (i := 59) rfl))) (mvT hZ (hw _ (List.mem_of_getElem? (i := 60) rfl))) (by decide) (backOf (W := 0) (rm_same l Z a0 hw [] b a fr (kk - fr) (2 : Int32) (own_sb x0) T13.heap n0 Z13 V_b V_a hf.1 (by decide) (by omega)) hZ (hw _ (List.mem_of_getElem? (i := 60) rfl)) (hw _ (List.mem_of_getElem? (i := 59) rfl)) (by decide) (by decide)) (g := (mkF m 144 #[.val (.int x0), .val (.int x1), .val (.int x2), .val (.ref a), .val (.int kk), .val (.int fr), .val (.ref u), .val (.ref b), .val (.int (kk - fr))] [(.int (2 : Int32)), (.int (kk - fr)), (.int fr), (.ref a), (.ref b)])) rfl (by rw [hml]; rfl) (argsL := [(.ref b), (.ref a), (.int fr), (.int (kk - fr)), (.int (2 : Int32))]) (rest := []) (lenOf pd_8 rfl) rfl (by show 2 * 0 + _ ≤ _; exact Nat.le_of_eq rfl) (hb hby at_144) (fun _ _ => ⟨rfl, e17, (by decide : 4 + 0 ≤ _), (by decide : 15 + 0 ≤ _)⟩)
  dsimp only [Pt.U, Pt.locs, Pt.cells, Pt.slots] at X18 l18 y18 z18 st18 hQ18
  subst l18 y18 z18
  obtain ⟨rfl, N18q, e18⟩ := hQ18
  have N18 := Fr.app N17 N18q
  refine RunsTo.of (T' := T18) (g' := (mkF m 147 #[.val (.int x0), .val (.int x1), .val (.int x2), .val (.ref a), .val (.int kk), .val (.int fr), .val (.ref u), .val (.ref b), .val (.int (kk - fr))] [(.int (1 : Int32))])) st18 ?_
  refine RunsTo.of (T' := T18) (g' := (mkF m 158 #[.val (.int x0), .val (.int x1), .val (.int x2), .val (.ref a), .val (.int kk), .val (.int fr), .val (.ref u), .val (.ref b), .val (.int (kk - fr))] [(.int (3 : Int32)), (.int (kk - fr)), (.int fr), (.ref a), (.ref b)])) (fun tgt_ kt => ?_) ?_
  · refine XS.ifNo X18.here hx rfl (hb hby at_147) rfl ((if0 _ _).trans (feq (by decide)).1) ?_
    show Steps p.tables e below (T18.setTop (mkF m 150 #[.val (.int x0), .val (.int x1), .val (.int x2), .val (.ref a), .val (.int kk), .val (.int fr), .val (.ref u), .val (.ref b), .val (.int (kk - fr))] [])) _
    refine XS.aload X18.here hx rfl (hb hby at_150) rfl rfl ?_
    show Steps p.tables e below (T18.setTop (mkF m 152 #[.val (.int x0), .val (.int x1), .val (.int x2), .val (.ref a), .val (.int kk), .val (.int fr), .val (.ref u), .val (.ref b), .val (.int (kk - fr))] [(.ref b)])) _
    refine XS.aloadN X18.here hx rfl (hb hby at_152) rfl rfl ?_
    show Steps p.tables e below (T18.setTop (mkF m 153 #[.val (.int x0), .val (.int x1), .val (.int x2), .val (.ref a), .val (.int kk), .val (.int fr), .val (.ref u), .val (.ref b), .val (.int (kk - fr))] [(.ref a), (.ref b)])) _
    refine XS.iload X18.here hx rfl (hb hby at_153) rfl ?_
    show Steps p.tables e below (T18.setTop (mkF m 155 #[.val (.int x0), .val (.int x1), .val (.int x2), .val (.ref a), .val (.int kk), .val (.int fr), .val (.ref u), .val (.ref b), .val (.int (kk - fr))] [(.int fr), (.ref a), (.ref b)])) _
    refine XS.iload X18.here hx rfl (hb hby at_155) rfl ?_
    show Steps p.tables e below (T18.setTop (mkF m 157 #[.val (.int x0), .val (.int x1), .val (.int x2), .val (.ref a), .val (.int kk), .val (.int fr), .val (.ref u), .val (.ref b), .val (.int (kk - fr))] [(.int (kk - fr)), (.int fr), (.ref a), (.ref b)])) _
    refine XS.iconst X18.here hx rfl (hb hby at_157) ?_
    show Steps p.tables e below (T18.setTop (mkF m 158 #[.val (.int x0), .val (.int x1), .val (.int x2), .val (.ref a), .val (.int kk), .val (.int fr), .val (.ref u), .val (.ref b), .val (.int (kk - fr))] [(.int (3 : Int32)), (.int (kk - fr)), (.int fr), (.ref a), (.ref b)])) _
    exact kt
  obtain ⟨_, _, ⟨T19, L19, k19, n19⟩, -, X19, ⟨Lc19, hQ19, l19, y19, z19⟩, st19⟩ := Jvm.LawKit.callS X18 hx (y := (⟨"com/example/roleweave/roleweave/tpm/UnmarshallerReadSincePinLaw", "same", "([B[BIII)Z"⟩ : MethodName)) hown (mvT hZ (hw _ (List.mem_of_getElem? (i := 57) rfl))) (mvT hZ (hw _ (List.mem_of_getElem? (i := 58) rfl))) (mvT hZ (hw _ (List.mem_of_getElem? (i := 59) rfl))) (mvT hZ (hw _ (List.mem_of_getElem? (i := 60) rfl))) (by decide) (backOf (W := 0) (rm_same l Z a0 hw [] b a fr (kk - fr) (3 : Int32) (own_sb x0) T13.heap n0 Z13 V_b V_a hf.1 (by decide) (by omega)) hZ (hw _ (List.mem_of_getElem? (i := 60) rfl)) (hw _ (List.mem_of_getElem? (i := 59) rfl)) (by decide) (by decide)) (g := (mkF m 158 #[.val (.int x0), .val (.int x1), .val (.int x2), .val (.ref a), .val (.int kk), .val (.int fr), .val (.ref u), .val (.ref b), .val (.int (kk - fr))] [(.int (3 : Int32)), (.int (kk - fr)), (.int fr), (.ref a), (.ref b)])) rfl (by rw [hml]; rfl) (argsL := [(.ref b), (.ref a), (.int fr), (.int (kk - fr)), (.int (3 : Int32))]) (rest := []) (lenOf pd_8 rfl) rfl (by show 2 * 0 + _ ≤ _; exact Nat.le_of_eq rfl) (hb hby at_158) (fun _ _ => ⟨rfl, e18, (by decide : 4 + 0 ≤ _), (by decide : 15 + 0 ≤ _)⟩)
  dsimp only [Pt.U, Pt.locs, Pt.cells, Pt.slots] at X19 l19 y19 z19 st19 hQ19
  subst l19 y19 z19
  obtain ⟨rfl, N19q, e19⟩ := hQ19
  have N19 := Fr.app N18 N19q
  refine RunsTo.of (T' := T19) (g' := (mkF m 161 #[.val (.int x0), .val (.int x1), .val (.int x2), .val (.ref a), .val (.int kk), .val (.int fr), .val (.ref u), .val (.ref b), .val (.int (kk - fr))] [(.int (1 : Int32))])) st19 ?_
  refine RunsTo.of (T' := T19) (g' := (mkF m 169 #[.val (.int x0), .val (.int x1), .val (.int x2), .val (.ref a), .val (.int kk), .val (.int fr), .val (.ref u), .val (.ref b), .val (.int (kk - fr))] [(.int (1 : Int32))])) (fun tgt_ kt => ?_) ?_
  · refine XS.ifNo X19.here hx rfl (hb hby at_161) rfl ((if0 _ _).trans (feq (by decide)).1) ?_
    show Steps p.tables e below (T19.setTop (mkF m 164 #[.val (.int x0), .val (.int x1), .val (.int x2), .val (.ref a), .val (.int kk), .val (.int fr), .val (.ref u), .val (.ref b), .val (.int (kk - fr))] [])) _
    refine XS.iconst X19.here hx rfl (hb hby at_164) ?_
    show Steps p.tables e below (T19.setTop (mkF m 165 #[.val (.int x0), .val (.int x1), .val (.int x2), .val (.ref a), .val (.int kk), .val (.int fr), .val (.ref u), .val (.ref b), .val (.int (kk - fr))] [(.int (1 : Int32))])) _
    refine XS.goto X19.here hx rfl (pc0 := 165) (pc' := 169) rfl (hb hby at_165) (by decide) (by decide) ?_
    show Steps p.tables e below (T19.setTop (mkF m 169 #[.val (.int x0), .val (.int x1), .val (.int x2), .val (.ref a), .val (.int kk), .val (.int fr), .val (.ref u), .val (.ref b), .val (.int (kk - fr))] [(.int (1 : Int32))])) _
    exact kt
  refine RunsTo.retN X19 hx (t := .boolean) Bd.returns (by simp) Bd.notSynchronized (hb hby at_169) ?_ (by decide) (by decide)
  rw [e19]
  exact ⟨rfl, N19⟩
set_option maxRecDepth 65536 in
set_option maxHeartbeats 40000000 in
theorem comes_1 {Post : Tables → Env → Array Value → State → Outcome → State → Prop} (hpost : ∀ tb e args s v u, (limb_1_1.after args s (.returned v) u = true ∧ limb_1_2.after args s (.returned v) u = true ∧ True) → FrameEnd s (.returned v) u (Jvm.fieldLocs frame_1_writes args s ++ Jvm.arrayLocs frame_1_arrays args s ++ Jvm.staticLocs frame_1_statics s) 16 128 → Post tb e args s (.returned v) u) :
    ArmFor flags0 classFile x code maxLocals ret World_1 tables_1 room_1 Calls_1 rest_1 Pre_1 Post := by
  intro l hfl _ _ p e ha hc hk s m args below hf hA hF happ hP
  obtain ⟨hcalls, hrest, hpre⟩ := hP
  obtain ⟨-, -, -, hnamed, -, -, -, hat⟩ := (Spec.applies_iff hf).mp happ
  obtain ⟨hg, hn⟩ := and_e (Cond.before_iff.mp (show (Jvm.Cond.and given_1 narrow_1).before args s = true from hpre))
  obtain ⟨hcnt, hg0⟩ := and_e hg
  obtain ⟨ha0, hg1⟩ := and_e hg0
  obtain ⟨ha1, hg2⟩ := and_e hg1
  have ha2 := hg2
  obtain ⟨w0, w1, w2, rfl⟩ : ∃ w0 w1 w2 : Value, args = #[w0, w1, w2] := by
    have hs : args.size = 3 := by simpa [Cond.value, given_1] using hcnt
    obtain ⟨L⟩ := args
    match L, hs with
    | [w0, w1, w2], _ => exact ⟨w0, w1, w2, rfl⟩
  have hw := fun d (hd : d ∈ tables_1) => atoms_spec (ws := Jvm.Cond.code x code maxLocals ret :: tables_1) hat d (List.mem_cons_of_mem _ hd)
  have hfit : Fit s := fun {y c} hc i hi => by
    obtain ⟨ha, rfl⟩ := Array.getElem?_eq_some_iff.mp hc
    have q := List.all_eq_true.mp ((Array.all_eq_true_iff_forall_mem.mp hF) _ (Array.getElem_mem ha)) i (List.mem_range.mpr hi)
    simpa [Array.getElem?_eq_getElem hi] using q
  obtain ⟨i0, ei0⟩ := is_v ha0
  obtain rfl : w0 = (.int i0) := Option.some.inj ei0
  obtain ⟨i1, ei1⟩ := is_v ha1
  obtain rfl : w1 = (.int i1) := Option.some.inj ei1
  obtain ⟨i2, ei2⟩ := is_v ha2
  obtain rfl : w2 = (.int i2) := Option.some.inj ei2
  obtain ⟨n, o, h1, h2, h3, _, L, rfl, ⟨rfl, N⟩, hq⟩ := rm0 l s _ hw tables_1 i0 i1 i2 s.heap s.heap.size (Nat.le_refl _)  p e ha hc hk s m _ below hf ((Spec.applies_iff_loose hf).mp happ).1 ⟨rfl, State.Warmed39.refl s, rfl⟩ trivial
  refine ⟨n, _, h1, h2, h3, hpost _ _ _ _ _ _ ⟨Cond.after_iff.mpr rfl, Cond.after_iff.mpr (eq_i res_at (Term.int_eval (1)) rfl), trivial⟩ ⟨hq.1, hq.2.1, (hq.2.2.sift fun y hy => Or.inr (N y hy)).mono (by decide) (by decide)⟩⟩
theorem main_1_1 : Claimed_1_1 := comes_1 fun _ _ _ _ _ _ h hF => ⟨h.1, hF⟩
theorem main_1_2 : Claimed_1_2 := comes_1 fun _ _ _ _ _ _ h hF => ⟨h.2.1, hF⟩
end Jvm.Pilot.@@N@@
namespace Jvm.Pilot.@@N@@
open Jvm Jvm.ClassFile Sem Op Lib Jvm.Free Jvm.Stand Jvm.Pilot.@@N@@.Jvm.D
/-! MADE BY PROGRAM (witnessworld.py) out of the Statement's table words and the real class files: 12 classes; the members and pool entries that the words name. The judged class is class 1, her method 1. -/
namespace start1
open Jvm.ClassFile
def u (s : String) : CpInfo := .utf8 (stringToUtf16 s)
/-- a pool by its gaps: so many unusable entries, then the entry; so many at the end -/
def gap : Nat → List CpInfo → List CpInfo
  | 0, r => r
  | n + 1, r => .unusable :: gap n r
def poolList (es : List (Nat × CpInfo)) (last : Nat) : List CpInfo := es.foldr (fun e r => gap e.1 (e.2 :: r)) (gap last [])
def pool (es : List (Nat × CpInfo)) (last : Nat) : Array CpInfo := ⟨poolList es last⟩
def fileOf (pool : Array CpInfo) (this : Nat) (attrs : Array Attribute := #[]) (ms : Array MethodInfo := #[]) (fl : Nat := 33) (sup : Nat := 0) (ifs : Array Nat := #[]) (fds : Array FieldInfo := #[]) : ClassFile where
  minorVersion := 0
  majorVersion := 65
  constantPool := pool
  accessFlags := fl
  thisClass := this
  superClass := sup
  interfaces := ifs
  fields := fds
  methods := ms
  attributes := attrs
def plain (name : String) (sup : Option ClassId) : Class where
  name := name
  kind := .ordinary
  loader := none
  accessFlags := 33
  super := sup
  interfaces := #[]
  cf := none
  fields := #[]
  methods := #[]
  instanceTypes := #[]
  staticTypes := #[]
  resolved := #[]
  callSites := []
  init := .initialized
  statics := none
  mirror := none

def pool0 : Array CpInfo := pool [(5, u "<init>"), (0, u "()V"), (1, .class_ 10), (1, u "java/lang/Object"), (85, u "clone"), (0, u "()Ljava/lang/Object;")] 26

def k0c0 : Code := { maxStack := 0, maxLocals := 1, code := object_method_1_code, exceptionTable := #[], attributes := #[] }
def k0m0 : Method := { name := "<init>", desc := "()V", sig := { parameters := [], returnType := none }, accessFlags := 1, code := some k0c0 }
def k0m1 : Method := { name := "clone", desc := "()Ljava/lang/Object;", sig := { parameters := [], returnType := some (.object "java/lang/Object") }, accessFlags := 260, code := none }
/-- java/lang/Object -/
def k0 : Class := { plain "java/lang/Object" none with
  accessFlags := 33
  interfaces := #[]
  cf := some (fileOf pool0 8 #[] #[{ accessFlags := 1, nameIndex := 5, descriptorIndex := 6, attributes := #[] }, { accessFlags := 260, nameIndex := 96, descriptorIndex := 97, attributes := #[] }] 33 0 #[] #[])
  fields := #[]
  methods := #[k0m0, k0m1]
  instanceTypes := #[]
  staticTypes := #[]
  resolved := Array.replicate 124 none
  statics := none }

def pool1 : Array CpInfo := pool [(2, .class_ 4), (1, u "java/lang/Object"), (0, u "<init>"), (0, u "()V"), (0, .integer 2147483647), (0, .class_ 9), (0, u "com/example/roleweave/roleweave/tpm/Unmarshaller"), (0, .methodref 8 11), (0, .nameAndType 5 12), (0, u "([B)V"), (0, .methodref 8 14), (0, .nameAndType 15 16), (0, u "raw"), (0, u "(I)[B"), (0, .methodref 8 18), (0, .nameAndType 19 16), (0, u "readSince"), (0, .methodref 8 21), (0, .nameAndType 22 23), (0, u "position"), (0, u "()I"), (0, .methodref 25 26), (0, .class_ 27), (0, .nameAndType 28 29), (0, u "com/example/roleweave/roleweave/tpm/UnmarshallerReadSincePinLaw"), (0, u "same"), (0, u "([B[BIII)Z"), (2, u "law"), (0, u "(III)Z")] 8

def k1m0 : Method := { name := "<init>", desc := "()V", sig := { parameters := [], returnType := none }, accessFlags := 1, code := none }
def k1c1 : Code := { maxStack := 5, maxLocals := 9, code := code, exceptionTable := #[], attributes := #[] }
def k1m1 : Method := { name := "law", desc := "(III)Z", sig := { parameters := [.int, .int, .int], returnType := some .boolean }, accessFlags := 9, code := some k1c1 }
def k1c2 : Code := { maxStack := 4, maxLocals := 5, code := method_3_code, exceptionTable := #[], attributes := #[] }
def k1m2 : Method := { name := "same", desc := "([B[BIII)Z", sig := { parameters := [(.array .byte), (.array .byte), .int, .int, .int], returnType := some .boolean }, accessFlags := 10, code := some k1c2 }
/-- com/example/roleweave/roleweave/tpm/UnmarshallerReadSincePinLaw -/
def k1 : Class := { plain "com/example/roleweave/roleweave/tpm/UnmarshallerReadSincePinLaw" (some 0) with
  accessFlags := 49
  interfaces := #[]
  cf := some (fileOf pool1 25 #[] #[{ accessFlags := 1, nameIndex := 5, descriptorIndex := 6, attributes := #[] }, { accessFlags := 9, nameIndex := 32, descriptorIndex := 33, attributes := #[] }, { accessFlags := 10, nameIndex := 28, descriptorIndex := 29, attributes := #[] }] 49 2 #[] #[])
  fields := #[]
  methods := #[k1m0, k1m1, k1m2]
  instanceTypes := #[]
  staticTypes := #[]
  resolved := Array.replicate 42 none
  statics := none }

def pool2 : Array CpInfo := pool [(1, .methodref 2 3), (0, .class_ 4), (0, .nameAndType 5 6), (0, u "com/example/roleweave/roleweave/tpm/Unmarshaller"), (0, u "<init>"), (0, u "([BII)V"), (0, .methodref 8 9), (0, .class_ 10), (0, .nameAndType 5 11), (0, u "java/lang/Object"), (0, u "()V"), (0, .fieldref 2 13), (0, .nameAndType 14 15), (0, u "bytes"), (0, u "[B"), (0, .fieldref 2 17), (0, .nameAndType 18 19), (0, u "at"), (0, u "I"), (0, .fieldref 2 21), (0, .nameAndType 22 19), (0, u "end"), (0, .methodref 2 24), (0, .nameAndType 25 26), (0, u "need"), (0, u "(I)V"), (3, u "()I"), (8, .methodref 40 41), (0, .class_ 42), (0, .nameAndType 43 44), (0, u "java/util/Arrays"), (0, u "copyOfRange"), (0, u "([BII)[B"), (13, u "raw"), (0, u "(I)[B"), (5, u "([B)V"), (9, u "readSince"), (0, u "position")] 19

def k2c0 : Code := { maxStack := 4, maxLocals := 2, code := prog_93_method_1_code, exceptionTable := #[], attributes := #[] }
def k2m0 : Method := { name := "<init>", desc := "([B)V", sig := { parameters := [(.array .byte)], returnType := none }, accessFlags := 0, code := some k2c0 }
def k2c1 : Code := { maxStack := 2, maxLocals := 4, code := prog_93_method_2_code, exceptionTable := #[], attributes := #[] }
def k2m1 : Method := { name := "<init>", desc := "([BII)V", sig := { parameters := [(.array .byte), .int, .int], returnType := none }, accessFlags := 2, code := some k2c1 }
def k2c2 : Code := { maxStack := 3, maxLocals := 2, code := prog_93_method_7_code, exceptionTable := #[], attributes := #[] }
def k2m2 : Method := { name := "raw", desc := "(I)[B", sig := { parameters := [.int], returnType := some (.array .byte) }, accessFlags := 0, code := some k2c2 }
def k2c3 : Code := { maxStack := 3, maxLocals := 2, code := prog_93_method_10_code, exceptionTable := #[], attributes := #[] }
def k2m3 : Method := { name := "readSince", desc := "(I)[B", sig := { parameters := [.int], returnType := some (.array .byte) }, accessFlags := 0, code := some k2c3 }
def k2c4 : Code := { maxStack := 1, maxLocals := 1, code := prog_93_method_11_code, exceptionTable := #[], attributes := #[] }
def k2m4 : Method := { name := "position", desc := "()I", sig := { parameters := [], returnType := some .int }, accessFlags := 0, code := some k2c4 }
def k2c5 : Code := { maxStack := 4, maxLocals := 2, code := prog_93_method_13_code, exceptionTable := #[], attributes := #[] }
def k2m5 : Method := { name := "need", desc := "(I)V", sig := { parameters := [.int], returnType := none }, accessFlags := 2, code := some k2c5 }
/-- com/example/roleweave/roleweave/tpm/Unmarshaller -/
def k2 : Class := { plain "com/example/roleweave/roleweave/tpm/Unmarshaller" (some 0) with
  accessFlags := 48
  interfaces := #[]
  cf := some (fileOf pool2 2 #[] #[{ accessFlags := 0, nameIndex := 5, descriptorIndex := 65, attributes := #[] }, { accessFlags := 2, nameIndex := 5, descriptorIndex := 6, attributes := #[] }, { accessFlags := 0, nameIndex := 58, descriptorIndex := 59, attributes := #[] }, { accessFlags := 0, nameIndex := 75, descriptorIndex := 59, attributes := #[] }, { accessFlags := 0, nameIndex := 76, descriptorIndex := 30, attributes := #[] }, { accessFlags := 2, nameIndex := 25, descriptorIndex := 26, attributes := #[] }] 48 8 #[] #[{ accessFlags := 18, nameIndex := 14, descriptorIndex := 15, attributes := #[] }, { accessFlags := 2, nameIndex := 18, descriptorIndex := 19, attributes := #[] }, { accessFlags := 18, nameIndex := 22, descriptorIndex := 19, attributes := #[] }])
  fields := #[{ name := "bytes", type := (.array .byte), accessFlags := 18, slot := 0, constantValue := 0 }, { name := "at", type := .int, accessFlags := 2, slot := 1, constantValue := 0 }, { name := "end", type := .int, accessFlags := 18, slot := 2, constantValue := 0 }]
  methods := #[k2m0, k2m1, k2m2, k2m3, k2m4, k2m5]
  instanceTypes := #[(.array .byte), .int, .int]
  staticTypes := #[]
  resolved := Array.replicate 96 none
  statics := none }

def pool3 : Array CpInfo := pool [(2, .class_ 4), (1, u "java/lang/Object"), (0, u "<init>"), (0, u "()V"), (7, .class_ 16), (1, u "java/util/Arrays"), (57, .class_ 76), (1, u "java/util/Arrays$NaturalOrder"), (32, u "()Ljava/lang/Object;"), (3, .class_ 115), (1, u "java/util/Arrays$LegacyMergeSort"), (1, u "Z"), (10, .nameAndType 129 109), (0, u "clone"), (9, u "copyOfRange"), (10, .methodref 151 152), (0, .class_ 153), (0, .nameAndType 154 155), (0, u "java/lang/System"), (0, u "arraycopy"), (0, u "(Ljava/lang/Object;ILjava/lang/Object;II)V"), (148, .methodref 305 306), (0, .class_ 307), (0, .nameAndType 308 309), (0, u "java/lang/Math"), (0, u "min"), (0, u "(II)I"), (0, .methodref 311 128), (0, .class_ 312), (0, u "[B"), (26, .methodref 14 340), (0, .nameAndType 341 342), (0, u "copyOfRangeByte"), (0, u "([BII)[B"), (0, .methodref 14 344), (0, .nameAndType 345 346), (0, u "checkLength"), (0, u "(II)V"), (28, .class_ 376), (0, u "java/util/Arrays$ArrayList"), (68, u "$assertionsDisabled"), (269, u "MIN_ARRAY_SORT_GRAN"), (0, u "I"), (2, u "INSERTIONSORT_THRESHOLD"), (255, .class_ 976), (0, u "java/util/Arrays$ArrayItr")] 52

def k3m0 : Method := { name := "<init>", desc := "()V", sig := { parameters := [], returnType := none }, accessFlags := 2, code := none }
def k3c1 : Code := { maxStack := 4, maxLocals := 2, code := jdk_65_method_131_code, exceptionTable := #[], attributes := #[] }
def k3m1 : Method := { name := "checkLength", desc := "(II)V", sig := { parameters := [.int, .int], returnType := none }, accessFlags := 10, code := some k3c1 }
def k3c2 : Code := { maxStack := 3, maxLocals := 3, code := jdk_65_method_132_code, exceptionTable := #[], attributes := #[] }
def k3m2 : Method := { name := "copyOfRange", desc := "([BII)[B", sig := { parameters := [(.array .byte), .int, .int], returnType := some (.array .byte) }, accessFlags := 9, code := some k3c2 }
def k3c3 : Code := { maxStack := 6, maxLocals := 5, code := jdk_65_method_133_code, exceptionTable := #[], attributes := #[] }
def k3m3 : Method := { name := "copyOfRangeByte", desc := "([BII)[B", sig := { parameters := [(.array .byte), .int, .int], returnType := some (.array .byte) }, accessFlags := 10, code := some k3c3 }
/-- java/util/Arrays -/
def k3 : Class := { plain "java/util/Arrays" (some 0) with
  accessFlags := 49
  interfaces := #[]
  cf := some (fileOf pool3 14 #[.nestMembers #[975, 375, 113, 74]] #[{ accessFlags := 2, nameIndex := 5, descriptorIndex := 6, attributes := #[] }, { accessFlags := 10, nameIndex := 345, descriptorIndex := 346, attributes := #[] }, { accessFlags := 9, nameIndex := 139, descriptorIndex := 342, attributes := #[] }, { accessFlags := 10, nameIndex := 341, descriptorIndex := 342, attributes := #[] }] 49 2 #[] #[{ accessFlags := 26, nameIndex := 715, descriptorIndex := 716, attributes := #[] }, { accessFlags := 26, nameIndex := 719, descriptorIndex := 716, attributes := #[] }, { accessFlags := 4120, nameIndex := 445, descriptorIndex := 117, attributes := #[] }])
  fields := #[{ name := "MIN_ARRAY_SORT_GRAN", type := .int, accessFlags := 26, slot := 0, constantValue := 0 }, { name := "INSERTIONSORT_THRESHOLD", type := .int, accessFlags := 26, slot := 1, constantValue := 0 }, { name := "$assertionsDisabled", type := .boolean, accessFlags := 4120, slot := 2, constantValue := 0 }]
  methods := #[k3m0, k3m1, k3m2, k3m3]
  instanceTypes := #[]
  staticTypes := #[.int, .int, .boolean]
  resolved := Array.replicate 1029 none
  statics := none }

def pool4 : Array CpInfo := pool [(1, .class_ 2), (0, u "java/lang/Math"), (1, .class_ 6), (1, u "java/lang/Object"), (0, u "<init>"), (0, u "()V"), (89, .class_ 100), (1, u "java/lang/Math$RandomNumberGeneratorHolder"), (71, u "negativeZeroFloatBits"), (0, u "J"), (2, u "negativeZeroDoubleBits"), (24, u "min"), (43, u "$assertionsDisabled"), (0, u "Z"), (88, u "(II)I"), (2, u "twoToTheDoubleScaleDown"), (0, u "D"), (4, u "twoToTheDoubleScaleUp"), (9, u "E"), (3, u "PI"), (2, u "TAU"), (2, u "DEGREES_TO_RADIANS"), (0, u "RADIANS_TO_DEGREES")] 94

def k4m0 : Method := { name := "<init>", desc := "()V", sig := { parameters := [], returnType := none }, accessFlags := 2, code := none }
def k4c1 : Code := { maxStack := 2, maxLocals := 2, code := jdk_29_method_69_code, exceptionTable := #[], attributes := #[] }
def k4m1 : Method := { name := "min", desc := "(II)I", sig := { parameters := [.int, .int], returnType := some .int }, accessFlags := 9, code := some k4c1 }
/-- java/lang/Math -/
def k4 : Class := { plain "java/lang/Math" (some 0) with
  accessFlags := 49
  interfaces := #[]
  cf := some (fileOf pool4 1 #[.nestMembers #[98]] #[{ accessFlags := 2, nameIndex := 7, descriptorIndex := 8, attributes := #[] }, { accessFlags := 9, nameIndex := 201, descriptorIndex := 335, attributes := #[] }] 49 4 #[] #[{ accessFlags := 25, nameIndex := 354, descriptorIndex := 339, attributes := #[] }, { accessFlags := 25, nameIndex := 358, descriptorIndex := 339, attributes := #[] }, { accessFlags := 25, nameIndex := 361, descriptorIndex := 339, attributes := #[] }, { accessFlags := 26, nameIndex := 364, descriptorIndex := 339, attributes := #[] }, { accessFlags := 26, nameIndex := 365, descriptorIndex := 339, attributes := #[] }, { accessFlags := 26, nameIndex := 172, descriptorIndex := 173, attributes := #[] }, { accessFlags := 26, nameIndex := 176, descriptorIndex := 173, attributes := #[] }, { accessFlags := 8, nameIndex := 344, descriptorIndex := 339, attributes := #[] }, { accessFlags := 8, nameIndex := 338, descriptorIndex := 339, attributes := #[] }, { accessFlags := 4120, nameIndex := 245, descriptorIndex := 246, attributes := #[] }])
  fields := #[{ name := "E", type := .double, accessFlags := 25, slot := 0, constantValue := 0 }, { name := "PI", type := .double, accessFlags := 25, slot := 1, constantValue := 0 }, { name := "TAU", type := .double, accessFlags := 25, slot := 2, constantValue := 0 }, { name := "DEGREES_TO_RADIANS", type := .double, accessFlags := 26, slot := 3, constantValue := 0 }, { name := "RADIANS_TO_DEGREES", type := .double, accessFlags := 26, slot := 4, constantValue := 0 }, { name := "negativeZeroFloatBits", type := .long, accessFlags := 26, slot := 5, constantValue := 0 }, { name := "negativeZeroDoubleBits", type := .long, accessFlags := 26, slot := 6, constantValue := 0 }, { name := "twoToTheDoubleScaleUp", type := .double, accessFlags := 8, slot := 7, constantValue := 0 }, { name := "twoToTheDoubleScaleDown", type := .double, accessFlags := 8, slot := 8, constantValue := 0 }, { name := "$assertionsDisabled", type := .boolean, accessFlags := 4120, slot := 9, constantValue := 0 }]
  methods := #[k4m0, k4m1]
  instanceTypes := #[]
  staticTypes := #[.double, .double, .double, .double, .double, .long, .long, .double, .double, .boolean]
  resolved := Array.replicate 460 none
  statics := none }

def pool5 : Array CpInfo := pool [(2, .class_ 4), (1, u "java/lang/Object"), (0, u "<init>"), (0, u "()V"), (1, .class_ 10), (1, u "java/lang/System"), (0, u "allowSecurityManager"), (0, u "I"), (16, u "cons"), (0, u "Ljava/io/Console;"), (77, .class_ 110), (1, u "java/lang/System$CallersHolder"), (43, u "initialErrStream"), (0, u "Ljava/io/PrintStream;"), (19, u "security"), (0, u "Ljava/lang/SecurityManager;"), (31, .class_ 209), (0, u "java/lang/System$1"), (7, u "props"), (0, u "Ljava/util/Properties;"), (2, u "lineSeparator"), (0, u "Ljava/lang/String;"), (96, .class_ 321), (1, u "java/lang/System$LoggerFinder"), (5, .class_ 328), (0, u "java/lang/System$Logger"), (67, u "err"), (2, u "out"), (91, u "notSupportedJnuEncoding"), (15, u "in"), (17, u "initialIn"), (0, u "Ljava/io/InputStream;"), (35, u "bootLayer"), (0, u "Ljava/lang/ModuleLayer;"), (99, .class_ 664), (0, u "java/lang/System$2"), (9, u "NEVER"), (2, u "MAYBE"), (49, u "arraycopy"), (0, u "(Ljava/lang/Object;ILjava/lang/Object;II)V"), (72, .class_ 802), (0, u "java/lang/System$Logger$Level")] 31

def k5m0 : Method := { name := "<init>", desc := "()V", sig := { parameters := [], returnType := none }, accessFlags := 2, code := none }
def k5m1 : Method := { name := "arraycopy", desc := "(Ljava/lang/Object;ILjava/lang/Object;II)V", sig := { parameters := [(.object "java/lang/Object"), .int, (.object "java/lang/Object"), .int, .int], returnType := none }, accessFlags := 265, code := none }
/-- java/lang/System -/
def k5 : Class := { plain "java/lang/System" (some 0) with
  accessFlags := 49
  interfaces := #[]
  cf := some (fileOf pool5 8 #[.nestMembers #[319, 327, 801, 108, 663, 208]] #[{ accessFlags := 2, nameIndex := 5, descriptorIndex := 6, attributes := #[] }, { accessFlags := 265, nameIndex := 727, descriptorIndex := 728, attributes := #[] }] 49 2 #[] #[{ accessFlags := 25, nameIndex := 507, descriptorIndex := 526, attributes := #[] }, { accessFlags := 25, nameIndex := 399, descriptorIndex := 155, attributes := #[] }, { accessFlags := 25, nameIndex := 396, descriptorIndex := 155, attributes := #[] }, { accessFlags := 10, nameIndex := 525, descriptorIndex := 526, attributes := #[] }, { accessFlags := 26, nameIndex := 674, descriptorIndex := 12, attributes := #[] }, { accessFlags := 26, nameIndex := 677, descriptorIndex := 12, attributes := #[] }, { accessFlags := 10, nameIndex := 11, descriptorIndex := 12, attributes := #[] }, { accessFlags := 74, nameIndex := 175, descriptorIndex := 176, attributes := #[] }, { accessFlags := 10, nameIndex := 491, descriptorIndex := 222, attributes := #[] }, { accessFlags := 74, nameIndex := 29, descriptorIndex := 30, attributes := #[] }, { accessFlags := 74, nameIndex := 154, descriptorIndex := 155, attributes := #[] }, { accessFlags := 10, nameIndex := 217, descriptorIndex := 218, attributes := #[] }, { accessFlags := 10, nameIndex := 221, descriptorIndex := 222, attributes := #[] }, { accessFlags := 8, nameIndex := 562, descriptorIndex := 563, attributes := #[] }])
  fields := #[{ name := "in", type := (.object "java/io/InputStream"), accessFlags := 25, slot := 0, constantValue := 0 }, { name := "out", type := (.object "java/io/PrintStream"), accessFlags := 25, slot := 1, constantValue := 0 }, { name := "err", type := (.object "java/io/PrintStream"), accessFlags := 25, slot := 2, constantValue := 0 }, { name := "initialIn", type := (.object "java/io/InputStream"), accessFlags := 10, slot := 3, constantValue := 0 }, { name := "NEVER", type := .int, accessFlags := 26, slot := 4, constantValue := 0 }, { name := "MAYBE", type := .int, accessFlags := 26, slot := 5, constantValue := 0 }, { name := "allowSecurityManager", type := .int, accessFlags := 10, slot := 6, constantValue := 0 }, { name := "security", type := (.object "java/lang/SecurityManager"), accessFlags := 74, slot := 7, constantValue := 0 }, { name := "notSupportedJnuEncoding", type := (.object "java/lang/String"), accessFlags := 10, slot := 8, constantValue := 0 }, { name := "cons", type := (.object "java/io/Console"), accessFlags := 74, slot := 9, constantValue := 0 }, { name := "initialErrStream", type := (.object "java/io/PrintStream"), accessFlags := 74, slot := 10, constantValue := 0 }, { name := "props", type := (.object "java/util/Properties"), accessFlags := 10, slot := 11, constantValue := 0 }, { name := "lineSeparator", type := (.object "java/lang/String"), accessFlags := 10, slot := 12, constantValue := 0 }, { name := "bootLayer", type := (.object "java/lang/ModuleLayer"), accessFlags := 8, slot := 13, constantValue := 0 }]
  methods := #[k5m0, k5m1]
  instanceTypes := #[]
  staticTypes := #[(.object "java/io/InputStream"), (.object "java/io/PrintStream"), (.object "java/io/PrintStream"), (.object "java/io/InputStream"), .int, .int, .int, (.object "java/lang/SecurityManager"), (.object "java/lang/String"), (.object "java/io/Console"), (.object "java/io/PrintStream"), (.object "java/util/Properties"), (.object "java/lang/String"), (.object "java/lang/ModuleLayer")]
  resolved := Array.replicate 834 none
  statics := none }

def pool6 : Array CpInfo := pool [(1, .class_ 2), (0, u "java/lang/Cloneable"), (0, .class_ 4), (0, u "java/lang/Object")] 2

/-- java/lang/Cloneable -/
def k6 : Class := { plain "java/lang/Cloneable" (some 0) with
  accessFlags := 1537
  interfaces := #[]
  cf := some (fileOf pool6 1 #[] #[] 1537 3 #[] #[])
  fields := #[]
  methods := #[]
  instanceTypes := #[]
  staticTypes := #[]
  resolved := Array.replicate 7 none
  statics := none }

def pool7 : Array CpInfo := pool [(1, u "java/io/Serializable"), (0, .class_ 1), (0, u "java/lang/Object"), (0, .class_ 3)] 3

/-- java/io/Serializable -/
def k7 : Class := { plain "java/io/Serializable" (some 0) with
  accessFlags := 1537
  interfaces := #[]
  cf := some (fileOf pool7 2 #[] #[] 1537 4 #[] #[])
  fields := #[]
  methods := #[]
  instanceTypes := #[]
  staticTypes := #[]
  resolved := Array.replicate 8 none
  statics := none }

/-- the primitive byte -/
def k8 : Class := { plain "byte" none with kind := .primitive 'B', accessFlags := 0x411 }
/-- [B -/
def k9 : Class := { plain "[B" (some 0) with kind := .array 8 .byte, interfaces := #[6, 7], accessFlags := 1041 }

/-- the primitive int -/
def k10 : Class := { plain "int" none with kind := .primitive 'I', accessFlags := 0x411 }
/-- [I -/
def k11 : Class := { plain "[I" (some 0) with kind := .array 10 .int, interfaces := #[6, 7], accessFlags := 1041 }

def heap : Heap := #[]
def classes : Array Class := #[k0, k1, k2, k3, k4, k5, k6, k7, k8, k9, k10, k11]
def interned : List (Array UInt16 × Addr) := []
def slotsUsed : Nat := 0
def theMethod : MethodId := ⟨1, 1⟩
def args0 : Array Value := #[.int 77, .int 5, .int 300]
def aboutOver (below : List Frame) : State where
  vm := { classes := classes, interned := interned.toArray }
  heap := heap
  slotsUsed := slotsUsed
  threads := #[{ frames := .invoking theMethod args0 :: below }]
def below0 : List Frame := [.native { method := ⟨0, 0⟩, args := #[] }]
def about1 : State := aboutOver below0
def p0 : Program := .bare "" "" ""
def e0 : Env := launch0.env 0 0 0
theorem w_frames : about1.frames = Frame.invoking theMethod args0 :: below0 := rfl
set_option maxRecDepth 65536 in
theorem w_args : argsFit about1.vm theMethod args0 = true := by decide +kernel
set_option maxRecDepth 65536 in
theorem w_heap : heapFits about1 = true := by decide +kernel
set_option maxRecDepth 65536 in
theorem w_runnable : about1.curStatus? = some .runnable := by decide +kernel
set_option maxRecDepth 65536 in
theorem w_alone : about1.alone = true := by decide +kernel
set_option maxRecDepth 65536 in
theorem w_named : about1.methodNamed? x = some theMethod := by decide +kernel
set_option maxRecDepth 65536 in
theorem w_hears : about1.hears theMethod below0 = true := by decide +kernel
set_option maxRecDepth 65536 in
theorem w_ripe : about1.ripe theMethod args0 below0 = true := by decide +kernel
theorem w_running : about1.status = .running := rfl
set_option maxRecDepth 65536 in
theorem w_room : about1.hasRoom e0.platform room_1 = true :=
  launch0.hasRoom_least _ room_1 (by decide +kernel) (by decide +kernel) (by decide +kernel) (by decide +kernel) (by decide +kernel) (by decide +kernel)
theorem allAtoms_all (ts : List Jvm.Cond) (a : Array Jvm.Value) (st : Jvm.State) : (allAtoms ts).before a st = ts.all (fun c => c.before a st) := by
  induction ts with
  | nil => rfl
  | cons c t ih =>
    show (Jvm.Cond.and c (allAtoms t)).before a st = _
    rw [Jvm.Cond.before_and, ih, List.all_cons]
def words1 : List Jvm.Cond := Jvm.Cond.code x code maxLocals ret :: tables_1
/-- a 'code' word, met by the world's own term for the bytes: nothing is compared byte by byte -/
theorem code_word {y : MethodName} {bytes : ByteArray} {mx : Nat} {rt : Option FieldType} {a : Array Value} {s : State} {m : MethodId} {meth : Method} {c : Code} (h1 : s.methodNamed? y = some m) (h2 : s.vm.method? m = some meth) (h3 : meth.code = some c) (h4 : c.code = bytes)
    (h5 : (c.maxLocals == mx && c.exceptionTable.isEmpty && decide (c.maxStack ≤ mostOperands) && decide (meth.sig.returnType = rt) && !meth.locks && decide (parseMethodDescriptor y.desc = some meth.sig)) = true) : (Jvm.Cond.code y bytes mx rt).before a s = true := by
  simp only [Bool.and_eq_true, beq_iff_eq, Bool.not_eq_true', decide_eq_true_eq] at h5
  obtain ⟨⟨⟨⟨⟨g1, g2⟩, g3⟩, g4⟩, g5⟩, g6⟩ := h5
  simp [Cond.before, Cond.holds, Cond.value, h1, h2, h3, h4, g1, g2, g3, g4, g5, g6]
def isCode : Jvm.Cond → Bool
  | .code _ _ _ _ => true
  | _ => false
theorem all_split {L : List Jvm.Cond} {P : Jvm.Cond → Bool} (h1 : L.all (fun c => isCode c || P c) = true) (h2 : ∀ c ∈ L.filter isCode, P c = true) : L.all P = true := by
  refine List.all_eq_true.mpr fun c hc => ?_
  have h := List.all_eq_true.mp h1 c hc
  rcases Bool.eq_false_or_eq_true (isCode c) with hi | hi
  · exact h2 c (List.mem_filter.mpr ⟨hc, hi⟩)
  · simpa [hi] using h
set_option maxRecDepth 65536 in
theorem w_c0 : (Jvm.Cond.code x code maxLocals ret).before args0 about1 = true := code_word (m := ⟨1, 1⟩) (meth := k1m1) (c := k1c1) (by decide +kernel) rfl rfl rfl (by decide +kernel)
set_option maxRecDepth 65536 in
theorem w_c1 : (Jvm.Cond.code ({ cls := "com/example/roleweave/roleweave/tpm/Unmarshaller", name := "<init>", desc := "([B)V" } : Jvm.MethodName) prog_93_method_1_code (2 : Nat) (Option.none : Option Jvm.ClassFile.FieldType)).before args0 about1 = true := code_word (m := ⟨2, 0⟩) (meth := k2m0) (c := k2c0) (by decide +kernel) rfl rfl rfl (by decide +kernel)
set_option maxRecDepth 65536 in
theorem w_c2 : (Jvm.Cond.code ({ cls := "com/example/roleweave/roleweave/tpm/Unmarshaller", name := "<init>", desc := "([BII)V" } : Jvm.MethodName) prog_93_method_2_code (4 : Nat) (Option.none : Option Jvm.ClassFile.FieldType)).before args0 about1 = true := code_word (m := ⟨2, 1⟩) (meth := k2m1) (c := k2c1) (by decide +kernel) rfl rfl rfl (by decide +kernel)
set_option maxRecDepth 65536 in
theorem w_c3 : (Jvm.Cond.code ({ cls := "java/lang/Object", name := "<init>", desc := "()V" } : Jvm.MethodName) object_method_1_code (1 : Nat) (Option.none : Option Jvm.ClassFile.FieldType)).before args0 about1 = true := code_word (m := ⟨0, 0⟩) (meth := k0m0) (c := k0c0) (by decide +kernel) rfl rfl rfl (by decide +kernel)
set_option maxRecDepth 65536 in
theorem w_c4 : (Jvm.Cond.code ({ cls := "com/example/roleweave/roleweave/tpm/Unmarshaller", name := "raw", desc := "(I)[B" } : Jvm.MethodName) prog_93_method_7_code (2 : Nat) (Option.some (Jvm.ClassFile.FieldType.array Jvm.ClassFile.FieldType.byte))).before args0 about1 = true := code_word (m := ⟨2, 2⟩) (meth := k2m2) (c := k2c2) (by decide +kernel) rfl rfl rfl (by decide +kernel)
set_option maxRecDepth 65536 in
theorem w_c5 : (Jvm.Cond.code ({ cls := "com/example/roleweave/roleweave/tpm/Unmarshaller", name := "need", desc := "(I)V" } : Jvm.MethodName) prog_93_method_13_code (2 : Nat) (Option.none : Option Jvm.ClassFile.FieldType)).before args0 about1 = true := code_word (m := ⟨2, 5⟩) (meth := k2m5) (c := k2c5) (by decide +kernel) rfl rfl rfl (by decide +kernel)
set_option maxRecDepth 65536 in
theorem w_c6 : (Jvm.Cond.code ({ cls := "java/util/Arrays", name := "copyOfRange", desc := "([BII)[B" } : Jvm.MethodName) jdk_65_method_132_code (3 : Nat) (Option.some (Jvm.ClassFile.FieldType.array Jvm.ClassFile.FieldType.byte))).before args0 about1 = true := code_word (m := ⟨3, 2⟩) (meth := k3m2) (c := k3c2) (by decide +kernel) rfl rfl rfl (by decide +kernel)
set_option maxRecDepth 65536 in
theorem w_c7 : (Jvm.Cond.code ({ cls := "java/util/Arrays", name := "copyOfRangeByte", desc := "([BII)[B" } : Jvm.MethodName) jdk_65_method_133_code (5 : Nat) (Option.some (Jvm.ClassFile.FieldType.array Jvm.ClassFile.FieldType.byte))).before args0 about1 = true := code_word (m := ⟨3, 3⟩) (meth := k3m3) (c := k3c3) (by decide +kernel) rfl rfl rfl (by decide +kernel)
set_option maxRecDepth 65536 in
theorem w_c8 : (Jvm.Cond.code ({ cls := "java/util/Arrays", name := "checkLength", desc := "(II)V" } : Jvm.MethodName) jdk_65_method_131_code (2 : Nat) (Option.none : Option Jvm.ClassFile.FieldType)).before args0 about1 = true := code_word (m := ⟨3, 1⟩) (meth := k3m1) (c := k3c1) (by decide +kernel) rfl rfl rfl (by decide +kernel)
set_option maxRecDepth 65536 in
theorem w_c9 : (Jvm.Cond.code ({ cls := "java/lang/Math", name := "min", desc := "(II)I" } : Jvm.MethodName) jdk_29_method_69_code (2 : Nat) (Option.some Jvm.ClassFile.FieldType.int)).before args0 about1 = true := code_word (m := ⟨4, 1⟩) (meth := k4m1) (c := k4c1) (by decide +kernel) rfl rfl rfl (by decide +kernel)
set_option maxRecDepth 65536 in
theorem w_c10 : (Jvm.Cond.code ({ cls := "com/example/roleweave/roleweave/tpm/Unmarshaller", name := "readSince", desc := "(I)[B" } : Jvm.MethodName) prog_93_method_10_code (2 : Nat) (Option.some (Jvm.ClassFile.FieldType.array Jvm.ClassFile.FieldType.byte))).before args0 about1 = true := code_word (m := ⟨2, 3⟩) (meth := k2m3) (c := k2c3) (by decide +kernel) rfl rfl rfl (by decide +kernel)
set_option maxRecDepth 65536 in
theorem w_c11 : (Jvm.Cond.code ({ cls := "com/example/roleweave/roleweave/tpm/Unmarshaller", name := "position", desc := "()I" } : Jvm.MethodName) prog_93_method_11_code (1 : Nat) (Option.some Jvm.ClassFile.FieldType.int)).before args0 about1 = true := code_word (m := ⟨2, 4⟩) (meth := k2m4) (c := k2c4) (by decide +kernel) rfl rfl rfl (by decide +kernel)
set_option maxRecDepth 65536 in
theorem w_c12 : (Jvm.Cond.code ({ cls := "com/example/roleweave/roleweave/tpm/UnmarshallerReadSincePinLaw", name := "same", desc := "([B[BIII)Z" } : Jvm.MethodName) method_3_code (5 : Nat) (Option.some Jvm.ClassFile.FieldType.boolean)).before args0 about1 = true := code_word (m := ⟨1, 2⟩) (meth := k1m2) (c := k1c2) (by decide +kernel) rfl rfl rfl (by decide +kernel)
def codes1 : List Jvm.Cond := [Jvm.Cond.code x code maxLocals ret, Jvm.Cond.code ({ cls := "com/example/roleweave/roleweave/tpm/Unmarshaller", name := "<init>", desc := "([B)V" } : Jvm.MethodName) prog_93_method_1_code (2 : Nat) (Option.none : Option Jvm.ClassFile.FieldType), Jvm.Cond.code ({ cls := "com/example/roleweave/roleweave/tpm/Unmarshaller", name := "<init>", desc := "([BII)V" } : Jvm.MethodName) prog_93_method_2_code (4 : Nat) (Option.none : Option Jvm.ClassFile.FieldType), Jvm.Cond.code ({ cls := "java/lang/Object", name := "<init>", desc := "()V" } : Jvm.MethodName) object_method_1_code (1 : Nat) (Option.none : Option Jvm.ClassFile.FieldType), Jvm.Cond.code ({ cls := "com/example/roleweave/roleweave/tpm/Unmarshaller", name := "raw", desc := "(I)[B" } : Jvm.MethodName) prog_93_method_7_code (2 : Nat) (Option.some (Jvm.ClassFile.FieldType.array Jvm.ClassFile.FieldType.byte)), Jvm.Cond.code ({ cls := "com/example/roleweave/roleweave/tpm/Unmarshaller", name := "need", desc := "(I)V" } : Jvm.MethodName) prog_93_method_13_code (2 : Nat) (Option.none : Option Jvm.ClassFile.FieldType), Jvm.Cond.code ({ cls := "java/util/Arrays", name := "copyOfRange", desc := "([BII)[B" } : Jvm.MethodName) jdk_65_method_132_code (3 : Nat) (Option.some (Jvm.ClassFile.FieldType.array Jvm.ClassFile.FieldType.byte)), Jvm.Cond.code ({ cls := "java/util/Arrays", name := "copyOfRangeByte", desc := "([BII)[B" } : Jvm.MethodName) jdk_65_method_133_code (5 : Nat) (Option.some (Jvm.ClassFile.FieldType.array Jvm.ClassFile.FieldType.byte)), Jvm.Cond.code ({ cls := "java/util/Arrays", name := "checkLength", desc := "(II)V" } : Jvm.MethodName) jdk_65_method_131_code (2 : Nat) (Option.none : Option Jvm.ClassFile.FieldType), Jvm.Cond.code ({ cls := "java/lang/Math", name := "min", desc := "(II)I" } : Jvm.MethodName) jdk_29_method_69_code (2 : Nat) (Option.some Jvm.ClassFile.FieldType.int), Jvm.Cond.code ({ cls := "com/example/roleweave/roleweave/tpm/Unmarshaller", name := "readSince", desc := "(I)[B" } : Jvm.MethodName) prog_93_method_10_code (2 : Nat) (Option.some (Jvm.ClassFile.FieldType.array Jvm.ClassFile.FieldType.byte)), Jvm.Cond.code ({ cls := "com/example/roleweave/roleweave/tpm/Unmarshaller", name := "position", desc := "()I" } : Jvm.MethodName) prog_93_method_11_code (1 : Nat) (Option.some Jvm.ClassFile.FieldType.int), Jvm.Cond.code ({ cls := "com/example/roleweave/roleweave/tpm/UnmarshallerReadSincePinLaw", name := "same", desc := "([B[BIII)Z" } : Jvm.MethodName) method_3_code (5 : Nat) (Option.some Jvm.ClassFile.FieldType.boolean)]
set_option maxRecDepth 65536 in
theorem codes_eq : words1.filter isCode = codes1 := rfl
theorem w_codes : ∀ c ∈ words1.filter isCode, c.before args0 about1 = true := by
  rw [codes_eq]
  intro c hc
  simp only [codes1, List.mem_cons, List.not_mem_nil, or_false] at hc
  rcases hc with rfl | rfl | rfl | rfl | rfl | rfl | rfl | rfl | rfl | rfl | rfl | rfl | rfl
  · exact w_c0
  · exact w_c1
  · exact w_c2
  · exact w_c3
  · exact w_c4
  · exact w_c5
  · exact w_c6
  · exact w_c7
  · exact w_c8
  · exact w_c9
  · exact w_c10
  · exact w_c11
  · exact w_c12
set_option maxRecDepth 65536 in
theorem w_t1 : (words1.take 24).all (fun c => isCode c || c.before args0 about1) = true := by decide +kernel
set_option maxRecDepth 65536 in
theorem w_t2 : ((words1.drop 24).take 24).all (fun c => isCode c || c.before args0 about1) = true := by decide +kernel
set_option maxRecDepth 65536 in
theorem w_t3 : ((words1.drop 24).drop 24).all (fun c => isCode c || c.before args0 about1) = true := by decide +kernel
theorem w_tables : (allAtoms (Jvm.Cond.code x code maxLocals ret :: tables_1)).before args0 about1 = true := by
  rw [allAtoms_all]
  show words1.all (fun c => c.before args0 about1) = true
  refine all_split ?_ w_codes
  rw [← List.take_append_drop 24 words1, List.all_append, w_t1, ← List.take_append_drop 24 (words1.drop 24), List.all_append, w_t2, w_t3]
  rfl
set_option maxRecDepth 65536 in
theorem w_case : (Jvm.Cond.and given_1 narrow_1).before args0 about1 = true := by decide +kernel
theorem w_applies : (headSpec (Jvm.Cond.code x code maxLocals ret :: tables_1) room_1).applies x e0.platform about1 = true :=
  (Spec.applies_iff w_frames).mpr ⟨w_running, w_runnable, w_alone, w_named, w_hears, w_ripe, w_room, w_tables⟩
theorem atStart : AtStart classFile x code maxLocals ret World_1 tables_1 room_1 Calls_1 rest_1 Pre_1 launch0 p0 e0 about1 theMethod args0 below0 :=
  ⟨lists_1, trivial, launch0.admits_env _ _ _, launch0.least_env, fairChoices_fair.cas, fairChoices_fair.clock, w_frames, w_args, w_heap, w_applies, trivial, trivial, w_case⟩
end start1
theorem witness_1 : WitnessClaimed_1 := ⟨start1.p0, start1.e0, start1.about1, start1.theMethod, start1.args0, start1.below0, start1.atStart⟩
end Jvm.Pilot.@@N@@
