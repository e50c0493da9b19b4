import JvmDerived
import JvmDerived.Pilot.@@N@@Statement
import JvmDerived.Pilot.@@N@@Code
set_option linter.unusedVariables false
set_option linter.unusedSimpArgs false
namespace Jvm.RoadKit
open Sem ClassFile Op Lib Jvm.Stand Jvm.Free Jvm.LawKit
section OwnEnds
variable {p : Program} {l : Launch} {e : Env} {R : Room} {s : State} {m : MethodId} {args : Array Value} {below : List Frame} {meth : Method} {c : Code} {T T' : State} {locs : List Loc} {cells slots : Nat} {g g' : JFrame} {Q : Option Value → Heap → List Loc → Prop} {C N : Nat}
/-- from here (the state T, the frame g on top) the run ends, and what it leaves is Q -/
def RunsTo (p : Program) (e : Env) (below : List Frame) (s T : State) (g : JFrame) (Q : Option Value → Heap → List Loc → Prop) (C N : Nat) : Prop :=
  ∃ U o, Steps p.tables e below (T.setTop g) U ∧ U.status = .running ∧ Ended U below o ∧ ∃ v L, o = .returned v ∧ Q v U.heap L ∧ FrameEnd s o U L C N
theorem RunsTo.of (k : ∀ t, Steps p.tables e below (T'.setTop g') t → Steps p.tables e below (T.setTop g) t) (h : RunsTo p e below s T' g' Q C N) : RunsTo p e below s T g Q C N := by
  obtain ⟨U, o, k1, r⟩ := h
  exact ⟨U, o, k U k1, r⟩
theorem RunsTo.start (q : g = g') (h : RunsTo p e below s T g' Q C N) : ∃ U o, Steps p.tables e below (T.setTop g) U ∧ U.status = .running ∧ Ended U below o ∧ ∃ v L, o = .returned v ∧ Q v U.heap L ∧ FrameEnd s o U L C N := by
  subst q; exact h
theorem RunsTo.leave (X : Stand p l e R s m args below meth c T locs cells slots) {v : Option Value} (hv : meth.sig.returnType = none → v = none) (hlocks : meth.locks = false) (hq : Q v T.heap locs) (hC : cells ≤ C) (hN : slots ≤ N)
    (k : ∀ fs, (∀ (f : JFrame) (acts : List Action), f.method = m → f.locked = none → f.entered = [] → (doReturn e (T.setTop f) acts v).1 = T.setFrames fs) → Steps p.tables e below (T.setTop g) (T.setFrames fs)) : RunsTo p e below s T g Q C N := by
  obtain ⟨fs, hr, hrun, hended, hW, hsame⟩ := X.leave (v := v) hv hlocks
  exact ⟨_, _, k fs hr, hrun, hended, v, _, rfl, hq, ⟨_, rfl⟩, hW, hsame.mono hC hN⟩
theorem RunsTo.retI (X : Stand p l e R s m args below meth c T locs cells slots) (hx : p.tables.exec = Jvm.exec) {pc : Nat} {Ls : Array Slot} {z : Int32} {rest : List Value} (hret : meth.sig.returnType = some .int) (hlocks : meth.locks = false) (hd : decode c.code pc = .ok (.ireturn, 1)) (hq : Q (some (.int z)) T.heap locs) (hC : cells ≤ C) (hN : slots ≤ N) :
    RunsTo p e below s T (mkF m pc Ls (.int z :: rest)) Q C N := by
  refine RunsTo.leave X (fun h => by rw [hret] at h; cases h) hlocks hq hC hN fun fs hl => ?_
  have hm' : T.vm.method? m = some meth := X.method'
  have hn : narrow .int (.int z) = .int z := rfl
  show Steps p.tables e below (T.setTop { method := m, pc := pc, locals := Ls, stack := _ :: rest, locked := none }) _
  jvm_step X.here [X.here.top, hx, hd, hm', hret, hn]
  first | (intro acts; rw [hl _ acts rfl rfl rfl]) | rw [hl _ _ rfl rfl rfl]
  exact Steps.refl _
theorem RunsTo.retJ (X : Stand p l e R s m args below meth c T locs cells slots) (hx : p.tables.exec = Jvm.exec) {pc : Nat} {Ls : Array Slot} {z : Int64} {rest : List Value} (hret : meth.sig.returnType = some .long) (hlocks : meth.locks = false) (hd : decode c.code pc = .ok (.lreturn, 1)) (hq : Q (some (.long z)) T.heap locs) (hC : cells ≤ C) (hN : slots ≤ N) :
    RunsTo p e below s T (mkF m pc Ls (.long z :: rest)) Q C N := by
  refine RunsTo.leave X (fun h => by rw [hret] at h; cases h) hlocks hq hC hN fun fs hl => ?_
  have hm' : T.vm.method? m = some meth := X.method'
  show Steps p.tables e below (T.setTop { method := m, pc := pc, locals := Ls, stack := _ :: rest, locked := none }) _
  jvm_step X.here [X.here.top, hx, hd, hm', hret, narrow]
  first | (intro acts; rw [hl _ acts rfl rfl rfl]) | rw [hl _ _ rfl rfl rfl]
  exact Steps.refl _
theorem RunsTo.retA (X : Stand p l e R s m args below meth c T locs cells slots) (hx : p.tables.exec = Jvm.exec) {pc : Nat} {Ls : Array Slot} {z : Value} {ty : FieldType} (hret : meth.sig.returnType = some ty) (hty : ty.isReference = true) (hz : z.isRef = true) (hlocks : meth.locks = false) (hd : decode c.code pc = .ok (.areturn, 1)) (hq : Q (some z) T.heap locs) (hC : cells ≤ C) (hN : slots ≤ N) :
    RunsTo p e below s T (mkF m pc Ls [z]) Q C N :=
  RunsTo.leave X (fun h => by rw [hret] at h; cases h) hlocks hq hC hN fun fs hl => X.areturnOut hx hz hret hty hd hl
theorem RunsTo.retN (X : Stand p l e R s m args below meth c T locs cells slots) (hx : p.tables.exec = Jvm.exec) {pc : Nat} {Ls : Array Slot} {z : Int32} {t : FieldType} {rest : List Value} (hret : meth.sig.returnType = some t) (ht : t = .boolean ∨ t = .byte ∨ t = .char ∨ t = .short) (hlocks : meth.locks = false) (hd : decode c.code pc = .ok (.ireturn, 1)) (hq : Q (some (.int (nar t z))) T.heap locs) (hC : cells ≤ C) (hN : slots ≤ N) :
    RunsTo p e below s T (mkF m pc Ls (.int z :: rest)) Q C N :=
  RunsTo.leave X (fun h => by rw [hret] at h; cases h) hlocks hq hC hN fun fs hl => Jvm.RoadKit.retN X hx hret ht hd hl
theorem RunsTo.retV (X : Stand p l e R s m args below meth c T locs cells slots) (hx : p.tables.exec = Jvm.exec) {pc : Nat} {Ls : Array Slot} (hret : meth.sig.returnType = none) (hlocks : meth.locks = false) (hd : decode c.code pc = .ok (.return_, 1)) (hq : Q none T.heap locs) (hC : cells ≤ C) (hN : slots ≤ N) :
    RunsTo p e below s T (mkF m pc Ls []) Q C N :=
  RunsTo.leave X (fun _ => rfl) hlocks hq hC hN fun fs hl => X.returnOut hx hret hd hl
end OwnEnds
theorem nar_ref (ty : FieldType) {v : Value} (hv : v.isRef = true) : narrow ty v = v := by rcases ref_cases hv with rfl | ⟨a, rfl⟩ <;> cases ty <;> rfl
theorem fits_ref' {ty : FieldType} {v : Value} (h : ty.isReference = true) (hv : v.isRef = true) : fits ty v = true := by rcases ref_cases hv with rfl | ⟨a, rfl⟩ <;> cases ty <;> simp_all [fits, FieldType.isReference]
section OwnArf
variable {Z : State} {h h' : Heap} {a b : Addr} {c : Cell} {k : ClassId} {ty : FieldType} {z j : Int32} {f f' : Nat → Value} {v : Value} {sl : Nat} {ws : List Addr}
/-- an array: its kind, its length z, and what each place holds -/
def Arf (Z : State) (h : Heap) (a : Addr) (ty : FieldType) (z : Int32) (f : Nat → Value) : Prop := ∃ c : Cell, Arr Z h a c ty ∧ c.slots.size = z.toNatClampNeg ∧ ¬ z < 0 ∧ ∀ j, j < c.slots.size → c.slots[j]? = some (f j)
theorem Arf.lt (F : Arf Z h a ty z f) : a < h.size := by obtain ⟨c, A, -⟩ := F; exact A.lt
theorem Arf.ext (F : Arf Z h a ty z f) (E : Ext h h') : Arf Z h' a ty z f := by obtain ⟨c, A, r⟩ := F; exact ⟨c, A.ext E, r⟩
theorem Arf.other (F : Arf Z h b ty z f) (W : Wr h h' a sl v) (q : b ≠ a) : Arf Z h' b ty z f := by obtain ⟨c, A, r⟩ := F; exact ⟨c, A.other W q, r⟩
theorem Arf.keep (F : Arf Z h a ty z f) (K : Keep h h' ws) (q : a ∉ ws) : Arf Z h' a ty z f := by obtain ⟨c, A, r⟩ := F; exact ⟨c, ⟨K.2.1 a c A.1 q, A.2⟩, r⟩
theorem Arf.new (A : Arr Z h a (newA k ty z) ty) (q : ¬ z < 0) : Arf Z h a ty z (fun _ => defaultValue ty) := ⟨_, A, sz_new _ _ _, q, fun i hi => by rw [sz_new] at hi; simp [newA, hi]⟩
theorem Arf.congr (F : Arf Z h a ty z f) (q : ∀ i, i < z.toNatClampNeg → f i = f' i) : Arf Z h a ty z f' := by
  obtain ⟨c, A, S, M, H⟩ := F
  exact ⟨c, A, S, M, fun i hi => by rw [← q i (S ▸ hi)]; exact H i hi⟩
theorem Arf.set (A : Arr Z h a c ty) (S : c.slots.size = z.toNatClampNeg) (M : ¬ z < 0) (H : ∀ i, i < c.slots.size → c.slots[i]? = some (f i)) (W : Wr h h' a j.toNatClampNeg v) : Arf Z h' a ty z (fun i => if i = j.toNatClampNeg then v else f i) := by
  refine ⟨_, A.same W, by rw [sz_set]; exact S, M, fun i hi => ?_⟩
  rw [sz_set] at hi
  by_cases u : i = j.toNatClampNeg
  · subst u
    simp [Cell.setSlot, hi]
  · have : (c.setSlot j.toNatClampNeg v).slots[i]? = c.slots[i]? := by
      simp only [Cell.setSlot]; exact Array.getElem?_setIfInBounds_ne (Ne.symm u)
    rw [this]; show _ = some (if i = j.toNatClampNeg then v else f i); rw [if_neg u]; exact H i hi
end OwnArf
end Jvm.RoadKit
namespace Jvm.Pilot.@@N@@
open Jvm Jvm.ClassFile Sem Op Lib Jvm.Free Jvm.Stand Jvm.LawKit Jvm.RoadKit Bundle Jvm.Pilot.@@N@@.Jvm.D
/-! the plain law -/
def own_max (x y : Int32) : Int32 := if x < y then y else x
def own_below (u g b t : Addr) (x1 x2 x3 : Int32) : Addr := if t = b then b else if x2 = 0 then (if x3 = 0 then b else if t = u then (if x1 = 0 then g else u) else g) else b
def own_rank (u g b r : Addr) : Int32 := if r = u then 0 else if r = g then 1 else if r = b then 2 else -1
theorem own_three (x : Int32) : (x &&& 2147483647) % 3 = 0 ∨ (x &&& 2147483647) % 3 = 1 ∨ (x &&& 2147483647) % 3 = 2 := by
  have h := c_mask x 2147483647 31 (by decide) (by decide)
  have h' := (c_irem (x &&& 2147483647) 3 3 rfl).1 (by omega)
  rw [← Int32.toInt_inj, ← Int32.toInt_inj, ← Int32.toInt_inj, h']
  simp only [show (0 : Int32).toInt = 0 from rfl, show (1 : Int32).toInt = 1 from rfl, show (2 : Int32).toInt = 2 from rfl]
  omega
theorem d2_0 : decode jdk_29_method_65_code 0 = .ok (.iload_n 0, 1) := by decide +kernel
theorem d2_1 : decode jdk_29_method_65_code 1 = .ok (.iload_n 1, 1) := by decide +kernel
theorem d2_2 : decode jdk_29_method_65_code 2 = .ok (.if_icmp .lt 7, 3) := by decide +kernel
theorem d2_9 : decode jdk_29_method_65_code 9 = .ok (.iload_n 1, 1) := by decide +kernel
theorem d2_5 : decode jdk_29_method_65_code 5 = .ok (.iload_n 0, 1) := by decide +kernel
theorem d2_6 : decode jdk_29_method_65_code 6 = .ok (.goto 4, 3) := by decide +kernel
theorem d2_10 : decode jdk_29_method_65_code 10 = .ok (.ireturn, 1) := by decide +kernel
theorem ef_rm2 (m : MethodId) (x0 : Int32) (x1 : Int32) : entryFrame m #[(.int x0), (.int x1)] 2 = mkF m 0 #[.val (.int x0), .val (.int x1)] [] := by first | (simp [entryFrame, mkF, argsToLocals, Value.category]; done) | rfl
def Q2 (Z : State) (x0 : Int32) (x1 : Int32) (h0 : Heap) (n0 : Nat) (v : Option Value) (h : Heap) (L : List Loc) : Prop := v = some (.int (own_max x0 x1)) ∧ Fr n0 L ∧ h = h0
set_option maxRecDepth 65536 in
set_option maxHeartbeats 40000000 in
theorem rm2 (l : Launch) (Z : State) (a0 : Array Value) (hw : ∀ d ∈ tables_1, d.before a0 Z = true) (ws : List Jvm.Cond) (x0 : Int32) (x1 : Int32) (h0 : Heap) (n0 : Nat) (Z0 : n0 ≤ h0.size)  :
    MetFree l (⟨"java/lang/Math", "max", "(II)I"⟩ : MethodName) (head1 (Jvm.Cond.code (⟨"java/lang/Math", "max", "(II)I"⟩ : MethodName) jdk_29_method_65_code 2 (some .int) :: ws) ({ frames := 0, cells := 0, slots := 0, locals := 0 } : Room)) (fun as' U => as' = #[(.int x0), (.int x1)] ∧ Z.Warmed39 U.vm ∧ U.heap = h0) (fun _ _ _ _ _ => True) (fun _ U_ o_ U'_ => ∃ v_ L_, o_ = .returned v_ ∧ Q2 Z x0 x1 h0 n0 v_ U'_.heap L_ ∧ FrameEnd U_ o_ U'_ L_ ({ frames := 0, cells := 0, slots := 0, locals := 0 } : Room).cells ({ frames := 0, cells := 0, slots := 0, locals := 0 } : Room).slots) := by
  refine MetFree.of_bodySF (Jvm.Free.JP.mathPlain rfl (by decide +kernel)) hisR ?_
  intro p e s m args below meth c s₁ Bd hml0 hP hK
  obtain ⟨rfl, hZ, hh⟩ := hP
  have hx := Bd.exec
  have hby := Bd.bytes
  have hml : c.maxLocals = 2 := hml0
  have hown : s.vm.findClass "java/lang/Math" = some m.cls := findClass_of_methodNamed Bd.named
  have hnm := (name_of_methodNamed Bd.named Bd.method).1
  have X0 : Stand p l e ({ frames := 0, cells := 0, slots := 0, locals := 0 } : Room) s m #[(.int x0), (.int x1)] below meth c s₁ [] 0 0 := Stand.of_body Bd
  have e0 : s₁.heap = h0 := by rw [← hh, Bd.state]; rfl
  have N0 := Fr.nil n0
  refine RunsTo.start (ef_rm2 m x0 x1) ?_
  show RunsTo p e below s s₁ (mkF m 0 #[.val (.int x0), .val (.int x1)] []) (Q2 Z x0 x1 h0 n0) ({ frames := 0, cells := 0, slots := 0, locals := 0 } : Room).cells ({ frames := 0, cells := 0, slots := 0, locals := 0 } : Room).slots
  refine RunsTo.of (T' := s₁) (g' := (mkF m 2 #[.val (.int x0), .val (.int x1)] [(.int x1), (.int x0)])) (fun tgt_ kt => ?_) ?_
  · refine XS.iloadN X0.here hx rfl (hb hby d2_0) rfl ?_
    show Steps p.tables e below (s₁.setTop (mkF m 1 #[.val (.int x0), .val (.int x1)] [(.int x0)])) _
    refine XS.iloadN X0.here hx rfl (hb hby d2_1) rfl ?_
    show Steps p.tables e below (s₁.setTop (mkF m 2 #[.val (.int x0), .val (.int x1)] [(.int x1), (.int x0)])) _
    exact kt
  obtain ⟨y, hy⟩ : ∃ z : Int32, z = (if x0 < x1 then x1 else x0) := ⟨_, rfl⟩
  refine RunsTo.of (T' := s₁) (g' := (mkF m 10 #[.val (.int x0), .val (.int x1)] [(.int y)])) (fun tgt_ kt => ?_) ?_
  · by_cases hc2 : x0 < x1
    · refine XS.icmpYes X0.here hx rfl (pc0 := 2) (pc' := 9) rfl (hb hby d2_2) rfl (tlt hc2).1 (by decide) (by decide) ?_
      show Steps p.tables e below (s₁.setTop (mkF m 9 #[.val (.int x0), .val (.int x1)] [])) _
      try rw [if_pos hc2] at hy
      rw [hy] at kt
      refine XS.iloadN X0.here hx rfl (hb hby d2_9) rfl ?_
      show Steps p.tables e below (s₁.setTop (mkF m 10 #[.val (.int x0), .val (.int x1)] [(.int x1)])) _
      exact kt
    · refine XS.icmpNo X0.here hx rfl (hb hby d2_2) rfl (flt hc2).1 ?_
      show Steps p.tables e below (s₁.setTop (mkF m 5 #[.val (.int x0), .val (.int x1)] [])) _
      try rw [if_neg hc2] at hy
      rw [hy] at kt
      refine XS.iloadN X0.here hx rfl (hb hby d2_5) rfl ?_
      show Steps p.tables e below (s₁.setTop (mkF m 6 #[.val (.int x0), .val (.int x1)] [(.int x0)])) _
      refine XS.goto X0.here hx rfl (pc0 := 6) (pc' := 10) rfl (hb hby d2_6) (by decide) (by decide) ?_
      show Steps p.tables e below (s₁.setTop (mkF m 10 #[.val (.int x0), .val (.int x1)] [(.int x0)])) _
      exact kt
  refine RunsTo.retI X0 hx Bd.returns Bd.notSynchronized (hb hby d2_10) ?_ (by decide) (by decide)
  rw [e0, hy]
  exact ⟨rfl, N0, rfl⟩
theorem d1_0 : decode prog_79_method_4_code 0 = .ok (.aload_n 0, 1) := by decide +kernel
theorem d1_1 : decode prog_79_method_4_code 1 = .ok (.getstatic 10, 3) := by decide +kernel
theorem d1_4 : decode prog_79_method_4_code 4 = .ok (.if_acmp .eq 11, 3) := by decide +kernel
theorem d1_15 : decode prog_79_method_4_code 15 = .ok (.getstatic 10, 3) := by decide +kernel
theorem d1_18 : decode prog_79_method_4_code 18 = .ok (.astore 4, 2) := by decide +kernel
theorem d1_20 : decode prog_79_method_4_code 20 = .ok (.goto 27, 3) := by decide +kernel
theorem d1_47 : decode prog_79_method_4_code 47 = .ok (.aload 4, 2) := by decide +kernel
theorem d1_49 : decode prog_79_method_4_code 49 = .ok (.areturn, 1) := by decide +kernel
theorem d1_7 : decode prog_79_method_4_code 7 = .ok (.iload_n 2, 1) := by decide +kernel
theorem d1_8 : decode prog_79_method_4_code 8 = .ok (.ifCond .ne 7, 3) := by decide +kernel
theorem d1_11 : decode prog_79_method_4_code 11 = .ok (.iload_n 3, 1) := by decide +kernel
theorem d1_12 : decode prog_79_method_4_code 12 = .ok (.ifCond .ne 11, 3) := by decide +kernel
theorem d1_23 : decode prog_79_method_4_code 23 = .ok (.aload_n 0, 1) := by decide +kernel
theorem d1_24 : decode prog_79_method_4_code 24 = .ok (.getstatic 3, 3) := by decide +kernel
theorem d1_27 : decode prog_79_method_4_code 27 = .ok (.if_acmp .ne 15, 3) := by decide +kernel
theorem d1_30 : decode prog_79_method_4_code 30 = .ok (.iload_n 1, 1) := by decide +kernel
theorem d1_31 : decode prog_79_method_4_code 31 = .ok (.ifCond .eq 11, 3) := by decide +kernel
theorem d1_42 : decode prog_79_method_4_code 42 = .ok (.getstatic 7, 3) := by decide +kernel
theorem d1_45 : decode prog_79_method_4_code 45 = .ok (.astore 4, 2) := by decide +kernel
theorem d1_34 : decode prog_79_method_4_code 34 = .ok (.getstatic 3, 3) := by decide +kernel
theorem d1_37 : decode prog_79_method_4_code 37 = .ok (.astore 4, 2) := by decide +kernel
theorem d1_39 : decode prog_79_method_4_code 39 = .ok (.goto 8, 3) := by decide +kernel
theorem pn_0 : plainName "com/example/round_table/roundtable/engine/Table$Guard" = true := by first | (simp [plainName, overriddenIn]; done) | decide +kernel
theorem ef_rm1 (m : MethodId) (x0 : Addr) (x1 : Int32) (x2 : Int32) (x3 : Int32) : entryFrame m #[(.ref x0), (.int x1), (.int x2), (.int x3)] 5 = mkF m 0 #[.val (.ref x0), .val (.int x1), .val (.int x2), .val (.int x3), .unset] [] := by first | (simp [entryFrame, mkF, argsToLocals, Value.category]; done) | rfl
def Q1 (Z : State) (t : Addr) (x1 : Int32) (x2 : Int32) (x3 : Int32) (u g b : Addr) (h0 : Heap) (n0 : Nat) (v : Option Value) (h : Heap) (L : List Loc) : Prop := v = some (.ref (own_below u g b t x1 x2 x3)) ∧ Fr n0 L ∧ h = h0
set_option maxRecDepth 65536 in
set_option maxHeartbeats 40000000 in
theorem rm1 (l : Launch) (Z : State) (a0 : Array Value) (hw : ∀ d ∈ tables_1, d.before a0 Z = true) (ws : List Jvm.Cond) (t : Addr) (x1 : Int32) (x2 : Int32) (x3 : Int32) (u g b : Addr) (h0 : Heap) (n0 : Nat) (Z0 : n0 ≤ h0.size) (S_u : Sta Z h0 "com/example/round_table/roundtable/engine/Table$Guard" "UNGUARDED" "Lcom/example/round_table/roundtable/engine/Table$Guard;" (.ref u)) (S_g : Sta Z h0 "com/example/round_table/roundtable/engine/Table$Guard" "GUARDED" "Lcom/example/round_table/roundtable/engine/Table$Guard;" (.ref g)) (S_b : Sta Z h0 "com/example/round_table/roundtable/engine/Table$Guard" "BARRED" "Lcom/example/round_table/roundtable/engine/Table$Guard;" (.ref b)) :
    MetFree l (⟨"com/example/round_table/roundtable/engine/Table$Guard", "below", "(ZZZ)Lcom/example/round_table/roundtable/engine/Table$Guard;"⟩ : MethodName) (head1 (Jvm.Cond.code (⟨"com/example/round_table/roundtable/engine/Table$Guard", "below", "(ZZZ)Lcom/example/round_table/roundtable/engine/Table$Guard;"⟩ : MethodName) prog_79_method_4_code 5 (some (.object "com/example/round_table/roundtable/engine/Table$Guard")) :: ws) ({ frames := 0, cells := 0, slots := 0, locals := 0 } : Room)) (fun as' U => as' = #[(.ref t), (.int x1), (.int x2), (.int x3)] ∧ Z.Warmed39 U.vm ∧ U.heap = h0) (fun _ _ _ _ _ => True) (fun _ U_ o_ U'_ => ∃ v_ L_, o_ = .returned v_ ∧ Q1 Z t x1 x2 x3 u g b h0 n0 v_ U'_.heap L_ ∧ FrameEnd U_ o_ U'_ L_ ({ frames := 0, cells := 0, slots := 0, locals := 0 } : Room).cells ({ frames := 0, cells := 0, slots := 0, locals := 0 } : Room).slots) := by
  refine MetFree.of_bodySF (plainFor_of_name pn_0) hisR ?_
  intro p e s m args below meth c s₁ Bd hml0 hP hK
  obtain ⟨rfl, hZ, hh⟩ := hP
  have hx := Bd.exec
  have hby := Bd.bytes
  have hml : c.maxLocals = 5 := hml0
  have hown : s.vm.findClass "com/example/round_table/roundtable/engine/Table$Guard" = some m.cls := findClass_of_methodNamed Bd.named
  have hnm := (name_of_methodNamed Bd.named Bd.method).1
  have X0 : Stand p l e ({ frames := 0, cells := 0, slots := 0, locals := 0 } : Room) s m #[(.ref t), (.int x1), (.int x2), (.int x3)] below meth c s₁ [] 0 0 := Stand.of_body Bd
  have e0 : s₁.heap = h0 := by rw [← hh, Bd.state]; rfl
  have N0 := Fr.nil n0
  refine RunsTo.start (ef_rm1 m t x1 x2 x3) ?_
  show RunsTo p e below s s₁ (mkF m 0 #[.val (.ref t), .val (.int x1), .val (.int x2), .val (.int x3), .unset] []) (Q1 Z t x1 x2 x3 u g b h0 n0) ({ frames := 0, cells := 0, slots := 0, locals := 0 } : Room).cells ({ frames := 0, cells := 0, slots := 0, locals := 0 } : Room).slots
  refine RunsTo.of (T' := s₁) (g' := (mkF m 1 #[.val (.ref t), .val (.int x1), .val (.int x2), .val (.int x3), .unset] [(.ref t)])) (fun tgt_ kt => ?_) ?_
  · refine XS.aloadN X0.here hx rfl (hb hby d1_0) rfl rfl ?_
    show Steps p.tables e below (s₁.setTop (mkF m 1 #[.val (.ref t), .val (.int x1), .val (.int x2), .val (.int x3), .unset] [(.ref t)])) _
    exact kt
  obtain ⟨T1, X1, e1, st1⟩ := getS2 X0 hx hZ hown (host := "") (Or.inl (hw _ (List.mem_of_getElem? (i := 9) rfl))) Via.refl e0 S_b (g := (mkF m 1 #[.val (.ref t), .val (.int x1), .val (.int x2), .val (.int x3), .unset] [(.ref t)])) rfl (hb hby d1_1)
  refine RunsTo.of (T' := T1) (g' := (mkF m 4 #[.val (.ref t), .val (.int x1), .val (.int x2), .val (.int x3), .unset] [(.ref b), (.ref t)])) st1 ?_
  by_cases ht : t = b
  · refine RunsTo.of (T' := T1) (g' := (mkF m 15 #[.val (.ref t), .val (.int x1), .val (.int x2), .val (.int x3), .unset] [])) (fun tgt_ kt => ?_) ?_
    · refine Jvm.RoadKit.acmp (g := (mkF m 4 #[.val (.ref t), .val (.int x1), .val (.int x2), .val (.int x3), .unset] [(.ref b), (.ref t)])) X1 hx rfl rfl rfl (pc0 := 4) (pc' := 15) (same := true) rfl (hb hby d1_4) rfl (decide_eq_true (congrArg Value.ref ht)) (by decide) (by decide) ?_
      show Steps p.tables e below (T1.setTop (mkF m 15 #[.val (.ref t), .val (.int x1), .val (.int x2), .val (.int x3), .unset] [])) _
      exact kt
    obtain ⟨T2, X2, e2, st2⟩ := getS2 X1 hx hZ hown (host := "") (Or.inl (hw _ (List.mem_of_getElem? (i := 9) rfl))) Via.refl e1 S_b (g := (mkF m 15 #[.val (.ref t), .val (.int x1), .val (.int x2), .val (.int x3), .unset] [])) rfl (hb hby d1_15)
    refine RunsTo.of (T' := T2) (g' := (mkF m 18 #[.val (.ref t), .val (.int x1), .val (.int x2), .val (.int x3), .unset] [(.ref b)])) st2 ?_
    refine RunsTo.of (T' := T2) (g' := (mkF m 49 #[.val (.ref t), .val (.int x1), .val (.int x2), .val (.int x3), .val (.ref b)] [(.ref b)])) (fun tgt_ kt => ?_) ?_
    · refine XS.astore X2.here hx rfl (hb hby d1_18) rfl rfl (l' := #[.val (.ref t), .val (.int x1), .val (.int x2), .val (.int x3), .val (.ref b)]) rfl ?_
      show Steps p.tables e below (T2.setTop (mkF m 20 #[.val (.ref t), .val (.int x1), .val (.int x2), .val (.int x3), .val (.ref b)] [])) _
      refine XS.goto X2.here hx rfl (pc0 := 20) (pc' := 47) rfl (hb hby d1_20) (by decide) (by decide) ?_
      show Steps p.tables e below (T2.setTop (mkF m 47 #[.val (.ref t), .val (.int x1), .val (.int x2), .val (.int x3), .val (.ref b)] [])) _
      refine XS.aload X2.here hx rfl (hb hby d1_47) rfl rfl ?_
      show Steps p.tables e below (T2.setTop (mkF m 49 #[.val (.ref t), .val (.int x1), .val (.int x2), .val (.int x3), .val (.ref b)] [(.ref b)])) _
      exact kt
    refine RunsTo.retA X2 hx Bd.returns rfl rfl Bd.notSynchronized (hb hby d1_49) ?_ (by decide) (by decide)
    rw [e2]
    refine ⟨?_, N0, rfl⟩
    rw [own_below, if_pos ht]
  · refine RunsTo.of (T' := T1) (g' := (mkF m 8 #[.val (.ref t), .val (.int x1), .val (.int x2), .val (.int x3), .unset] [(.int x2)])) (fun tgt_ kt => ?_) ?_
    · refine Jvm.RoadKit.acmp (g := (mkF m 4 #[.val (.ref t), .val (.int x1), .val (.int x2), .val (.int x3), .unset] [(.ref b), (.ref t)])) X1 hx rfl rfl rfl (pc0 := 4) (pc' := 7) (same := false) rfl (hb hby d1_4) rfl (decide_eq_false fun q => ht (Value.ref.inj q)) (by decide) (by decide) ?_
      show Steps p.tables e below (T1.setTop (mkF m 7 #[.val (.ref t), .val (.int x1), .val (.int x2), .val (.int x3), .unset] [])) _
      refine XS.iloadN X1.here hx rfl (hb hby d1_7) rfl ?_
      show Steps p.tables e below (T1.setTop (mkF m 8 #[.val (.ref t), .val (.int x1), .val (.int x2), .val (.int x3), .unset] [(.int x2)])) _
      exact kt
    by_cases hx2 : x2 = (0 : Int32)
    · refine RunsTo.of (T' := T1) (g' := (mkF m 12 #[.val (.ref t), .val (.int x1), .val (.int x2), .val (.int x3), .unset] [(.int x3)])) (fun tgt_ kt => ?_) ?_
      · refine XS.ifNo X1.here hx rfl (hb hby d1_8) rfl ((if0 _ _).trans (teq hx2).2) ?_
        show Steps p.tables e below (T1.setTop (mkF m 11 #[.val (.ref t), .val (.int x1), .val (.int x2), .val (.int x3), .unset] [])) _
        refine XS.iloadN X1.here hx rfl (hb hby d1_11) rfl ?_
        show Steps p.tables e below (T1.setTop (mkF m 12 #[.val (.ref t), .val (.int x1), .val (.int x2), .val (.int x3), .unset] [(.int x3)])) _
        exact kt
      by_cases hx3 : x3 = (0 : Int32)
      · refine RunsTo.of (T' := T1) (g' := (mkF m 15 #[.val (.ref t), .val (.int x1), .val (.int x2), .val (.int x3), .unset] [])) (fun tgt_ kt => ?_) ?_
        · refine XS.ifNo X1.here hx rfl (hb hby d1_12) rfl ((if0 _ _).trans (teq hx3).2) ?_
          show Steps p.tables e below (T1.setTop (mkF m 15 #[.val (.ref t), .val (.int x1), .val (.int x2), .val (.int x3), .unset] [])) _
          exact kt
        obtain ⟨T3, X3, e3, st3⟩ := getS2 X1 hx hZ hown (host := "") (Or.inl (hw _ (List.mem_of_getElem? (i := 9) rfl))) Via.refl e1 S_b (g := (mkF m 15 #[.val (.ref t), .val (.int x1), .val (.int x2), .val (.int x3), .unset] [])) rfl (hb hby d1_15)
        refine RunsTo.of (T' := T3) (g' := (mkF m 18 #[.val (.ref t), .val (.int x1), .val (.int x2), .val (.int x3), .unset] [(.ref b)])) st3 ?_
        refine RunsTo.of (T' := T3) (g' := (mkF m 49 #[.val (.ref t), .val (.int x1), .val (.int x2), .val (.int x3), .val (.ref b)] [(.ref b)])) (fun tgt_ kt => ?_) ?_
        · refine XS.astore X3.here hx rfl (hb hby d1_18) rfl rfl (l' := #[.val (.ref t), .val (.int x1), .val (.int x2), .val (.int x3), .val (.ref b)]) rfl ?_
          show Steps p.tables e below (T3.setTop (mkF m 20 #[.val (.ref t), .val (.int x1), .val (.int x2), .val (.int x3), .val (.ref b)] [])) _
          refine XS.goto X3.here hx rfl (pc0 := 20) (pc' := 47) rfl (hb hby d1_20) (by decide) (by decide) ?_
          show Steps p.tables e below (T3.setTop (mkF m 47 #[.val (.ref t), .val (.int x1), .val (.int x2), .val (.int x3), .val (.ref b)] [])) _
          refine XS.aload X3.here hx rfl (hb hby d1_47) rfl rfl ?_
          show Steps p.tables e below (T3.setTop (mkF m 49 #[.val (.ref t), .val (.int x1), .val (.int x2), .val (.int x3), .val (.ref b)] [(.ref b)])) _
          exact kt
        refine RunsTo.retA X3 hx Bd.returns rfl rfl Bd.notSynchronized (hb hby d1_49) ?_ (by decide) (by decide)
        rw [e3]
        refine ⟨?_, N0, rfl⟩
        rw [own_below, if_neg ht, if_pos hx2, if_pos hx3]
      · refine RunsTo.of (T' := T1) (g' := (mkF m 24 #[.val (.ref t), .val (.int x1), .val (.int x2), .val (.int x3), .unset] [(.ref t)])) (fun tgt_ kt => ?_) ?_
        · refine XS.ifYes X1.here hx rfl (pc0 := 12) (pc' := 23) rfl (hb hby d1_12) rfl ((if0 _ _).trans (feq hx3).2) (by decide) (by decide) ?_
          show Steps p.tables e below (T1.setTop (mkF m 23 #[.val (.ref t), .val (.int x1), .val (.int x2), .val (.int x3), .unset] [])) _
          refine XS.aloadN X1.here hx rfl (hb hby d1_23) rfl rfl ?_
          show Steps p.tables e below (T1.setTop (mkF m 24 #[.val (.ref t), .val (.int x1), .val (.int x2), .val (.int x3), .unset] [(.ref t)])) _
          exact kt
        obtain ⟨T4, X4, e4, st4⟩ := getS2 X1 hx hZ hown (host := "") (Or.inl (hw _ (List.mem_of_getElem? (i := 22) rfl))) Via.refl e1 S_u (g := (mkF m 24 #[.val (.ref t), .val (.int x1), .val (.int x2), .val (.int x3), .unset] [(.ref t)])) rfl (hb hby d1_24)
        refine RunsTo.of (T' := T4) (g' := (mkF m 27 #[.val (.ref t), .val (.int x1), .val (.int x2), .val (.int x3), .unset] [(.ref u), (.ref t)])) st4 ?_
        by_cases htu : t = u
        · refine RunsTo.of (T' := T4) (g' := (mkF m 31 #[.val (.ref t), .val (.int x1), .val (.int x2), .val (.int x3), .unset] [(.int x1)])) (fun tgt_ kt => ?_) ?_
          · refine Jvm.RoadKit.acmp (g := (mkF m 27 #[.val (.ref t), .val (.int x1), .val (.int x2), .val (.int x3), .unset] [(.ref u), (.ref t)])) X4 hx rfl rfl rfl (pc0 := 27) (pc' := 30) (same := true) rfl (hb hby d1_27) rfl (decide_eq_true (congrArg Value.ref htu)) (by decide) (by decide) ?_
            show Steps p.tables e below (T4.setTop (mkF m 30 #[.val (.ref t), .val (.int x1), .val (.int x2), .val (.int x3), .unset] [])) _
            refine XS.iloadN X4.here hx rfl (hb hby d1_30) rfl ?_
            show Steps p.tables e below (T4.setTop (mkF m 31 #[.val (.ref t), .val (.int x1), .val (.int x2), .val (.int x3), .unset] [(.int x1)])) _
            exact kt
          by_cases hx1 : x1 = (0 : Int32)
          · refine RunsTo.of (T' := T4) (g' := (mkF m 42 #[.val (.ref t), .val (.int x1), .val (.int x2), .val (.int x3), .unset] [])) (fun tgt_ kt => ?_) ?_
            · refine XS.ifYes X4.here hx rfl (pc0 := 31) (pc' := 42) rfl (hb hby d1_31) rfl ((if0 _ _).trans (teq hx1).1) (by decide) (by decide) ?_
              show Steps p.tables e below (T4.setTop (mkF m 42 #[.val (.ref t), .val (.int x1), .val (.int x2), .val (.int x3), .unset] [])) _
              exact kt
            obtain ⟨T5, X5, e5, st5⟩ := getS2 X4 hx hZ hown (host := "") (Or.inl (hw _ (List.mem_of_getElem? (i := 23) rfl))) Via.refl e4 S_g (g := (mkF m 42 #[.val (.ref t), .val (.int x1), .val (.int x2), .val (.int x3), .unset] [])) rfl (hb hby d1_42)
            refine RunsTo.of (T' := T5) (g' := (mkF m 45 #[.val (.ref t), .val (.int x1), .val (.int x2), .val (.int x3), .unset] [(.ref g)])) st5 ?_
            refine RunsTo.of (T' := T5) (g' := (mkF m 49 #[.val (.ref t), .val (.int x1), .val (.int x2), .val (.int x3), .val (.ref g)] [(.ref g)])) (fun tgt_ kt => ?_) ?_
            · refine XS.astore X5.here hx rfl (hb hby d1_45) rfl rfl (l' := #[.val (.ref t), .val (.int x1), .val (.int x2), .val (.int x3), .val (.ref g)]) rfl ?_
              show Steps p.tables e below (T5.setTop (mkF m 47 #[.val (.ref t), .val (.int x1), .val (.int x2), .val (.int x3), .val (.ref g)] [])) _
              refine XS.aload X5.here hx rfl (hb hby d1_47) rfl rfl ?_
              show Steps p.tables e below (T5.setTop (mkF m 49 #[.val (.ref t), .val (.int x1), .val (.int x2), .val (.int x3), .val (.ref g)] [(.ref g)])) _
              exact kt
            refine RunsTo.retA X5 hx Bd.returns rfl rfl Bd.notSynchronized (hb hby d1_49) ?_ (by decide) (by decide)
            rw [e5]
            refine ⟨?_, N0, rfl⟩
            rw [own_below, if_neg ht, if_pos hx2, if_neg hx3, if_pos htu, if_pos hx1]
          · refine RunsTo.of (T' := T4) (g' := (mkF m 34 #[.val (.ref t), .val (.int x1), .val (.int x2), .val (.int x3), .unset] [])) (fun tgt_ kt => ?_) ?_
            · refine XS.ifNo X4.here hx rfl (hb hby d1_31) rfl ((if0 _ _).trans (feq hx1).1) ?_
              show Steps p.tables e below (T4.setTop (mkF m 34 #[.val (.ref t), .val (.int x1), .val (.int x2), .val (.int x3), .unset] [])) _
              exact kt
            obtain ⟨T6, X6, e6, st6⟩ := getS2 X4 hx hZ hown (host := "") (Or.inl (hw _ (List.mem_of_getElem? (i := 22) rfl))) Via.refl e4 S_u (g := (mkF m 34 #[.val (.ref t), .val (.int x1), .val (.int x2), .val (.int x3), .unset] [])) rfl (hb hby d1_34)
            refine RunsTo.of (T' := T6) (g' := (mkF m 37 #[.val (.ref t), .val (.int x1), .val (.int x2), .val (.int x3), .unset] [(.ref u)])) st6 ?_
            refine RunsTo.of (T' := T6) (g' := (mkF m 49 #[.val (.ref t), .val (.int x1), .val (.int x2), .val (.int x3), .val (.ref u)] [(.ref u)])) (fun tgt_ kt => ?_) ?_
            · refine XS.astore X6.here hx rfl (hb hby d1_37) rfl rfl (l' := #[.val (.ref t), .val (.int x1), .val (.int x2), .val (.int x3), .val (.ref u)]) rfl ?_
              show Steps p.tables e below (T6.setTop (mkF m 39 #[.val (.ref t), .val (.int x1), .val (.int x2), .val (.int x3), .val (.ref u)] [])) _
              refine XS.goto X6.here hx rfl (pc0 := 39) (pc' := 47) rfl (hb hby d1_39) (by decide) (by decide) ?_
              show Steps p.tables e below (T6.setTop (mkF m 47 #[.val (.ref t), .val (.int x1), .val (.int x2), .val (.int x3), .val (.ref u)] [])) _
              refine XS.aload X6.here hx rfl (hb hby d1_47) rfl rfl ?_
              show Steps p.tables e below (T6.setTop (mkF m 49 #[.val (.ref t), .val (.int x1), .val (.int x2), .val (.int x3), .val (.ref u)] [(.ref u)])) _
              exact kt
            refine RunsTo.retA X6 hx Bd.returns rfl rfl Bd.notSynchronized (hb hby d1_49) ?_ (by decide) (by decide)
            rw [e6]
            refine ⟨?_, N0, rfl⟩
            rw [own_below, if_neg ht, if_pos hx2, if_neg hx3, if_pos htu, if_neg hx1]
        · refine RunsTo.of (T' := T4) (g' := (mkF m 42 #[.val (.ref t), .val (.int x1), .val (.int x2), .val (.int x3), .unset] [])) (fun tgt_ kt => ?_) ?_
          · refine Jvm.RoadKit.acmp (g := (mkF m 27 #[.val (.ref t), .val (.int x1), .val (.int x2), .val (.int x3), .unset] [(.ref u), (.ref t)])) X4 hx rfl rfl rfl (pc0 := 27) (pc' := 42) (same := false) rfl (hb hby d1_27) rfl (decide_eq_false fun q => htu (Value.ref.inj q)) (by decide) (by decide) ?_
            show Steps p.tables e below (T4.setTop (mkF m 42 #[.val (.ref t), .val (.int x1), .val (.int x2), .val (.int x3), .unset] [])) _
            exact kt
          obtain ⟨T7, X7, e7, st7⟩ := getS2 X4 hx hZ hown (host := "") (Or.inl (hw _ (List.mem_of_getElem? (i := 23) rfl))) Via.refl e4 S_g (g := (mkF m 42 #[.val (.ref t), .val (.int x1), .val (.int x2), .val (.int x3), .unset] [])) rfl (hb hby d1_42)
          refine RunsTo.of (T' := T7) (g' := (mkF m 45 #[.val (.ref t), .val (.int x1), .val (.int x2), .val (.int x3), .unset] [(.ref g)])) st7 ?_
          refine RunsTo.of (T' := T7) (g' := (mkF m 49 #[.val (.ref t), .val (.int x1), .val (.int x2), .val (.int x3), .val (.ref g)] [(.ref g)])) (fun tgt_ kt => ?_) ?_
          · refine XS.astore X7.here hx rfl (hb hby d1_45) rfl rfl (l' := #[.val (.ref t), .val (.int x1), .val (.int x2), .val (.int x3), .val (.ref g)]) rfl ?_
            show Steps p.tables e below (T7.setTop (mkF m 47 #[.val (.ref t), .val (.int x1), .val (.int x2), .val (.int x3), .val (.ref g)] [])) _
            refine XS.aload X7.here hx rfl (hb hby d1_47) rfl rfl ?_
            show Steps p.tables e below (T7.setTop (mkF m 49 #[.val (.ref t), .val (.int x1), .val (.int x2), .val (.int x3), .val (.ref g)] [(.ref g)])) _
            exact kt
          refine RunsTo.retA X7 hx Bd.returns rfl rfl Bd.notSynchronized (hb hby d1_49) ?_ (by decide) (by decide)
          rw [e7]
          refine ⟨?_, N0, rfl⟩
          rw [own_below, if_neg ht, if_pos hx2, if_neg hx3, if_neg htu]
    · refine RunsTo.of (T' := T1) (g' := (mkF m 15 #[.val (.ref t), .val (.int x1), .val (.int x2), .val (.int x3), .unset] [])) (fun tgt_ kt => ?_) ?_
      · refine XS.ifYes X1.here hx rfl (pc0 := 8) (pc' := 15) rfl (hb hby d1_8) rfl ((if0 _ _).trans (feq hx2).2) (by decide) (by decide) ?_
        show Steps p.tables e below (T1.setTop (mkF m 15 #[.val (.ref t), .val (.int x1), .val (.int x2), .val (.int x3), .unset] [])) _
        exact kt
      obtain ⟨T8, X8, e8, st8⟩ := getS2 X1 hx hZ hown (host := "") (Or.inl (hw _ (List.mem_of_getElem? (i := 9) rfl))) Via.refl e1 S_b (g := (mkF m 15 #[.val (.ref t), .val (.int x1), .val (.int x2), .val (.int x3), .unset] [])) rfl (hb hby d1_15)
      refine RunsTo.of (T' := T8) (g' := (mkF m 18 #[.val (.ref t), .val (.int x1), .val (.int x2), .val (.int x3), .unset] [(.ref b)])) st8 ?_
      refine RunsTo.of (T' := T8) (g' := (mkF m 49 #[.val (.ref t), .val (.int x1), .val (.int x2), .val (.int x3), .val (.ref b)] [(.ref b)])) (fun tgt_ kt => ?_) ?_
      · refine XS.astore X8.here hx rfl (hb hby d1_18) rfl rfl (l' := #[.val (.ref t), .val (.int x1), .val (.int x2), .val (.int x3), .val (.ref b)]) rfl ?_
        show Steps p.tables e below (T8.setTop (mkF m 20 #[.val (.ref t), .val (.int x1), .val (.int x2), .val (.int x3), .val (.ref b)] [])) _
        refine XS.goto X8.here hx rfl (pc0 := 20) (pc' := 47) rfl (hb hby d1_20) (by decide) (by decide) ?_
        show Steps p.tables e below (T8.setTop (mkF m 47 #[.val (.ref t), .val (.int x1), .val (.int x2), .val (.int x3), .val (.ref b)] [])) _
        refine XS.aload X8.here hx rfl (hb hby d1_47) rfl rfl ?_
        show Steps p.tables e below (T8.setTop (mkF m 49 #[.val (.ref t), .val (.int x1), .val (.int x2), .val (.int x3), .val (.ref b)] [(.ref b)])) _
        exact kt
      refine RunsTo.retA X8 hx Bd.returns rfl rfl Bd.notSynchronized (hb hby d1_49) ?_ (by decide) (by decide)
      rw [e8]
      refine ⟨?_, N0, rfl⟩
      rw [own_below, if_neg ht, if_neg hx2]
theorem d3_0 : decode method_3_code 0 = .ok (.aload_n 0, 1) := by decide +kernel
theorem d3_1 : decode method_3_code 1 = .ok (.getstatic 8, 3) := by decide +kernel
theorem d3_4 : decode method_3_code 4 = .ok (.if_acmp .ne 5, 3) := by decide +kernel
theorem d3_7 : decode method_3_code 7 = .ok (.iconst 0, 1) := by decide +kernel
theorem d3_8 : decode method_3_code 8 = .ok (.ireturn, 1) := by decide +kernel
theorem d3_9 : decode method_3_code 9 = .ok (.aload_n 0, 1) := by decide +kernel
theorem d3_10 : decode method_3_code 10 = .ok (.getstatic 14, 3) := by decide +kernel
theorem d3_13 : decode method_3_code 13 = .ok (.if_acmp .ne 5, 3) := by decide +kernel
theorem d3_16 : decode method_3_code 16 = .ok (.iconst 1, 1) := by decide +kernel
theorem d3_17 : decode method_3_code 17 = .ok (.ireturn, 1) := by decide +kernel
theorem d3_18 : decode method_3_code 18 = .ok (.aload_n 0, 1) := by decide +kernel
theorem d3_19 : decode method_3_code 19 = .ok (.getstatic 17, 3) := by decide +kernel
theorem d3_22 : decode method_3_code 22 = .ok (.if_acmp .ne 5, 3) := by decide +kernel
theorem d3_25 : decode method_3_code 25 = .ok (.iconst 2, 1) := by decide +kernel
theorem d3_26 : decode method_3_code 26 = .ok (.ireturn, 1) := by decide +kernel
theorem d3_27 : decode method_3_code 27 = .ok (.iconst (-1), 1) := by decide +kernel
theorem d3_28 : decode method_3_code 28 = .ok (.ireturn, 1) := by decide +kernel
theorem pn_1 : plainName "com/example/round_table/roundtable/engine/GuardBelowPinLaw" = true := by first | (simp [plainName, overriddenIn]; done) | decide +kernel
theorem ef_rm3 (m : MethodId) (x0 : Addr) : entryFrame m #[(.ref x0)] 1 = mkF m 0 #[.val (.ref x0)] [] := by first | (simp [entryFrame, mkF, argsToLocals, Value.category]; done) | rfl
def Q3 (Z : State) (r : Addr) (u g b : Addr) (h0 : Heap) (n0 : Nat) (v : Option Value) (h : Heap) (L : List Loc) : Prop := v = some (.int (own_rank u g b r)) ∧ Fr n0 L ∧ h = h0
set_option maxRecDepth 65536 in
set_option maxHeartbeats 40000000 in
theorem rm3 (l : Launch) (Z : State) (a0 : Array Value) (hw : ∀ d ∈ tables_1, d.before a0 Z = true) (ws : List Jvm.Cond) (r : Addr) (u g b : Addr) (h0 : Heap) (n0 : Nat) (Z0 : n0 ≤ h0.size) (S_u : Sta Z h0 "com/example/round_table/roundtable/engine/Table$Guard" "UNGUARDED" "Lcom/example/round_table/roundtable/engine/Table$Guard;" (.ref u)) (S_g : Sta Z h0 "com/example/round_table/roundtable/engine/Table$Guard" "GUARDED" "Lcom/example/round_table/roundtable/engine/Table$Guard;" (.ref g)) (S_b : Sta Z h0 "com/example/round_table/roundtable/engine/Table$Guard" "BARRED" "Lcom/example/round_table/roundtable/engine/Table$Guard;" (.ref b)) :
    MetFree l (⟨"com/example/round_table/roundtable/engine/GuardBelowPinLaw", "rank", "(Lcom/example/round_table/roundtable/engine/Table$Guard;)I"⟩ : MethodName) (head1 (Jvm.Cond.code (⟨"com/example/round_table/roundtable/engine/GuardBelowPinLaw", "rank", "(Lcom/example/round_table/roundtable/engine/Table$Guard;)I"⟩ : MethodName) method_3_code 1 (some .int) :: ws) ({ frames := 0, cells := 0, slots := 0, locals := 0 } : Room)) (fun as' U => as' = #[(.ref r)] ∧ Z.Warmed39 U.vm ∧ U.heap = h0) (fun _ _ _ _ _ => True) (fun _ U_ o_ U'_ => ∃ v_ L_, o_ = .returned v_ ∧ Q3 Z r u g b h0 n0 v_ U'_.heap L_ ∧ FrameEnd U_ o_ U'_ L_ ({ frames := 0, cells := 0, slots := 0, locals := 0 } : Room).cells ({ frames := 0, cells := 0, slots := 0, locals := 0 } : Room).slots) := by
  refine MetFree.of_bodySF (plainFor_of_name pn_1) hisR ?_
  intro p e s m args below meth c s₁ Bd hml0 hP hK
  obtain ⟨rfl, hZ, hh⟩ := hP
  have hx := Bd.exec
  have hby := Bd.bytes
  have hml : c.maxLocals = 1 := hml0
  have hown : s.vm.findClass "com/example/round_table/roundtable/engine/GuardBelowPinLaw" = some m.cls := findClass_of_methodNamed Bd.named
  have hnm := (name_of_methodNamed Bd.named Bd.method).1
  have X0 : Stand p l e ({ frames := 0, cells := 0, slots := 0, locals := 0 } : Room) s m #[(.ref r)] below meth c s₁ [] 0 0 := Stand.of_body Bd
  have e0 : s₁.heap = h0 := by rw [← hh, Bd.state]; rfl
  have N0 := Fr.nil n0
  refine RunsTo.start (ef_rm3 m r) ?_
  show RunsTo p e below s s₁ (mkF m 0 #[.val (.ref r)] []) (Q3 Z r u g b h0 n0) ({ frames := 0, cells := 0, slots := 0, locals := 0 } : Room).cells ({ frames := 0, cells := 0, slots := 0, locals := 0 } : Room).slots
  refine RunsTo.of (T' := s₁) (g' := (mkF m 1 #[.val (.ref r)] [(.ref r)])) (fun tgt_ kt => ?_) ?_
  · refine XS.aloadN X0.here hx rfl (hb hby d3_0) rfl rfl ?_
    show Steps p.tables e below (s₁.setTop (mkF m 1 #[.val (.ref r)] [(.ref r)])) _
    exact kt
  obtain ⟨T1, X1, e1, st1⟩ := getS2 X0 hx hZ hown (host := "") (Or.inl (hw _ (List.mem_of_getElem? (i := 1) rfl))) Via.refl e0 S_u (g := (mkF m 1 #[.val (.ref r)] [(.ref r)])) rfl (hb hby d3_1)
  refine RunsTo.of (T' := T1) (g' := (mkF m 4 #[.val (.ref r)] [(.ref u), (.ref r)])) st1 ?_
  by_cases h1 : r = u
  · refine RunsTo.of (T' := T1) (g' := (mkF m 8 #[.val (.ref r)] [(.int (0 : Int32))])) (fun tgt_ kt => ?_) ?_
    · refine Jvm.RoadKit.acmp (g := (mkF m 4 #[.val (.ref r)] [(.ref u), (.ref r)])) X1 hx rfl rfl rfl (pc0 := 4) (pc' := 7) (same := true) rfl (hb hby d3_4) rfl (decide_eq_true (congrArg Value.ref h1)) (by decide) (by decide) ?_
      show Steps p.tables e below (T1.setTop (mkF m 7 #[.val (.ref r)] [])) _
      refine XS.iconst X1.here hx rfl (hb hby d3_7) ?_
      show Steps p.tables e below (T1.setTop (mkF m 8 #[.val (.ref r)] [(.int (0 : Int32))])) _
      exact kt
    refine RunsTo.retI X1 hx Bd.returns Bd.notSynchronized (hb hby d3_8) ?_ (by decide) (by decide)
    rw [e1]
    refine ⟨?_, N0, rfl⟩
    rw [own_rank, if_pos h1]
  · refine RunsTo.of (T' := T1) (g' := (mkF m 10 #[.val (.ref r)] [(.ref r)])) (fun tgt_ kt => ?_) ?_
    · refine Jvm.RoadKit.acmp (g := (mkF m 4 #[.val (.ref r)] [(.ref u), (.ref r)])) X1 hx rfl rfl rfl (pc0 := 4) (pc' := 9) (same := false) rfl (hb hby d3_4) rfl (decide_eq_false fun q => h1 (Value.ref.inj q)) (by decide) (by decide) ?_
      show Steps p.tables e below (T1.setTop (mkF m 9 #[.val (.ref r)] [])) _
      refine XS.aloadN X1.here hx rfl (hb hby d3_9) rfl rfl ?_
      show Steps p.tables e below (T1.setTop (mkF m 10 #[.val (.ref r)] [(.ref r)])) _
      exact kt
    obtain ⟨T2, X2, e2, st2⟩ := getS2 X1 hx hZ hown (host := "") (Or.inl (hw _ (List.mem_of_getElem? (i := 19) rfl))) Via.refl e1 S_g (g := (mkF m 10 #[.val (.ref r)] [(.ref r)])) rfl (hb hby d3_10)
    refine RunsTo.of (T' := T2) (g' := (mkF m 13 #[.val (.ref r)] [(.ref g), (.ref r)])) st2 ?_
    by_cases h2 : r = g
    · refine RunsTo.of (T' := T2) (g' := (mkF m 17 #[.val (.ref r)] [(.int (1 : Int32))])) (fun tgt_ kt => ?_) ?_
      · refine Jvm.RoadKit.acmp (g := (mkF m 13 #[.val (.ref r)] [(.ref g), (.ref r)])) X2 hx rfl rfl rfl (pc0 := 13) (pc' := 16) (same := true) rfl (hb hby d3_13) rfl (decide_eq_true (congrArg Value.ref h2)) (by decide) (by decide) ?_
        show Steps p.tables e below (T2.setTop (mkF m 16 #[.val (.ref r)] [])) _
        refine XS.iconst X2.here hx rfl (hb hby d3_16) ?_
        show Steps p.tables e below (T2.setTop (mkF m 17 #[.val (.ref r)] [(.int (1 : Int32))])) _
        exact kt
      refine RunsTo.retI X2 hx Bd.returns Bd.notSynchronized (hb hby d3_17) ?_ (by decide) (by decide)
      rw [e2]
      refine ⟨?_, N0, rfl⟩
      rw [own_rank, if_neg h1, if_pos h2]
    · refine RunsTo.of (T' := T2) (g' := (mkF m 19 #[.val (.ref r)] [(.ref r)])) (fun tgt_ kt => ?_) ?_
      · refine Jvm.RoadKit.acmp (g := (mkF m 13 #[.val (.ref r)] [(.ref g), (.ref r)])) X2 hx rfl rfl rfl (pc0 := 13) (pc' := 18) (same := false) rfl (hb hby d3_13) rfl (decide_eq_false fun q => h2 (Value.ref.inj q)) (by decide) (by decide) ?_
        show Steps p.tables e below (T2.setTop (mkF m 18 #[.val (.ref r)] [])) _
        refine XS.aloadN X2.here hx rfl (hb hby d3_18) rfl rfl ?_
        show Steps p.tables e below (T2.setTop (mkF m 19 #[.val (.ref r)] [(.ref r)])) _
        exact kt
      obtain ⟨T3, X3, e3, st3⟩ := getS2 X2 hx hZ hown (host := "") (Or.inl (hw _ (List.mem_of_getElem? (i := 21) rfl))) Via.refl e2 S_b (g := (mkF m 19 #[.val (.ref r)] [(.ref r)])) rfl (hb hby d3_19)
      refine RunsTo.of (T' := T3) (g' := (mkF m 22 #[.val (.ref r)] [(.ref b), (.ref r)])) st3 ?_
      by_cases h3 : r = b
      · refine RunsTo.of (T' := T3) (g' := (mkF m 26 #[.val (.ref r)] [(.int (2 : Int32))])) (fun tgt_ kt => ?_) ?_
        · refine Jvm.RoadKit.acmp (g := (mkF m 22 #[.val (.ref r)] [(.ref b), (.ref r)])) X3 hx rfl rfl rfl (pc0 := 22) (pc' := 25) (same := true) rfl (hb hby d3_22) rfl (decide_eq_true (congrArg Value.ref h3)) (by decide) (by decide) ?_
          show Steps p.tables e below (T3.setTop (mkF m 25 #[.val (.ref r)] [])) _
          refine XS.iconst X3.here hx rfl (hb hby d3_25) ?_
          show Steps p.tables e below (T3.setTop (mkF m 26 #[.val (.ref r)] [(.int (2 : Int32))])) _
          exact kt
        refine RunsTo.retI X3 hx Bd.returns Bd.notSynchronized (hb hby d3_26) ?_ (by decide) (by decide)
        rw [e3]
        refine ⟨?_, N0, rfl⟩
        rw [own_rank, if_neg h1, if_neg h2, if_pos h3]
      · refine RunsTo.of (T' := T3) (g' := (mkF m 28 #[.val (.ref r)] [(.int (-1 : Int32))])) (fun tgt_ kt => ?_) ?_
        · refine Jvm.RoadKit.acmp (g := (mkF m 22 #[.val (.ref r)] [(.ref b), (.ref r)])) X3 hx rfl rfl rfl (pc0 := 22) (pc' := 27) (same := false) rfl (hb hby d3_22) rfl (decide_eq_false fun q => h3 (Value.ref.inj q)) (by decide) (by decide) ?_
          show Steps p.tables e below (T3.setTop (mkF m 27 #[.val (.ref r)] [])) _
          refine XS.iconst X3.here hx rfl (hb hby d3_27) ?_
          show Steps p.tables e below (T3.setTop (mkF m 28 #[.val (.ref r)] [(.int (-1 : Int32))])) _
          exact kt
        refine RunsTo.retI X3 hx Bd.returns Bd.notSynchronized (hb hby d3_28) ?_ (by decide) (by decide)
        rw [e3]
        refine ⟨?_, N0, rfl⟩
        rw [own_rank, if_neg h1, if_neg h2, if_neg h3]
theorem pd_0 : parseMethodDescriptor "(ZZZ)Lcom/example/round_table/roundtable/engine/Table$Guard;" = some ⟨[.boolean, .boolean, .boolean], some (.object "com/example/round_table/roundtable/engine/Table$Guard")⟩ := by decide +kernel
theorem pd_1 : parseMethodDescriptor "(II)I" = some ⟨[.int, .int], some .int⟩ := by decide +kernel
theorem pd_2 : parseMethodDescriptor "(Lcom/example/round_table/roundtable/engine/Table$Guard;)I" = some ⟨[(.object "com/example/round_table/roundtable/engine/Table$Guard")], some .int⟩ := by decide +kernel
theorem ef_rm0 (m : MethodId) (x0 : Int32) (x1 : Int32) : entryFrame m #[(.int x0), (.int x1)] maxLocals = mkF m 0 #[.val (.int x0), .val (.int x1), .unset, .unset, .unset, .unset, .unset, .unset, .unset, .unset] [] := by first | (simp [entryFrame, mkF, argsToLocals, Value.category, maxLocals]; done) | rfl
def Q0 (Z : State) (x0 : Int32) (x1 : Int32) (u g b : Addr) (h0 : Heap) (n0 : Nat) (v : Option Value) (h : Heap) (L : List Loc) : Prop := v = some (.int 1) ∧ Fr n0 L
set_option maxRecDepth 65536 in
set_option maxHeartbeats 40000000 in
theorem rm0 (l : Launch) (Z : State) (a0 : Array Value) (hw : ∀ d ∈ tables_1, d.before a0 Z = true) (ws : List Jvm.Cond) (x0 : Int32) (x1 : Int32) (u g b : Addr) (h0 : Heap) (n0 : Nat) (Z0 : n0 ≤ h0.size) (S_u : Sta Z h0 "com/example/round_table/roundtable/engine/Table$Guard" "UNGUARDED" "Lcom/example/round_table/roundtable/engine/Table$Guard;" (.ref u)) (S_g : Sta Z h0 "com/example/round_table/roundtable/engine/Table$Guard" "GUARDED" "Lcom/example/round_table/roundtable/engine/Table$Guard;" (.ref g)) (S_b : Sta Z h0 "com/example/round_table/roundtable/engine/Table$Guard" "BARRED" "Lcom/example/round_table/roundtable/engine/Table$Guard;" (.ref b)) (ne_ug : u ≠ g) (ne_ub : u ≠ b) (ne_gb : g ≠ b) (E_u : Exa Z h0 u "com/example/round_table/roundtable/engine/Table$Guard") (E_g : Exa Z h0 g "com/example/round_table/roundtable/engine/Table$Guard") (E_b : Exa Z h0 b "com/example/round_table/roundtable/engine/Table$Guard") :
    MetFree l x (head1 (Jvm.Cond.code x code maxLocals ret :: ws) room_1) (fun as' U => as' = #[(.int x0), (.int x1)] ∧ Z.Warmed39 U.vm ∧ U.heap = h0) (fun _ _ _ _ _ => True) (fun _ U_ o_ U'_ => ∃ v_ L_, o_ = .returned v_ ∧ Q0 Z x0 x1 u g b h0 n0 v_ U'_.heap L_ ∧ FrameEnd U_ o_ U'_ L_ room_1.cells room_1.slots) := by
  refine MetFree.of_bodySF (plainFor_of_name pn_1) hisR ?_
  intro p e s m args below meth c s₁ Bd hml0 hP hK
  obtain ⟨rfl, hZ, hh⟩ := hP
  have hx := Bd.exec
  have hby := Bd.bytes
  have hml : c.maxLocals = 10 := hml0
  have hown : s.vm.findClass "com/example/round_table/roundtable/engine/GuardBelowPinLaw" = some m.cls := findClass_of_methodNamed Bd.named
  have hnm := (name_of_methodNamed Bd.named Bd.method).1
  have X0 : Stand p l e room_1 s m #[(.int x0), (.int x1)] below meth c s₁ [] 0 0 := Stand.of_body Bd
  have e0 : s₁.heap = h0 := by rw [← hh, Bd.state]; rfl
  have N0 := Fr.nil n0
  refine RunsTo.start (ef_rm0 m x0 x1) ?_
  show RunsTo p e below s s₁ (mkF m 0 #[.val (.int x0), .val (.int x1), .unset, .unset, .unset, .unset, .unset, .unset, .unset, .unset] []) (Q0 Z x0 x1 u g b h0 n0) room_1.cells room_1.slots
  refine RunsTo.of (T' := s₁) (g' := (mkF m 7 #[.val (.int x0), .val (.int x1), .val (.int ((x0 &&& (2147483647 : Int32)) % (3 : Int32))), .unset, .unset, .unset, .unset, .unset, .unset, .unset] [])) (fun tgt_ kt => ?_) ?_
  · refine XS.iloadN X0.here hx rfl (hb hby at_0) rfl ?_
    show Steps p.tables e below (s₁.setTop (mkF m 1 #[.val (.int x0), .val (.int x1), .unset, .unset, .unset, .unset, .unset, .unset, .unset, .unset] [(.int x0)])) _
    refine X0.ldcInt hx hown (mvT hZ (hw _ (List.mem_of_getElem? (i := 0) rfl))) (g := (mkF m 1 #[.val (.int x0), .val (.int x1), .unset, .unset, .unset, .unset, .unset, .unset, .unset, .unset] [(.int x0)])) rfl (hb hby at_1) _ ?_
    show Steps p.tables e below (s₁.setTop (mkF m 3 #[.val (.int x0), .val (.int x1), .unset, .unset, .unset, .unset, .unset, .unset, .unset, .unset] [(.int (2147483647 : Int32)), (.int x0)])) _
    refine XS.iand X0.here hx rfl (hb hby at_3) rfl ?_
    show Steps p.tables e below (s₁.setTop (mkF m 4 #[.val (.int x0), .val (.int x1), .unset, .unset, .unset, .unset, .unset, .unset, .unset, .unset] [(.int (x0 &&& (2147483647 : Int32)))])) _
    refine XS.iconst X0.here hx rfl (hb hby at_4) ?_
    show Steps p.tables e below (s₁.setTop (mkF m 5 #[.val (.int x0), .val (.int x1), .unset, .unset, .unset, .unset, .unset, .unset, .unset, .unset] [(.int (3 : Int32)), (.int (x0 &&& (2147483647 : Int32)))])) _
    refine XS.irem X0.here hx rfl (hb hby at_5) rfl (by decide) ?_
    rw [irem_eq_mod]
    show Steps p.tables e below (s₁.setTop (mkF m 6 #[.val (.int x0), .val (.int x1), .unset, .unset, .unset, .unset, .unset, .unset, .unset, .unset] [(.int ((x0 &&& (2147483647 : Int32)) % (3 : Int32)))])) _
    refine XS.istoreN X0.here hx rfl (hb hby at_6) rfl (l' := #[.val (.int x0), .val (.int x1), .val (.int ((x0 &&& (2147483647 : Int32)) % (3 : Int32))), .unset, .unset, .unset, .unset, .unset, .unset, .unset]) rfl ?_
    show Steps p.tables e below (s₁.setTop (mkF m 7 #[.val (.int x0), .val (.int x1), .val (.int ((x0 &&& (2147483647 : Int32)) % (3 : Int32))), .unset, .unset, .unset, .unset, .unset, .unset, .unset] [])) _
    exact kt
  obtain ⟨kk, hkk⟩ : ∃ z : Int32, z = ((x0 &&& (2147483647 : Int32)) % (3 : Int32)) := ⟨_, rfl⟩
  rw [← hkk]
  have hk3 : kk = 0 ∨ kk = 1 ∨ kk = 2 := by rw [hkk]; exact own_three x0
  clear hkk
  rcases hk3 with rfl | rfl | rfl
  · refine RunsTo.of (T' := s₁) (g' := (mkF m 11 #[.val (.int x0), .val (.int x1), .val (.int (0 : Int32)), .unset, .unset, .unset, .unset, .unset, .unset, .unset] [])) (fun tgt_ kt => ?_) ?_
    · refine XS.iloadN X0.here hx rfl (hb hby at_7) rfl ?_
      show Steps p.tables e below (s₁.setTop (mkF m 8 #[.val (.int x0), .val (.int x1), .val (.int (0 : Int32)), .unset, .unset, .unset, .unset, .unset, .unset, .unset] [(.int (0 : Int32))])) _
      refine XS.ifNo X0.here hx rfl (hb hby at_8) rfl ((if0 _ _).trans (teq rfl).2) ?_
      show Steps p.tables e below (s₁.setTop (mkF m 11 #[.val (.int x0), .val (.int x1), .val (.int (0 : Int32)), .unset, .unset, .unset, .unset, .unset, .unset, .unset] [])) _
      exact kt
    obtain ⟨T1, X1, e1, st1⟩ := getS2 X0 hx hZ hown (host := "") (Or.inl (hw _ (List.mem_of_getElem? (i := 1) rfl))) Via.refl e0 S_u (g := (mkF m 11 #[.val (.int x0), .val (.int x1), .val (.int (0 : Int32)), .unset, .unset, .unset, .unset, .unset, .unset, .unset] [])) rfl (hb hby at_11)
    refine RunsTo.of (T' := T1) (g' := (mkF m 14 #[.val (.int x0), .val (.int x1), .val (.int (0 : Int32)), .unset, .unset, .unset, .unset, .unset, .unset, .unset] [(.ref u)])) st1 ?_
    refine RunsTo.of (T' := T1) (g' := (mkF m 35 #[.val (.int x0), .val (.int x1), .val (.int (0 : Int32)), .val (.ref u), .unset, .unset, .unset, .unset, .unset, .unset] [(.int (x1 &&& (1 : Int32)))])) (fun tgt_ kt => ?_) ?_
    · refine XS.goto X1.here hx rfl (pc0 := 14) (pc' := 31) rfl (hb hby at_14) (by decide) (by decide) ?_
      show Steps p.tables e below (T1.setTop (mkF m 31 #[.val (.int x0), .val (.int x1), .val (.int (0 : Int32)), .unset, .unset, .unset, .unset, .unset, .unset, .unset] [(.ref u)])) _
      refine XS.astoreN X1.here hx rfl (hb hby at_31) rfl rfl (l' := #[.val (.int x0), .val (.int x1), .val (.int (0 : Int32)), .val (.ref u), .unset, .unset, .unset, .unset, .unset, .unset]) rfl ?_
      show Steps p.tables e below (T1.setTop (mkF m 32 #[.val (.int x0), .val (.int x1), .val (.int (0 : Int32)), .val (.ref u), .unset, .unset, .unset, .unset, .unset, .unset] [])) _
      refine XS.iloadN X1.here hx rfl (hb hby at_32) rfl ?_
      show Steps p.tables e below (T1.setTop (mkF m 33 #[.val (.int x0), .val (.int x1), .val (.int (0 : Int32)), .val (.ref u), .unset, .unset, .unset, .unset, .unset, .unset] [(.int x1)])) _
      refine XS.iconst X1.here hx rfl (hb hby at_33) ?_
      show Steps p.tables e below (T1.setTop (mkF m 34 #[.val (.int x0), .val (.int x1), .val (.int (0 : Int32)), .val (.ref u), .unset, .unset, .unset, .unset, .unset, .unset] [(.int (1 : Int32)), (.int x1)])) _
      refine XS.iand X1.here hx rfl (hb hby at_34) rfl ?_
      show Steps p.tables e below (T1.setTop (mkF m 35 #[.val (.int x0), .val (.int x1), .val (.int (0 : Int32)), .val (.ref u), .unset, .unset, .unset, .unset, .unset, .unset] [(.int (x1 &&& (1 : Int32)))])) _
      exact kt
    obtain ⟨y1, hy1⟩ : ∃ z : Int32, z = (if (x1 &&& (1 : Int32)) = (0 : Int32) then (0 : Int32) else (1 : Int32)) := ⟨_, rfl⟩
    refine RunsTo.of (T' := T1) (g' := (mkF m 43 #[.val (.int x0), .val (.int x1), .val (.int (0 : Int32)), .val (.ref u), .unset, .unset, .unset, .unset, .unset, .unset] [(.int y1)])) (fun tgt_ kt => ?_) ?_
    · by_cases hc35a : (x1 &&& (1 : Int32)) = (0 : Int32)
      · refine XS.ifYes X1.here hx rfl (pc0 := 35) (pc' := 42) rfl (hb hby at_35) rfl ((if0 _ _).trans (teq hc35a).1) (by decide) (by decide) ?_
        show Steps p.tables e below (T1.setTop (mkF m 42 #[.val (.int x0), .val (.int x1), .val (.int (0 : Int32)), .val (.ref u), .unset, .unset, .unset, .unset, .unset, .unset] [])) _
        try rw [if_pos hc35a] at hy1
        rw [hy1] at kt
        refine XS.iconst X1.here hx rfl (hb hby at_42) ?_
        show Steps p.tables e below (T1.setTop (mkF m 43 #[.val (.int x0), .val (.int x1), .val (.int (0 : Int32)), .val (.ref u), .unset, .unset, .unset, .unset, .unset, .unset] [(.int (0 : Int32))])) _
        exact kt
      · refine XS.ifNo X1.here hx rfl (hb hby at_35) rfl ((if0 _ _).trans (feq hc35a).1) ?_
        show Steps p.tables e below (T1.setTop (mkF m 38 #[.val (.int x0), .val (.int x1), .val (.int (0 : Int32)), .val (.ref u), .unset, .unset, .unset, .unset, .unset, .unset] [])) _
        try rw [if_neg hc35a] at hy1
        rw [hy1] at kt
        refine XS.iconst X1.here hx rfl (hb hby at_38) ?_
        show Steps p.tables e below (T1.setTop (mkF m 39 #[.val (.int x0), .val (.int x1), .val (.int (0 : Int32)), .val (.ref u), .unset, .unset, .unset, .unset, .unset, .unset] [(.int (1 : Int32))])) _
        refine XS.goto X1.here hx rfl (pc0 := 39) (pc' := 43) rfl (hb hby at_39) (by decide) (by decide) ?_
        show Steps p.tables e below (T1.setTop (mkF m 43 #[.val (.int x0), .val (.int x1), .val (.int (0 : Int32)), .val (.ref u), .unset, .unset, .unset, .unset, .unset, .unset] [(.int (1 : Int32))])) _
        exact kt
    refine RunsTo.of (T' := T1) (g' := (mkF m 48 #[.val (.int x0), .val (.int x1), .val (.int (0 : Int32)), .val (.ref u), .val (.int y1), .unset, .unset, .unset, .unset, .unset] [(.int (x1 &&& (2 : Int32)))])) (fun tgt_ kt => ?_) ?_
    · refine XS.istore X1.here hx rfl (hb hby at_43) rfl (l' := #[.val (.int x0), .val (.int x1), .val (.int (0 : Int32)), .val (.ref u), .val (.int y1), .unset, .unset, .unset, .unset, .unset]) rfl ?_
      show Steps p.tables e below (T1.setTop (mkF m 45 #[.val (.int x0), .val (.int x1), .val (.int (0 : Int32)), .val (.ref u), .val (.int y1), .unset, .unset, .unset, .unset, .unset] [])) _
      refine XS.iloadN X1.here hx rfl (hb hby at_45) rfl ?_
      show Steps p.tables e below (T1.setTop (mkF m 46 #[.val (.int x0), .val (.int x1), .val (.int (0 : Int32)), .val (.ref u), .val (.int y1), .unset, .unset, .unset, .unset, .unset] [(.int x1)])) _
      refine XS.iconst X1.here hx rfl (hb hby at_46) ?_
      show Steps p.tables e below (T1.setTop (mkF m 47 #[.val (.int x0), .val (.int x1), .val (.int (0 : Int32)), .val (.ref u), .val (.int y1), .unset, .unset, .unset, .unset, .unset] [(.int (2 : Int32)), (.int x1)])) _
      refine XS.iand X1.here hx rfl (hb hby at_47) rfl ?_
      show Steps p.tables e below (T1.setTop (mkF m 48 #[.val (.int x0), .val (.int x1), .val (.int (0 : Int32)), .val (.ref u), .val (.int y1), .unset, .unset, .unset, .unset, .unset] [(.int (x1 &&& (2 : Int32)))])) _
      exact kt
    obtain ⟨y2, hy2⟩ : ∃ z : Int32, z = (if (x1 &&& (2 : Int32)) = (0 : Int32) then (0 : Int32) else (1 : Int32)) := ⟨_, rfl⟩
    refine RunsTo.of (T' := T1) (g' := (mkF m 56 #[.val (.int x0), .val (.int x1), .val (.int (0 : Int32)), .val (.ref u), .val (.int y1), .unset, .unset, .unset, .unset, .unset] [(.int y2)])) (fun tgt_ kt => ?_) ?_
    · by_cases hc48b : (x1 &&& (2 : Int32)) = (0 : Int32)
      · refine XS.ifYes X1.here hx rfl (pc0 := 48) (pc' := 55) rfl (hb hby at_48) rfl ((if0 _ _).trans (teq hc48b).1) (by decide) (by decide) ?_
        show Steps p.tables e below (T1.setTop (mkF m 55 #[.val (.int x0), .val (.int x1), .val (.int (0 : Int32)), .val (.ref u), .val (.int y1), .unset, .unset, .unset, .unset, .unset] [])) _
        try rw [if_pos hc48b] at hy2
        rw [hy2] at kt
        refine XS.iconst X1.here hx rfl (hb hby at_55) ?_
        show Steps p.tables e below (T1.setTop (mkF m 56 #[.val (.int x0), .val (.int x1), .val (.int (0 : Int32)), .val (.ref u), .val (.int y1), .unset, .unset, .unset, .unset, .unset] [(.int (0 : Int32))])) _
        exact kt
      · refine XS.ifNo X1.here hx rfl (hb hby at_48) rfl ((if0 _ _).trans (feq hc48b).1) ?_
        show Steps p.tables e below (T1.setTop (mkF m 51 #[.val (.int x0), .val (.int x1), .val (.int (0 : Int32)), .val (.ref u), .val (.int y1), .unset, .unset, .unset, .unset, .unset] [])) _
        try rw [if_neg hc48b] at hy2
        rw [hy2] at kt
        refine XS.iconst X1.here hx rfl (hb hby at_51) ?_
        show Steps p.tables e below (T1.setTop (mkF m 52 #[.val (.int x0), .val (.int x1), .val (.int (0 : Int32)), .val (.ref u), .val (.int y1), .unset, .unset, .unset, .unset, .unset] [(.int (1 : Int32))])) _
        refine XS.goto X1.here hx rfl (pc0 := 52) (pc' := 56) rfl (hb hby at_52) (by decide) (by decide) ?_
        show Steps p.tables e below (T1.setTop (mkF m 56 #[.val (.int x0), .val (.int x1), .val (.int (0 : Int32)), .val (.ref u), .val (.int y1), .unset, .unset, .unset, .unset, .unset] [(.int (1 : Int32))])) _
        exact kt
    refine RunsTo.of (T' := T1) (g' := (mkF m 61 #[.val (.int x0), .val (.int x1), .val (.int (0 : Int32)), .val (.ref u), .val (.int y1), .val (.int y2), .unset, .unset, .unset, .unset] [(.int (x1 &&& (4 : Int32)))])) (fun tgt_ kt => ?_) ?_
    · refine XS.istore X1.here hx rfl (hb hby at_56) rfl (l' := #[.val (.int x0), .val (.int x1), .val (.int (0 : Int32)), .val (.ref u), .val (.int y1), .val (.int y2), .unset, .unset, .unset, .unset]) rfl ?_
      show Steps p.tables e below (T1.setTop (mkF m 58 #[.val (.int x0), .val (.int x1), .val (.int (0 : Int32)), .val (.ref u), .val (.int y1), .val (.int y2), .unset, .unset, .unset, .unset] [])) _
      refine XS.iloadN X1.here hx rfl (hb hby at_58) rfl ?_
      show Steps p.tables e below (T1.setTop (mkF m 59 #[.val (.int x0), .val (.int x1), .val (.int (0 : Int32)), .val (.ref u), .val (.int y1), .val (.int y2), .unset, .unset, .unset, .unset] [(.int x1)])) _
      refine XS.iconst X1.here hx rfl (hb hby at_59) ?_
      show Steps p.tables e below (T1.setTop (mkF m 60 #[.val (.int x0), .val (.int x1), .val (.int (0 : Int32)), .val (.ref u), .val (.int y1), .val (.int y2), .unset, .unset, .unset, .unset] [(.int (4 : Int32)), (.int x1)])) _
      refine XS.iand X1.here hx rfl (hb hby at_60) rfl ?_
      show Steps p.tables e below (T1.setTop (mkF m 61 #[.val (.int x0), .val (.int x1), .val (.int (0 : Int32)), .val (.ref u), .val (.int y1), .val (.int y2), .unset, .unset, .unset, .unset] [(.int (x1 &&& (4 : Int32)))])) _
      exact kt
    obtain ⟨y3, hy3⟩ : ∃ z : Int32, z = (if (x1 &&& (4 : Int32)) = (0 : Int32) then (0 : Int32) else (1 : Int32)) := ⟨_, rfl⟩
    refine RunsTo.of (T' := T1) (g' := (mkF m 69 #[.val (.int x0), .val (.int x1), .val (.int (0 : Int32)), .val (.ref u), .val (.int y1), .val (.int y2), .unset, .unset, .unset, .unset] [(.int y3)])) (fun tgt_ kt => ?_) ?_
    · by_cases hc61c : (x1 &&& (4 : Int32)) = (0 : Int32)
      · refine XS.ifYes X1.here hx rfl (pc0 := 61) (pc' := 68) rfl (hb hby at_61) rfl ((if0 _ _).trans (teq hc61c).1) (by decide) (by decide) ?_
        show Steps p.tables e below (T1.setTop (mkF m 68 #[.val (.int x0), .val (.int x1), .val (.int (0 : Int32)), .val (.ref u), .val (.int y1), .val (.int y2), .unset, .unset, .unset, .unset] [])) _
        try rw [if_pos hc61c] at hy3
        rw [hy3] at kt
        refine XS.iconst X1.here hx rfl (hb hby at_68) ?_
        show Steps p.tables e below (T1.setTop (mkF m 69 #[.val (.int x0), .val (.int x1), .val (.int (0 : Int32)), .val (.ref u), .val (.int y1), .val (.int y2), .unset, .unset, .unset, .unset] [(.int (0 : Int32))])) _
        exact kt
      · refine XS.ifNo X1.here hx rfl (hb hby at_61) rfl ((if0 _ _).trans (feq hc61c).1) ?_
        show Steps p.tables e below (T1.setTop (mkF m 64 #[.val (.int x0), .val (.int x1), .val (.int (0 : Int32)), .val (.ref u), .val (.int y1), .val (.int y2), .unset, .unset, .unset, .unset] [])) _
        try rw [if_neg hc61c] at hy3
        rw [hy3] at kt
        refine XS.iconst X1.here hx rfl (hb hby at_64) ?_
        show Steps p.tables e below (T1.setTop (mkF m 65 #[.val (.int x0), .val (.int x1), .val (.int (0 : Int32)), .val (.ref u), .val (.int y1), .val (.int y2), .unset, .unset, .unset, .unset] [(.int (1 : Int32))])) _
        refine XS.goto X1.here hx rfl (pc0 := 65) (pc' := 69) rfl (hb hby at_65) (by decide) (by decide) ?_
        show Steps p.tables e below (T1.setTop (mkF m 69 #[.val (.int x0), .val (.int x1), .val (.int (0 : Int32)), .val (.ref u), .val (.int y1), .val (.int y2), .unset, .unset, .unset, .unset] [(.int (1 : Int32))])) _
        exact kt
    refine RunsTo.of (T' := T1) (g' := (mkF m 78 #[.val (.int x0), .val (.int x1), .val (.int (0 : Int32)), .val (.ref u), .val (.int y1), .val (.int y2), .val (.int y3), .unset, .unset, .unset] [(.int y3), (.int y2), (.int y1), (.ref u)])) (fun tgt_ kt => ?_) ?_
    · refine XS.istore X1.here hx rfl (hb hby at_69) rfl (l' := #[.val (.int x0), .val (.int x1), .val (.int (0 : Int32)), .val (.ref u), .val (.int y1), .val (.int y2), .val (.int y3), .unset, .unset, .unset]) rfl ?_
      show Steps p.tables e below (T1.setTop (mkF m 71 #[.val (.int x0), .val (.int x1), .val (.int (0 : Int32)), .val (.ref u), .val (.int y1), .val (.int y2), .val (.int y3), .unset, .unset, .unset] [])) _
      refine XS.aloadN X1.here hx rfl (hb hby at_71) rfl rfl ?_
      show Steps p.tables e below (T1.setTop (mkF m 72 #[.val (.int x0), .val (.int x1), .val (.int (0 : Int32)), .val (.ref u), .val (.int y1), .val (.int y2), .val (.int y3), .unset, .unset, .unset] [(.ref u)])) _
      refine XS.iload X1.here hx rfl (hb hby at_72) rfl ?_
      show Steps p.tables e below (T1.setTop (mkF m 74 #[.val (.int x0), .val (.int x1), .val (.int (0 : Int32)), .val (.ref u), .val (.int y1), .val (.int y2), .val (.int y3), .unset, .unset, .unset] [(.int y1), (.ref u)])) _
      refine XS.iload X1.here hx rfl (hb hby at_74) rfl ?_
      show Steps p.tables e below (T1.setTop (mkF m 76 #[.val (.int x0), .val (.int x1), .val (.int (0 : Int32)), .val (.ref u), .val (.int y1), .val (.int y2), .val (.int y3), .unset, .unset, .unset] [(.int y2), (.int y1), (.ref u)])) _
      refine XS.iload X1.here hx rfl (hb hby at_76) rfl ?_
      show Steps p.tables e below (T1.setTop (mkF m 78 #[.val (.int x0), .val (.int x1), .val (.int (0 : Int32)), .val (.ref u), .val (.int y1), .val (.int y2), .val (.int y3), .unset, .unset, .unset] [(.int y3), (.int y2), (.int y1), (.ref u)])) _
      exact kt
    obtain ⟨cq2, kq2, q2a, q2b, q2c⟩ := isOf hZ e1 E_u
    obtain ⟨_, _, ⟨T2, L2, k2, n2⟩, -, X2, ⟨Lc2, hQ2, l2, y2, z2⟩, st2⟩ := X1.virtualBack hx (y := (⟨"com/example/round_table/roundtable/engine/Table$Guard", "below", "(ZZZ)Lcom/example/round_table/roundtable/engine/Table$Guard;"⟩ : MethodName)) (z := (⟨"com/example/round_table/roundtable/engine/Table$Guard", "below", "(ZZZ)Lcom/example/round_table/roundtable/engine/Table$Guard;"⟩ : MethodName)) hown (mvT hZ (hw _ (List.mem_of_getElem? (i := 4) rfl))) (mvT hZ (hw _ (List.mem_of_getElem? (i := 5) rfl))) (notFace_of_selects (args := #[]) (mvT hZ (hw _ (List.mem_of_getElem? (i := 7) rfl)))) (mvT hZ (hw _ (List.mem_of_getElem? (i := 7) rfl))) (mvT hZ (hw _ (List.mem_of_getElem? (i := 6) rfl))) (by decide) (backOf (W := 0) (rm1 l Z a0 hw [] u y1 y2 y3 u g b h0 n0 Z0 S_u S_g S_b) hZ (hw _ (List.mem_of_getElem? (i := 8) rfl)) (hw _ (List.mem_of_getElem? (i := 2) rfl)) (by decide) (by decide)) q2a q2c (g := (mkF m 78 #[.val (.int x0), .val (.int x1), .val (.int (0 : Int32)), .val (.ref u), .val (.int y1), .val (.int y2), .val (.int y3), .unset, .unset, .unset] [(.int y3), (.int y2), (.int y1), (.ref u)])) rfl (by rw [hml]; rfl) (Steps.refl _) (argsL := [(.int y1), (.int y2), (.int y3)]) (rest := []) (lenOf pd_0 rfl) rfl (by show 2 * 0 + _ ≤ _; exact Nat.le_of_eq rfl) (hb hby at_78) (fun _ _ => ⟨rfl, e1, (by decide : 0 + 0 ≤ _), (by decide : 0 + 0 ≤ _)⟩)
    dsimp only [Pt.U, Pt.locs, Pt.cells, Pt.slots] at X2 l2 y2 z2 st2 hQ2
    subst l2 y2 z2
    obtain ⟨rfl, N2q, e2⟩ := hQ2
    have N2 := Fr.app N0 N2q
    refine RunsTo.of (T' := T2) (g' := (mkF m 81 #[.val (.int x0), .val (.int x1), .val (.int (0 : Int32)), .val (.ref u), .val (.int y1), .val (.int y2), .val (.int y3), .unset, .unset, .unset] [(.ref (own_below u g b u y1 y2 y3))])) (fun _ kt => st2.trans kt) ?_
    refine RunsTo.of (T' := T2) (g' := (mkF m 85 #[.val (.int x0), .val (.int x1), .val (.int (0 : Int32)), .val (.ref u), .val (.int y1), .val (.int y2), .val (.int y3), .val (.ref (own_below u g b u y1 y2 y3)), .unset, .unset] [(.int y2)])) (fun tgt_ kt => ?_) ?_
    · refine XS.astore X2.here hx rfl (hb hby at_81) rfl rfl (l' := #[.val (.int x0), .val (.int x1), .val (.int (0 : Int32)), .val (.ref u), .val (.int y1), .val (.int y2), .val (.int y3), .val (.ref (own_below u g b u y1 y2 y3)), .unset, .unset]) rfl ?_
      show Steps p.tables e below (T2.setTop (mkF m 83 #[.val (.int x0), .val (.int x1), .val (.int (0 : Int32)), .val (.ref u), .val (.int y1), .val (.int y2), .val (.int y3), .val (.ref (own_below u g b u y1 y2 y3)), .unset, .unset] [])) _
      refine XS.iload X2.here hx rfl (hb hby at_83) rfl ?_
      show Steps p.tables e below (T2.setTop (mkF m 85 #[.val (.int x0), .val (.int x1), .val (.int (0 : Int32)), .val (.ref u), .val (.int y1), .val (.int y2), .val (.int y3), .val (.ref (own_below u g b u y1 y2 y3)), .unset, .unset] [(.int y2)])) _
      exact kt
    obtain ⟨y4, hy4⟩ : ∃ z : Int32, z = (if y2 = (0 : Int32) then (if y3 = (0 : Int32) then (2 : Int32) else (if y1 = (0 : Int32) then (1 : Int32) else (0 : Int32))) else (2 : Int32)) := ⟨_, rfl⟩
    refine RunsTo.of (T' := T2) (g' := (mkF m 107 #[.val (.int x0), .val (.int x1), .val (.int (0 : Int32)), .val (.ref u), .val (.int y1), .val (.int y2), .val (.int y3), .val (.ref (own_below u g b u y1 y2 y3)), .unset, .unset] [(.int y4)])) (fun tgt_ kt => ?_) ?_
    · by_cases hc85d : y2 = (0 : Int32)
      · refine XS.ifNo X2.here hx rfl (hb hby at_85) rfl ((if0 _ _).trans (teq hc85d).2) ?_
        show Steps p.tables e below (T2.setTop (mkF m 88 #[.val (.int x0), .val (.int x1), .val (.int (0 : Int32)), .val (.ref u), .val (.int y1), .val (.int y2), .val (.int y3), .val (.ref (own_below u g b u y1 y2 y3)), .unset, .unset] [])) _
        refine XS.iload X2.here hx rfl (hb hby at_88) rfl ?_
        show Steps p.tables e below (T2.setTop (mkF m 90 #[.val (.int x0), .val (.int x1), .val (.int (0 : Int32)), .val (.ref u), .val (.int y1), .val (.int y2), .val (.int y3), .val (.ref (own_below u g b u y1 y2 y3)), .unset, .unset] [(.int y3)])) _
        by_cases hc90dy : y3 = (0 : Int32)
        · refine XS.ifNo X2.here hx rfl (hb hby at_90) rfl ((if0 _ _).trans (teq hc90dy).2) ?_
          show Steps p.tables e below (T2.setTop (mkF m 93 #[.val (.int x0), .val (.int x1), .val (.int (0 : Int32)), .val (.ref u), .val (.int y1), .val (.int y2), .val (.int y3), .val (.ref (own_below u g b u y1 y2 y3)), .unset, .unset] [])) _
          try rw [if_pos hc85d] at hy4
          try rw [if_pos hc90dy] at hy4
          rw [hy4] at kt
          refine XS.iconst X2.here hx rfl (hb hby at_93) ?_
          show Steps p.tables e below (T2.setTop (mkF m 94 #[.val (.int x0), .val (.int x1), .val (.int (0 : Int32)), .val (.ref u), .val (.int y1), .val (.int y2), .val (.int y3), .val (.ref (own_below u g b u y1 y2 y3)), .unset, .unset] [(.int (2 : Int32))])) _
          refine XS.goto X2.here hx rfl (pc0 := 94) (pc' := 107) rfl (hb hby at_94) (by decide) (by decide) ?_
          show Steps p.tables e below (T2.setTop (mkF m 107 #[.val (.int x0), .val (.int x1), .val (.int (0 : Int32)), .val (.ref u), .val (.int y1), .val (.int y2), .val (.int y3), .val (.ref (own_below u g b u y1 y2 y3)), .unset, .unset] [(.int (2 : Int32))])) _
          exact kt
        · refine XS.ifYes X2.here hx rfl (pc0 := 90) (pc' := 97) rfl (hb hby at_90) rfl ((if0 _ _).trans (feq hc90dy).2) (by decide) (by decide) ?_
          show Steps p.tables e below (T2.setTop (mkF m 97 #[.val (.int x0), .val (.int x1), .val (.int (0 : Int32)), .val (.ref u), .val (.int y1), .val (.int y2), .val (.int y3), .val (.ref (own_below u g b u y1 y2 y3)), .unset, .unset] [])) _
          refine XS.iload X2.here hx rfl (hb hby at_97) rfl ?_
          show Steps p.tables e below (T2.setTop (mkF m 99 #[.val (.int x0), .val (.int x1), .val (.int (0 : Int32)), .val (.ref u), .val (.int y1), .val (.int y2), .val (.int y3), .val (.ref (own_below u g b u y1 y2 y3)), .unset, .unset] [(.int y1)])) _
          by_cases hc99dyn : y1 = (0 : Int32)
          · refine XS.ifYes X2.here hx rfl (pc0 := 99) (pc' := 106) rfl (hb hby at_99) rfl ((if0 _ _).trans (teq hc99dyn).1) (by decide) (by decide) ?_
            show Steps p.tables e below (T2.setTop (mkF m 106 #[.val (.int x0), .val (.int x1), .val (.int (0 : Int32)), .val (.ref u), .val (.int y1), .val (.int y2), .val (.int y3), .val (.ref (own_below u g b u y1 y2 y3)), .unset, .unset] [])) _
            try rw [if_pos hc85d] at hy4
            try rw [if_neg hc90dy] at hy4
            try rw [if_pos hc99dyn] at hy4
            rw [hy4] at kt
            refine XS.iconst X2.here hx rfl (hb hby at_106) ?_
            show Steps p.tables e below (T2.setTop (mkF m 107 #[.val (.int x0), .val (.int x1), .val (.int (0 : Int32)), .val (.ref u), .val (.int y1), .val (.int y2), .val (.int y3), .val (.ref (own_below u g b u y1 y2 y3)), .unset, .unset] [(.int (1 : Int32))])) _
            exact kt
          · refine XS.ifNo X2.here hx rfl (hb hby at_99) rfl ((if0 _ _).trans (feq hc99dyn).1) ?_
            show Steps p.tables e below (T2.setTop (mkF m 102 #[.val (.int x0), .val (.int x1), .val (.int (0 : Int32)), .val (.ref u), .val (.int y1), .val (.int y2), .val (.int y3), .val (.ref (own_below u g b u y1 y2 y3)), .unset, .unset] [])) _
            try rw [if_pos hc85d] at hy4
            try rw [if_neg hc90dy] at hy4
            try rw [if_neg hc99dyn] at hy4
            rw [hy4] at kt
            refine XS.iconst X2.here hx rfl (hb hby at_102) ?_
            show Steps p.tables e below (T2.setTop (mkF m 103 #[.val (.int x0), .val (.int x1), .val (.int (0 : Int32)), .val (.ref u), .val (.int y1), .val (.int y2), .val (.int y3), .val (.ref (own_below u g b u y1 y2 y3)), .unset, .unset] [(.int (0 : Int32))])) _
            refine XS.goto X2.here hx rfl (pc0 := 103) (pc' := 107) rfl (hb hby at_103) (by decide) (by decide) ?_
            show Steps p.tables e below (T2.setTop (mkF m 107 #[.val (.int x0), .val (.int x1), .val (.int (0 : Int32)), .val (.ref u), .val (.int y1), .val (.int y2), .val (.int y3), .val (.ref (own_below u g b u y1 y2 y3)), .unset, .unset] [(.int (0 : Int32))])) _
            exact kt
      · refine XS.ifYes X2.here hx rfl (pc0 := 85) (pc' := 93) rfl (hb hby at_85) rfl ((if0 _ _).trans (feq hc85d).2) (by decide) (by decide) ?_
        show Steps p.tables e below (T2.setTop (mkF m 93 #[.val (.int x0), .val (.int x1), .val (.int (0 : Int32)), .val (.ref u), .val (.int y1), .val (.int y2), .val (.int y3), .val (.ref (own_below u g b u y1 y2 y3)), .unset, .unset] [])) _
        try rw [if_neg hc85d] at hy4
        rw [hy4] at kt
        refine XS.iconst X2.here hx rfl (hb hby at_93) ?_
        show Steps p.tables e below (T2.setTop (mkF m 94 #[.val (.int x0), .val (.int x1), .val (.int (0 : Int32)), .val (.ref u), .val (.int y1), .val (.int y2), .val (.int y3), .val (.ref (own_below u g b u y1 y2 y3)), .unset, .unset] [(.int (2 : Int32))])) _
        refine XS.goto X2.here hx rfl (pc0 := 94) (pc' := 107) rfl (hb hby at_94) (by decide) (by decide) ?_
        show Steps p.tables e below (T2.setTop (mkF m 107 #[.val (.int x0), .val (.int x1), .val (.int (0 : Int32)), .val (.ref u), .val (.int y1), .val (.int y2), .val (.int y3), .val (.ref (own_below u g b u y1 y2 y3)), .unset, .unset] [(.int (2 : Int32))])) _
        exact kt
    refine RunsTo.of (T' := T2) (g' := (mkF m 112 #[.val (.int x0), .val (.int x1), .val (.int (0 : Int32)), .val (.ref u), .val (.int y1), .val (.int y2), .val (.int y3), .val (.ref (own_below u g b u y1 y2 y3)), .val (.int y4), .unset] [(.int y4), (.int (0 : Int32))])) (fun tgt_ kt => ?_) ?_
    · refine XS.istore X2.here hx rfl (hb hby at_107) rfl (l' := #[.val (.int x0), .val (.int x1), .val (.int (0 : Int32)), .val (.ref u), .val (.int y1), .val (.int y2), .val (.int y3), .val (.ref (own_below u g b u y1 y2 y3)), .val (.int y4), .unset]) rfl ?_
      show Steps p.tables e below (T2.setTop (mkF m 109 #[.val (.int x0), .val (.int x1), .val (.int (0 : Int32)), .val (.ref u), .val (.int y1), .val (.int y2), .val (.int y3), .val (.ref (own_below u g b u y1 y2 y3)), .val (.int y4), .unset] [])) _
      refine XS.iloadN X2.here hx rfl (hb hby at_109) rfl ?_
      show Steps p.tables e below (T2.setTop (mkF m 110 #[.val (.int x0), .val (.int x1), .val (.int (0 : Int32)), .val (.ref u), .val (.int y1), .val (.int y2), .val (.int y3), .val (.ref (own_below u g b u y1 y2 y3)), .val (.int y4), .unset] [(.int (0 : Int32))])) _
      refine XS.iload X2.here hx rfl (hb hby at_110) rfl ?_
      show Steps p.tables e below (T2.setTop (mkF m 112 #[.val (.int x0), .val (.int x1), .val (.int (0 : Int32)), .val (.ref u), .val (.int y1), .val (.int y2), .val (.int y3), .val (.ref (own_below u g b u y1 y2 y3)), .val (.int y4), .unset] [(.int y4), (.int (0 : Int32))])) _
      exact kt
    obtain ⟨_, _, ⟨T3, L3, k3, n3⟩, -, X3, ⟨Lc3, hQ3, l3, y3, z3⟩, st3⟩ := Jvm.LawKit.callS X2 hx (y := (⟨"java/lang/Math", "max", "(II)I"⟩ : MethodName)) hown (mvT hZ (hw _ (List.mem_of_getElem? (i := 11) rfl))) (mvT hZ (hw _ (List.mem_of_getElem? (i := 12) rfl))) (mvT hZ (hw _ (List.mem_of_getElem? (i := 13) rfl))) (mvT hZ (hw _ (List.mem_of_getElem? (i := 14) rfl))) (by decide) (backOf (W := 0) (rm2 l Z a0 hw [] (0 : Int32) y4 h0 n0 Z0 ) hZ (hw _ (List.mem_of_getElem? (i := 14) rfl)) (hw _ (List.mem_of_getElem? (i := 13) rfl)) (by decide) (by decide)) (g := (mkF m 112 #[.val (.int x0), .val (.int x1), .val (.int (0 : Int32)), .val (.ref u), .val (.int y1), .val (.int y2), .val (.int y3), .val (.ref (own_below u g b u y1 y2 y3)), .val (.int y4), .unset] [(.int y4), (.int (0 : Int32))])) rfl (by rw [hml]; rfl) (argsL := [(.int (0 : Int32)), (.int y4)]) (rest := []) (lenOf pd_1 rfl) rfl (by show 2 * 0 + _ ≤ _; exact Nat.le_of_eq rfl) (hb hby at_112) (fun _ _ => ⟨rfl, e2, (by decide : 0 + 0 ≤ _), (by decide : 0 + 0 ≤ _)⟩)
    dsimp only [Pt.U, Pt.locs, Pt.cells, Pt.slots] at X3 l3 y3 z3 st3 hQ3
    subst l3 y3 z3
    obtain ⟨rfl, N3q, e3⟩ := hQ3
    have N3 := Fr.app N2 N3q
    refine RunsTo.of (T' := T3) (g' := (mkF m 115 #[.val (.int x0), .val (.int x1), .val (.int (0 : Int32)), .val (.ref u), .val (.int y1), .val (.int y2), .val (.int y3), .val (.ref (own_below u g b u y1 y2 y3)), .val (.int y4), .unset] [(.int (own_max (0 : Int32) y4))])) st3 ?_
    refine RunsTo.of (T' := T3) (g' := (mkF m 124 #[.val (.int x0), .val (.int x1), .val (.int (0 : Int32)), .val (.ref u), .val (.int y1), .val (.int y2), .val (.int y3), .val (.ref (own_below u g b u y1 y2 y3)), .val (.int y4), .val (.int (own_max (0 : Int32) y4))] [(.ref (own_below u g b u y1 y2 y3))])) (fun tgt_ kt => ?_) ?_
    · refine XS.istore X3.here hx rfl (hb hby at_115) rfl (l' := #[.val (.int x0), .val (.int x1), .val (.int (0 : Int32)), .val (.ref u), .val (.int y1), .val (.int y2), .val (.int y3), .val (.ref (own_below u g b u y1 y2 y3)), .val (.int y4), .val (.int (own_max (0 : Int32) y4))]) rfl ?_
      show Steps p.tables e below (T3.setTop (mkF m 117 #[.val (.int x0), .val (.int x1), .val (.int (0 : Int32)), .val (.ref u), .val (.int y1), .val (.int y2), .val (.int y3), .val (.ref (own_below u g b u y1 y2 y3)), .val (.int y4), .val (.int (own_max (0 : Int32) y4))] [])) _
      refine XS.aload X3.here hx rfl (hb hby at_117) rfl rfl ?_
      show Steps p.tables e below (T3.setTop (mkF m 119 #[.val (.int x0), .val (.int x1), .val (.int (0 : Int32)), .val (.ref u), .val (.int y1), .val (.int y2), .val (.int y3), .val (.ref (own_below u g b u y1 y2 y3)), .val (.int y4), .val (.int (own_max (0 : Int32) y4))] [(.ref (own_below u g b u y1 y2 y3))])) _
      refine XS.ifnullNo X3.here hx rfl (hb hby at_119) rfl ?_
      show Steps p.tables e below (T3.setTop (mkF m 122 #[.val (.int x0), .val (.int x1), .val (.int (0 : Int32)), .val (.ref u), .val (.int y1), .val (.int y2), .val (.int y3), .val (.ref (own_below u g b u y1 y2 y3)), .val (.int y4), .val (.int (own_max (0 : Int32) y4))] [])) _
      refine XS.aload X3.here hx rfl (hb hby at_122) rfl rfl ?_
      show Steps p.tables e below (T3.setTop (mkF m 124 #[.val (.int x0), .val (.int x1), .val (.int (0 : Int32)), .val (.ref u), .val (.int y1), .val (.int y2), .val (.int y3), .val (.ref (own_below u g b u y1 y2 y3)), .val (.int y4), .val (.int (own_max (0 : Int32) y4))] [(.ref (own_below u g b u y1 y2 y3))])) _
      exact kt
    obtain ⟨_, _, ⟨T4, L4, k4, n4⟩, -, X4, ⟨Lc4, hQ4, l4, y4, z4⟩, st4⟩ := Jvm.LawKit.callS X3 hx (y := (⟨"com/example/round_table/roundtable/engine/GuardBelowPinLaw", "rank", "(Lcom/example/round_table/roundtable/engine/Table$Guard;)I"⟩ : MethodName)) hown (mvT hZ (hw _ (List.mem_of_getElem? (i := 15) rfl))) (mvT hZ (hw _ (List.mem_of_getElem? (i := 16) rfl))) (mvT hZ (hw _ (List.mem_of_getElem? (i := 17) rfl))) (mvT hZ (hw _ (List.mem_of_getElem? (i := 18) rfl))) (by decide) (backOf (W := 0) (rm3 l Z a0 hw [] (own_below u g b u y1 y2 y3) u g b h0 n0 Z0 S_u S_g S_b) hZ (hw _ (List.mem_of_getElem? (i := 18) rfl)) (hw _ (List.mem_of_getElem? (i := 17) rfl)) (by decide) (by decide)) (g := (mkF m 124 #[.val (.int x0), .val (.int x1), .val (.int (0 : Int32)), .val (.ref u), .val (.int y1), .val (.int y2), .val (.int y3), .val (.ref (own_below u g b u y1 y2 y3)), .val (.int y4), .val (.int (own_max (0 : Int32) y4))] [(.ref (own_below u g b u y1 y2 y3))])) rfl (by rw [hml]; rfl) (argsL := [(.ref (own_below u g b u y1 y2 y3))]) (rest := []) (lenOf pd_2 rfl) rfl (by show 2 * 0 + _ ≤ _; exact Nat.le_of_eq rfl) (hb hby at_124) (fun _ _ => ⟨rfl, e3, (by decide : 0 + 0 ≤ _), (by decide : 0 + 0 ≤ _)⟩)
    dsimp only [Pt.U, Pt.locs, Pt.cells, Pt.slots] at X4 l4 y4 z4 st4 hQ4
    subst l4 y4 z4
    obtain ⟨rfl, N4q, e4⟩ := hQ4
    have N4 := Fr.app N3 N4q
    refine RunsTo.of (T' := T4) (g' := (mkF m 127 #[.val (.int x0), .val (.int x1), .val (.int (0 : Int32)), .val (.ref u), .val (.int y1), .val (.int y2), .val (.int y3), .val (.ref (own_below u g b u y1 y2 y3)), .val (.int y4), .val (.int (own_max (0 : Int32) y4))] [(.int (own_rank u g b (own_below u g b u y1 y2 y3)))])) st4 ?_
    refine RunsTo.of (T' := T4) (g' := (mkF m 129 #[.val (.int x0), .val (.int x1), .val (.int (0 : Int32)), .val (.ref u), .val (.int y1), .val (.int y2), .val (.int y3), .val (.ref (own_below u g b u y1 y2 y3)), .val (.int y4), .val (.int (own_max (0 : Int32) y4))] [(.int (own_max (0 : Int32) y4)), (.int (own_rank u g b (own_below u g b u y1 y2 y3)))])) (fun tgt_ kt => ?_) ?_
    · refine XS.iload X4.here hx rfl (hb hby at_127) rfl ?_
      show Steps p.tables e below (T4.setTop (mkF m 129 #[.val (.int x0), .val (.int x1), .val (.int (0 : Int32)), .val (.ref u), .val (.int y1), .val (.int y2), .val (.int y3), .val (.ref (own_below u g b u y1 y2 y3)), .val (.int y4), .val (.int (own_max (0 : Int32) y4))] [(.int (own_max (0 : Int32) y4)), (.int (own_rank u g b (own_below u g b u y1 y2 y3)))])) _
      exact kt
    have hlaw : own_rank u g b (own_below u g b u y1 y2 y3) = own_max (0 : Int32) y4 := by
      rw [hy4]
      clear hy1 hy2 hy3 hy4
      by_cases q1 : y1 = 0 <;> by_cases q2 : y2 = 0 <;> by_cases q3 : y3 = 0 <;> simp [own_rank, own_below, own_max, q1, q2, q3, ne_ug, ne_ub, ne_gb, Ne.symm ne_ug, Ne.symm ne_ub, Ne.symm ne_gb] <;> decide
    refine RunsTo.of (T' := T4) (g' := (mkF m 137 #[.val (.int x0), .val (.int x1), .val (.int (0 : Int32)), .val (.ref u), .val (.int y1), .val (.int y2), .val (.int y3), .val (.ref (own_below u g b u y1 y2 y3)), .val (.int y4), .val (.int (own_max (0 : Int32) y4))] [(.int (1 : Int32))])) (fun tgt_ kt => ?_) ?_
    · refine XS.icmpNo X4.here hx rfl (hb hby at_129) rfl (teq hlaw).2 ?_
      show Steps p.tables e below (T4.setTop (mkF m 132 #[.val (.int x0), .val (.int x1), .val (.int (0 : Int32)), .val (.ref u), .val (.int y1), .val (.int y2), .val (.int y3), .val (.ref (own_below u g b u y1 y2 y3)), .val (.int y4), .val (.int (own_max (0 : Int32) y4))] [])) _
      refine XS.iconst X4.here hx rfl (hb hby at_132) ?_
      show Steps p.tables e below (T4.setTop (mkF m 133 #[.val (.int x0), .val (.int x1), .val (.int (0 : Int32)), .val (.ref u), .val (.int y1), .val (.int y2), .val (.int y3), .val (.ref (own_below u g b u y1 y2 y3)), .val (.int y4), .val (.int (own_max (0 : Int32) y4))] [(.int (1 : Int32))])) _
      refine XS.goto X4.here hx rfl (pc0 := 133) (pc' := 137) rfl (hb hby at_133) (by decide) (by decide) ?_
      show Steps p.tables e below (T4.setTop (mkF m 137 #[.val (.int x0), .val (.int x1), .val (.int (0 : Int32)), .val (.ref u), .val (.int y1), .val (.int y2), .val (.int y3), .val (.ref (own_below u g b u y1 y2 y3)), .val (.int y4), .val (.int (own_max (0 : Int32) y4))] [(.int (1 : Int32))])) _
      exact kt
    refine RunsTo.retN X4 hx (t := .boolean) Bd.returns (by simp) Bd.notSynchronized (hb hby at_137) ?_ (by decide) (by decide)
    rw [e4]
    exact ⟨rfl, N4⟩
  · refine RunsTo.of (T' := s₁) (g' := (mkF m 22 #[.val (.int x0), .val (.int x1), .val (.int (1 : Int32)), .unset, .unset, .unset, .unset, .unset, .unset, .unset] [])) (fun tgt_ kt => ?_) ?_
    · refine XS.iloadN X0.here hx rfl (hb hby at_7) rfl ?_
      show Steps p.tables e below (s₁.setTop (mkF m 8 #[.val (.int x0), .val (.int x1), .val (.int (1 : Int32)), .unset, .unset, .unset, .unset, .unset, .unset, .unset] [(.int (1 : Int32))])) _
      refine XS.ifYes X0.here hx rfl (pc0 := 8) (pc' := 17) rfl (hb hby at_8) rfl ((if0 _ _).trans (feq (by decide)).2) (by decide) (by decide) ?_
      show Steps p.tables e below (s₁.setTop (mkF m 17 #[.val (.int x0), .val (.int x1), .val (.int (1 : Int32)), .unset, .unset, .unset, .unset, .unset, .unset, .unset] [])) _
      refine XS.iloadN X0.here hx rfl (hb hby at_17) rfl ?_
      show Steps p.tables e below (s₁.setTop (mkF m 18 #[.val (.int x0), .val (.int x1), .val (.int (1 : Int32)), .unset, .unset, .unset, .unset, .unset, .unset, .unset] [(.int (1 : Int32))])) _
      refine XS.iconst X0.here hx rfl (hb hby at_18) ?_
      show Steps p.tables e below (s₁.setTop (mkF m 19 #[.val (.int x0), .val (.int x1), .val (.int (1 : Int32)), .unset, .unset, .unset, .unset, .unset, .unset, .unset] [(.int (1 : Int32)), (.int (1 : Int32))])) _
      refine XS.icmpNo X0.here hx rfl (hb hby at_19) rfl (teq rfl).2 ?_
      show Steps p.tables e below (s₁.setTop (mkF m 22 #[.val (.int x0), .val (.int x1), .val (.int (1 : Int32)), .unset, .unset, .unset, .unset, .unset, .unset, .unset] [])) _
      exact kt
    obtain ⟨T5, X5, e5, st5⟩ := getS2 X0 hx hZ hown (host := "") (Or.inl (hw _ (List.mem_of_getElem? (i := 19) rfl))) Via.refl e0 S_g (g := (mkF m 22 #[.val (.int x0), .val (.int x1), .val (.int (1 : Int32)), .unset, .unset, .unset, .unset, .unset, .unset, .unset] [])) rfl (hb hby at_22)
    refine RunsTo.of (T' := T5) (g' := (mkF m 25 #[.val (.int x0), .val (.int x1), .val (.int (1 : Int32)), .unset, .unset, .unset, .unset, .unset, .unset, .unset] [(.ref g)])) st5 ?_
    refine RunsTo.of (T' := T5) (g' := (mkF m 35 #[.val (.int x0), .val (.int x1), .val (.int (1 : Int32)), .val (.ref g), .unset, .unset, .unset, .unset, .unset, .unset] [(.int (x1 &&& (1 : Int32)))])) (fun tgt_ kt => ?_) ?_
    · refine XS.goto X5.here hx rfl (pc0 := 25) (pc' := 31) rfl (hb hby at_25) (by decide) (by decide) ?_
      show Steps p.tables e below (T5.setTop (mkF m 31 #[.val (.int x0), .val (.int x1), .val (.int (1 : Int32)), .unset, .unset, .unset, .unset, .unset, .unset, .unset] [(.ref g)])) _
      refine XS.astoreN X5.here hx rfl (hb hby at_31) rfl rfl (l' := #[.val (.int x0), .val (.int x1), .val (.int (1 : Int32)), .val (.ref g), .unset, .unset, .unset, .unset, .unset, .unset]) rfl ?_
      show Steps p.tables e below (T5.setTop (mkF m 32 #[.val (.int x0), .val (.int x1), .val (.int (1 : Int32)), .val (.ref g), .unset, .unset, .unset, .unset, .unset, .unset] [])) _
      refine XS.iloadN X5.here hx rfl (hb hby at_32) rfl ?_
      show Steps p.tables e below (T5.setTop (mkF m 33 #[.val (.int x0), .val (.int x1), .val (.int (1 : Int32)), .val (.ref g), .unset, .unset, .unset, .unset, .unset, .unset] [(.int x1)])) _
      refine XS.iconst X5.here hx rfl (hb hby at_33) ?_
      show Steps p.tables e below (T5.setTop (mkF m 34 #[.val (.int x0), .val (.int x1), .val (.int (1 : Int32)), .val (.ref g), .unset, .unset, .unset, .unset, .unset, .unset] [(.int (1 : Int32)), (.int x1)])) _
      refine XS.iand X5.here hx rfl (hb hby at_34) rfl ?_
      show Steps p.tables e below (T5.setTop (mkF m 35 #[.val (.int x0), .val (.int x1), .val (.int (1 : Int32)), .val (.ref g), .unset, .unset, .unset, .unset, .unset, .unset] [(.int (x1 &&& (1 : Int32)))])) _
      exact kt
    obtain ⟨y1, hy1⟩ : ∃ z : Int32, z = (if (x1 &&& (1 : Int32)) = (0 : Int32) then (0 : Int32) else (1 : Int32)) := ⟨_, rfl⟩
    refine RunsTo.of (T' := T5) (g' := (mkF m 43 #[.val (.int x0), .val (.int x1), .val (.int (1 : Int32)), .val (.ref g), .unset, .unset, .unset, .unset, .unset, .unset] [(.int y1)])) (fun tgt_ kt => ?_) ?_
    · by_cases hc35a : (x1 &&& (1 : Int32)) = (0 : Int32)
      · refine XS.ifYes X5.here hx rfl (pc0 := 35) (pc' := 42) rfl (hb hby at_35) rfl ((if0 _ _).trans (teq hc35a).1) (by decide) (by decide) ?_
        show Steps p.tables e below (T5.setTop (mkF m 42 #[.val (.int x0), .val (.int x1), .val (.int (1 : Int32)), .val (.ref g), .unset, .unset, .unset, .unset, .unset, .unset] [])) _
        try rw [if_pos hc35a] at hy1
        rw [hy1] at kt
        refine XS.iconst X5.here hx rfl (hb hby at_42) ?_
        show Steps p.tables e below (T5.setTop (mkF m 43 #[.val (.int x0), .val (.int x1), .val (.int (1 : Int32)), .val (.ref g), .unset, .unset, .unset, .unset, .unset, .unset] [(.int (0 : Int32))])) _
        exact kt
      · refine XS.ifNo X5.here hx rfl (hb hby at_35) rfl ((if0 _ _).trans (feq hc35a).1) ?_
        show Steps p.tables e below (T5.setTop (mkF m 38 #[.val (.int x0), .val (.int x1), .val (.int (1 : Int32)), .val (.ref g), .unset, .unset, .unset, .unset, .unset, .unset] [])) _
        try rw [if_neg hc35a] at hy1
        rw [hy1] at kt
        refine XS.iconst X5.here hx rfl (hb hby at_38) ?_
        show Steps p.tables e below (T5.setTop (mkF m 39 #[.val (.int x0), .val (.int x1), .val (.int (1 : Int32)), .val (.ref g), .unset, .unset, .unset, .unset, .unset, .unset] [(.int (1 : Int32))])) _
        refine XS.goto X5.here hx rfl (pc0 := 39) (pc' := 43) rfl (hb hby at_39) (by decide) (by decide) ?_
        show Steps p.tables e below (T5.setTop (mkF m 43 #[.val (.int x0), .val (.int x1), .val (.int (1 : Int32)), .val (.ref g), .unset, .unset, .unset, .unset, .unset, .unset] [(.int (1 : Int32))])) _
        exact kt
    refine RunsTo.of (T' := T5) (g' := (mkF m 48 #[.val (.int x0), .val (.int x1), .val (.int (1 : Int32)), .val (.ref g), .val (.int y1), .unset, .unset, .unset, .unset, .unset] [(.int (x1 &&& (2 : Int32)))])) (fun tgt_ kt => ?_) ?_
    · refine XS.istore X5.here hx rfl (hb hby at_43) rfl (l' := #[.val (.int x0), .val (.int x1), .val (.int (1 : Int32)), .val (.ref g), .val (.int y1), .unset, .unset, .unset, .unset, .unset]) rfl ?_
      show Steps p.tables e below (T5.setTop (mkF m 45 #[.val (.int x0), .val (.int x1), .val (.int (1 : Int32)), .val (.ref g), .val (.int y1), .unset, .unset, .unset, .unset, .unset] [])) _
      refine XS.iloadN X5.here hx rfl (hb hby at_45) rfl ?_
      show Steps p.tables e below (T5.setTop (mkF m 46 #[.val (.int x0), .val (.int x1), .val (.int (1 : Int32)), .val (.ref g), .val (.int y1), .unset, .unset, .unset, .unset, .unset] [(.int x1)])) _
      refine XS.iconst X5.here hx rfl (hb hby at_46) ?_
      show Steps p.tables e below (T5.setTop (mkF m 47 #[.val (.int x0), .val (.int x1), .val (.int (1 : Int32)), .val (.ref g), .val (.int y1), .unset, .unset, .unset, .unset, .unset] [(.int (2 : Int32)), (.int x1)])) _
      refine XS.iand X5.here hx rfl (hb hby at_47) rfl ?_
      show Steps p.tables e below (T5.setTop (mkF m 48 #[.val (.int x0), .val (.int x1), .val (.int (1 : Int32)), .val (.ref g), .val (.int y1), .unset, .unset, .unset, .unset, .unset] [(.int (x1 &&& (2 : Int32)))])) _
      exact kt
    obtain ⟨y2, hy2⟩ : ∃ z : Int32, z = (if (x1 &&& (2 : Int32)) = (0 : Int32) then (0 : Int32) else (1 : Int32)) := ⟨_, rfl⟩
    refine RunsTo.of (T' := T5) (g' := (mkF m 56 #[.val (.int x0), .val (.int x1), .val (.int (1 : Int32)), .val (.ref g), .val (.int y1), .unset, .unset, .unset, .unset, .unset] [(.int y2)])) (fun tgt_ kt => ?_) ?_
    · by_cases hc48b : (x1 &&& (2 : Int32)) = (0 : Int32)
      · refine XS.ifYes X5.here hx rfl (pc0 := 48) (pc' := 55) rfl (hb hby at_48) rfl ((if0 _ _).trans (teq hc48b).1) (by decide) (by decide) ?_
        show Steps p.tables e below (T5.setTop (mkF m 55 #[.val (.int x0), .val (.int x1), .val (.int (1 : Int32)), .val (.ref g), .val (.int y1), .unset, .unset, .unset, .unset, .unset] [])) _
        try rw [if_pos hc48b] at hy2
        rw [hy2] at kt
        refine XS.iconst X5.here hx rfl (hb hby at_55) ?_
        show Steps p.tables e below (T5.setTop (mkF m 56 #[.val (.int x0), .val (.int x1), .val (.int (1 : Int32)), .val (.ref g), .val (.int y1), .unset, .unset, .unset, .unset, .unset] [(.int (0 : Int32))])) _
        exact kt
      · refine XS.ifNo X5.here hx rfl (hb hby at_48) rfl ((if0 _ _).trans (feq hc48b).1) ?_
        show Steps p.tables e below (T5.setTop (mkF m 51 #[.val (.int x0), .val (.int x1), .val (.int (1 : Int32)), .val (.ref g), .val (.int y1), .unset, .unset, .unset, .unset, .unset] [])) _
        try rw [if_neg hc48b] at hy2
        rw [hy2] at kt
        refine XS.iconst X5.here hx rfl (hb hby at_51) ?_
        show Steps p.tables e below (T5.setTop (mkF m 52 #[.val (.int x0), .val (.int x1), .val (.int (1 : Int32)), .val (.ref g), .val (.int y1), .unset, .unset, .unset, .unset, .unset] [(.int (1 : Int32))])) _
        refine XS.goto X5.here hx rfl (pc0 := 52) (pc' := 56) rfl (hb hby at_52) (by decide) (by decide) ?_
        show Steps p.tables e below (T5.setTop (mkF m 56 #[.val (.int x0), .val (.int x1), .val (.int (1 : Int32)), .val (.ref g), .val (.int y1), .unset, .unset, .unset, .unset, .unset] [(.int (1 : Int32))])) _
        exact kt
    refine RunsTo.of (T' := T5) (g' := (mkF m 61 #[.val (.int x0), .val (.int x1), .val (.int (1 : Int32)), .val (.ref g), .val (.int y1), .val (.int y2), .unset, .unset, .unset, .unset] [(.int (x1 &&& (4 : Int32)))])) (fun tgt_ kt => ?_) ?_
    · refine XS.istore X5.here hx rfl (hb hby at_56) rfl (l' := #[.val (.int x0), .val (.int x1), .val (.int (1 : Int32)), .val (.ref g), .val (.int y1), .val (.int y2), .unset, .unset, .unset, .unset]) rfl ?_
      show Steps p.tables e below (T5.setTop (mkF m 58 #[.val (.int x0), .val (.int x1), .val (.int (1 : Int32)), .val (.ref g), .val (.int y1), .val (.int y2), .unset, .unset, .unset, .unset] [])) _
      refine XS.iloadN X5.here hx rfl (hb hby at_58) rfl ?_
      show Steps p.tables e below (T5.setTop (mkF m 59 #[.val (.int x0), .val (.int x1), .val (.int (1 : Int32)), .val (.ref g), .val (.int y1), .val (.int y2), .unset, .unset, .unset, .unset] [(.int x1)])) _
      refine XS.iconst X5.here hx rfl (hb hby at_59) ?_
      show Steps p.tables e below (T5.setTop (mkF m 60 #[.val (.int x0), .val (.int x1), .val (.int (1 : Int32)), .val (.ref g), .val (.int y1), .val (.int y2), .unset, .unset, .unset, .unset] [(.int (4 : Int32)), (.int x1)])) _
      refine XS.iand X5.here hx rfl (hb hby at_60) rfl ?_
      show Steps p.tables e below (T5.setTop (mkF m 61 #[.val (.int x0), .val (.int x1), .val (.int (1 : Int32)), .val (.ref g), .val (.int y1), .val (.int y2), .unset, .unset, .unset, .unset] [(.int (x1 &&& (4 : Int32)))])) _
      exact kt
    obtain ⟨y3, hy3⟩ : ∃ z : Int32, z = (if (x1 &&& (4 : Int32)) = (0 : Int32) then (0 : Int32) else (1 : Int32)) := ⟨_, rfl⟩
    refine RunsTo.of (T' := T5) (g' := (mkF m 69 #[.val (.int x0), .val (.int x1), .val (.int (1 : Int32)), .val (.ref g), .val (.int y1), .val (.int y2), .unset, .unset, .unset, .unset] [(.int y3)])) (fun tgt_ kt => ?_) ?_
    · by_cases hc61c : (x1 &&& (4 : Int32)) = (0 : Int32)
      · refine XS.ifYes X5.here hx rfl (pc0 := 61) (pc' := 68) rfl (hb hby at_61) rfl ((if0 _ _).trans (teq hc61c).1) (by decide) (by decide) ?_
        show Steps p.tables e below (T5.setTop (mkF m 68 #[.val (.int x0), .val (.int x1), .val (.int (1 : Int32)), .val (.ref g), .val (.int y1), .val (.int y2), .unset, .unset, .unset, .unset] [])) _
        try rw [if_pos hc61c] at hy3
        rw [hy3] at kt
        refine XS.iconst X5.here hx rfl (hb hby at_68) ?_
        show Steps p.tables e below (T5.setTop (mkF m 69 #[.val (.int x0), .val (.int x1), .val (.int (1 : Int32)), .val (.ref g), .val (.int y1), .val (.int y2), .unset, .unset, .unset, .unset] [(.int (0 : Int32))])) _
        exact kt
      · refine XS.ifNo X5.here hx rfl (hb hby at_61) rfl ((if0 _ _).trans (feq hc61c).1) ?_
        show Steps p.tables e below (T5.setTop (mkF m 64 #[.val (.int x0), .val (.int x1), .val (.int (1 : Int32)), .val (.ref g), .val (.int y1), .val (.int y2), .unset, .unset, .unset, .unset] [])) _
        try rw [if_neg hc61c] at hy3
        rw [hy3] at kt
        refine XS.iconst X5.here hx rfl (hb hby at_64) ?_
        show Steps p.tables e below (T5.setTop (mkF m 65 #[.val (.int x0), .val (.int x1), .val (.int (1 : Int32)), .val (.ref g), .val (.int y1), .val (.int y2), .unset, .unset, .unset, .unset] [(.int (1 : Int32))])) _
        refine XS.goto X5.here hx rfl (pc0 := 65) (pc' := 69) rfl (hb hby at_65) (by decide) (by decide) ?_
        show Steps p.tables e below (T5.setTop (mkF m 69 #[.val (.int x0), .val (.int x1), .val (.int (1 : Int32)), .val (.ref g), .val (.int y1), .val (.int y2), .unset, .unset, .unset, .unset] [(.int (1 : Int32))])) _
        exact kt
    refine RunsTo.of (T' := T5) (g' := (mkF m 78 #[.val (.int x0), .val (.int x1), .val (.int (1 : Int32)), .val (.ref g), .val (.int y1), .val (.int y2), .val (.int y3), .unset, .unset, .unset] [(.int y3), (.int y2), (.int y1), (.ref g)])) (fun tgt_ kt => ?_) ?_
    · refine XS.istore X5.here hx rfl (hb hby at_69) rfl (l' := #[.val (.int x0), .val (.int x1), .val (.int (1 : Int32)), .val (.ref g), .val (.int y1), .val (.int y2), .val (.int y3), .unset, .unset, .unset]) rfl ?_
      show Steps p.tables e below (T5.setTop (mkF m 71 #[.val (.int x0), .val (.int x1), .val (.int (1 : Int32)), .val (.ref g), .val (.int y1), .val (.int y2), .val (.int y3), .unset, .unset, .unset] [])) _
      refine XS.aloadN X5.here hx rfl (hb hby at_71) rfl rfl ?_
      show Steps p.tables e below (T5.setTop (mkF m 72 #[.val (.int x0), .val (.int x1), .val (.int (1 : Int32)), .val (.ref g), .val (.int y1), .val (.int y2), .val (.int y3), .unset, .unset, .unset] [(.ref g)])) _
      refine XS.iload X5.here hx rfl (hb hby at_72) rfl ?_
      show Steps p.tables e below (T5.setTop (mkF m 74 #[.val (.int x0), .val (.int x1), .val (.int (1 : Int32)), .val (.ref g), .val (.int y1), .val (.int y2), .val (.int y3), .unset, .unset, .unset] [(.int y1), (.ref g)])) _
      refine XS.iload X5.here hx rfl (hb hby at_74) rfl ?_
      show Steps p.tables e below (T5.setTop (mkF m 76 #[.val (.int x0), .val (.int x1), .val (.int (1 : Int32)), .val (.ref g), .val (.int y1), .val (.int y2), .val (.int y3), .unset, .unset, .unset] [(.int y2), (.int y1), (.ref g)])) _
      refine XS.iload X5.here hx rfl (hb hby at_76) rfl ?_
      show Steps p.tables e below (T5.setTop (mkF m 78 #[.val (.int x0), .val (.int x1), .val (.int (1 : Int32)), .val (.ref g), .val (.int y1), .val (.int y2), .val (.int y3), .unset, .unset, .unset] [(.int y3), (.int y2), (.int y1), (.ref g)])) _
      exact kt
    obtain ⟨cq6, kq6, q6a, q6b, q6c⟩ := isOf hZ e5 E_g
    obtain ⟨_, _, ⟨T6, L6, k6, n6⟩, -, X6, ⟨Lc6, hQ6, l6, y6, z6⟩, st6⟩ := X5.virtualBack hx (y := (⟨"com/example/round_table/roundtable/engine/Table$Guard", "below", "(ZZZ)Lcom/example/round_table/roundtable/engine/Table$Guard;"⟩ : MethodName)) (z := (⟨"com/example/round_table/roundtable/engine/Table$Guard", "below", "(ZZZ)Lcom/example/round_table/roundtable/engine/Table$Guard;"⟩ : MethodName)) hown (mvT hZ (hw _ (List.mem_of_getElem? (i := 4) rfl))) (mvT hZ (hw _ (List.mem_of_getElem? (i := 5) rfl))) (notFace_of_selects (args := #[]) (mvT hZ (hw _ (List.mem_of_getElem? (i := 7) rfl)))) (mvT hZ (hw _ (List.mem_of_getElem? (i := 7) rfl))) (mvT hZ (hw _ (List.mem_of_getElem? (i := 6) rfl))) (by decide) (backOf (W := 0) (rm1 l Z a0 hw [] g y1 y2 y3 u g b h0 n0 Z0 S_u S_g S_b) hZ (hw _ (List.mem_of_getElem? (i := 8) rfl)) (hw _ (List.mem_of_getElem? (i := 2) rfl)) (by decide) (by decide)) q6a q6c (g := (mkF m 78 #[.val (.int x0), .val (.int x1), .val (.int (1 : Int32)), .val (.ref g), .val (.int y1), .val (.int y2), .val (.int y3), .unset, .unset, .unset] [(.int y3), (.int y2), (.int y1), (.ref g)])) rfl (by rw [hml]; rfl) (Steps.refl _) (argsL := [(.int y1), (.int y2), (.int y3)]) (rest := []) (lenOf pd_0 rfl) rfl (by show 2 * 0 + _ ≤ _; exact Nat.le_of_eq rfl) (hb hby at_78) (fun _ _ => ⟨rfl, e5, (by decide : 0 + 0 ≤ _), (by decide : 0 + 0 ≤ _)⟩)
    dsimp only [Pt.U, Pt.locs, Pt.cells, Pt.slots] at X6 l6 y6 z6 st6 hQ6
    subst l6 y6 z6
    obtain ⟨rfl, N6q, e6⟩ := hQ6
    have N6 := Fr.app N0 N6q
    refine RunsTo.of (T' := T6) (g' := (mkF m 81 #[.val (.int x0), .val (.int x1), .val (.int (1 : Int32)), .val (.ref g), .val (.int y1), .val (.int y2), .val (.int y3), .unset, .unset, .unset] [(.ref (own_below u g b g y1 y2 y3))])) (fun _ kt => st6.trans kt) ?_
    refine RunsTo.of (T' := T6) (g' := (mkF m 85 #[.val (.int x0), .val (.int x1), .val (.int (1 : Int32)), .val (.ref g), .val (.int y1), .val (.int y2), .val (.int y3), .val (.ref (own_below u g b g y1 y2 y3)), .unset, .unset] [(.int y2)])) (fun tgt_ kt => ?_) ?_
    · refine XS.astore X6.here hx rfl (hb hby at_81) rfl rfl (l' := #[.val (.int x0), .val (.int x1), .val (.int (1 : Int32)), .val (.ref g), .val (.int y1), .val (.int y2), .val (.int y3), .val (.ref (own_below u g b g y1 y2 y3)), .unset, .unset]) rfl ?_
      show Steps p.tables e below (T6.setTop (mkF m 83 #[.val (.int x0), .val (.int x1), .val (.int (1 : Int32)), .val (.ref g), .val (.int y1), .val (.int y2), .val (.int y3), .val (.ref (own_below u g b g y1 y2 y3)), .unset, .unset] [])) _
      refine XS.iload X6.here hx rfl (hb hby at_83) rfl ?_
      show Steps p.tables e below (T6.setTop (mkF m 85 #[.val (.int x0), .val (.int x1), .val (.int (1 : Int32)), .val (.ref g), .val (.int y1), .val (.int y2), .val (.int y3), .val (.ref (own_below u g b g y1 y2 y3)), .unset, .unset] [(.int y2)])) _
      exact kt
    obtain ⟨y4, hy4⟩ : ∃ z : Int32, z = (if y2 = (0 : Int32) then (if y3 = (0 : Int32) then (2 : Int32) else (if y1 = (0 : Int32) then (1 : Int32) else (0 : Int32))) else (2 : Int32)) := ⟨_, rfl⟩
    refine RunsTo.of (T' := T6) (g' := (mkF m 107 #[.val (.int x0), .val (.int x1), .val (.int (1 : Int32)), .val (.ref g), .val (.int y1), .val (.int y2), .val (.int y3), .val (.ref (own_below u g b g y1 y2 y3)), .unset, .unset] [(.int y4)])) (fun tgt_ kt => ?_) ?_
    · by_cases hc85d : y2 = (0 : Int32)
      · refine XS.ifNo X6.here hx rfl (hb hby at_85) rfl ((if0 _ _).trans (teq hc85d).2) ?_
        show Steps p.tables e below (T6.setTop (mkF m 88 #[.val (.int x0), .val (.int x1), .val (.int (1 : Int32)), .val (.ref g), .val (.int y1), .val (.int y2), .val (.int y3), .val (.ref (own_below u g b g y1 y2 y3)), .unset, .unset] [])) _
        refine XS.iload X6.here hx rfl (hb hby at_88) rfl ?_
        show Steps p.tables e below (T6.setTop (mkF m 90 #[.val (.int x0), .val (.int x1), .val (.int (1 : Int32)), .val (.ref g), .val (.int y1), .val (.int y2), .val (.int y3), .val (.ref (own_below u g b g y1 y2 y3)), .unset, .unset] [(.int y3)])) _
        by_cases hc90dy : y3 = (0 : Int32)
        · refine XS.ifNo X6.here hx rfl (hb hby at_90) rfl ((if0 _ _).trans (teq hc90dy).2) ?_
          show Steps p.tables e below (T6.setTop (mkF m 93 #[.val (.int x0), .val (.int x1), .val (.int (1 : Int32)), .val (.ref g), .val (.int y1), .val (.int y2), .val (.int y3), .val (.ref (own_below u g b g y1 y2 y3)), .unset, .unset] [])) _
          try rw [if_pos hc85d] at hy4
          try rw [if_pos hc90dy] at hy4
          rw [hy4] at kt
          refine XS.iconst X6.here hx rfl (hb hby at_93) ?_
          show Steps p.tables e below (T6.setTop (mkF m 94 #[.val (.int x0), .val (.int x1), .val (.int (1 : Int32)), .val (.ref g), .val (.int y1), .val (.int y2), .val (.int y3), .val (.ref (own_below u g b g y1 y2 y3)), .unset, .unset] [(.int (2 : Int32))])) _
          refine XS.goto X6.here hx rfl (pc0 := 94) (pc' := 107) rfl (hb hby at_94) (by decide) (by decide) ?_
          show Steps p.tables e below (T6.setTop (mkF m 107 #[.val (.int x0), .val (.int x1), .val (.int (1 : Int32)), .val (.ref g), .val (.int y1), .val (.int y2), .val (.int y3), .val (.ref (own_below u g b g y1 y2 y3)), .unset, .unset] [(.int (2 : Int32))])) _
          exact kt
        · refine XS.ifYes X6.here hx rfl (pc0 := 90) (pc' := 97) rfl (hb hby at_90) rfl ((if0 _ _).trans (feq hc90dy).2) (by decide) (by decide) ?_
          show Steps p.tables e below (T6.setTop (mkF m 97 #[.val (.int x0), .val (.int x1), .val (.int (1 : Int32)), .val (.ref g), .val (.int y1), .val (.int y2), .val (.int y3), .val (.ref (own_below u g b g y1 y2 y3)), .unset, .unset] [])) _
          refine XS.iload X6.here hx rfl (hb hby at_97) rfl ?_
          show Steps p.tables e below (T6.setTop (mkF m 99 #[.val (.int x0), .val (.int x1), .val (.int (1 : Int32)), .val (.ref g), .val (.int y1), .val (.int y2), .val (.int y3), .val (.ref (own_below u g b g y1 y2 y3)), .unset, .unset] [(.int y1)])) _
          by_cases hc99dyn : y1 = (0 : Int32)
          · refine XS.ifYes X6.here hx rfl (pc0 := 99) (pc' := 106) rfl (hb hby at_99) rfl ((if0 _ _).trans (teq hc99dyn).1) (by decide) (by decide) ?_
            show Steps p.tables e below (T6.setTop (mkF m 106 #[.val (.int x0), .val (.int x1), .val (.int (1 : Int32)), .val (.ref g), .val (.int y1), .val (.int y2), .val (.int y3), .val (.ref (own_below u g b g y1 y2 y3)), .unset, .unset] [])) _
            try rw [if_pos hc85d] at hy4
            try rw [if_neg hc90dy] at hy4
            try rw [if_pos hc99dyn] at hy4
            rw [hy4] at kt
            refine XS.iconst X6.here hx rfl (hb hby at_106) ?_
            show Steps p.tables e below (T6.setTop (mkF m 107 #[.val (.int x0), .val (.int x1), .val (.int (1 : Int32)), .val (.ref g), .val (.int y1), .val (.int y2), .val (.int y3), .val (.ref (own_below u g b g y1 y2 y3)), .unset, .unset] [(.int (1 : Int32))])) _
            exact kt
          · refine XS.ifNo X6.here hx rfl (hb hby at_99) rfl ((if0 _ _).trans (feq hc99dyn).1) ?_
            show Steps p.tables e below (T6.setTop (mkF m 102 #[.val (.int x0), .val (.int x1), .val (.int (1 : Int32)), .val (.ref g), .val (.int y1), .val (.int y2), .val (.int y3), .val (.ref (own_below u g b g y1 y2 y3)), .unset, .unset] [])) _
            try rw [if_pos hc85d] at hy4
            try rw [if_neg hc90dy] at hy4
            try rw [if_neg hc99dyn] at hy4
            rw [hy4] at kt
            refine XS.iconst X6.here hx rfl (hb hby at_102) ?_
            show Steps p.tables e below (T6.setTop (mkF m 103 #[.val (.int x0), .val (.int x1), .val (.int (1 : Int32)), .val (.ref g), .val (.int y1), .val (.int y2), .val (.int y3), .val (.ref (own_below u g b g y1 y2 y3)), .unset, .unset] [(.int (0 : Int32))])) _
            refine XS.goto X6.here hx rfl (pc0 := 103) (pc' := 107) rfl (hb hby at_103) (by decide) (by decide) ?_
            show Steps p.tables e below (T6.setTop (mkF m 107 #[.val (.int x0), .val (.int x1), .val (.int (1 : Int32)), .val (.ref g), .val (.int y1), .val (.int y2), .val (.int y3), .val (.ref (own_below u g b g y1 y2 y3)), .unset, .unset] [(.int (0 : Int32))])) _
            exact kt
      · refine XS.ifYes X6.here hx rfl (pc0 := 85) (pc' := 93) rfl (hb hby at_85) rfl ((if0 _ _).trans (feq hc85d).2) (by decide) (by decide) ?_
        show Steps p.tables e below (T6.setTop (mkF m 93 #[.val (.int x0), .val (.int x1), .val (.int (1 : Int32)), .val (.ref g), .val (.int y1), .val (.int y2), .val (.int y3), .val (.ref (own_below u g b g y1 y2 y3)), .unset, .unset] [])) _
        try rw [if_neg hc85d] at hy4
        rw [hy4] at kt
        refine XS.iconst X6.here hx rfl (hb hby at_93) ?_
        show Steps p.tables e below (T6.setTop (mkF m 94 #[.val (.int x0), .val (.int x1), .val (.int (1 : Int32)), .val (.ref g), .val (.int y1), .val (.int y2), .val (.int y3), .val (.ref (own_below u g b g y1 y2 y3)), .unset, .unset] [(.int (2 : Int32))])) _
        refine XS.goto X6.here hx rfl (pc0 := 94) (pc' := 107) rfl (hb hby at_94) (by decide) (by decide) ?_
        show Steps p.tables e below (T6.setTop (mkF m 107 #[.val (.int x0), .val (.int x1), .val (.int (1 : Int32)), .val (.ref g), .val (.int y1), .val (.int y2), .val (.int y3), .val (.ref (own_below u g b g y1 y2 y3)), .unset, .unset] [(.int (2 : Int32))])) _
        exact kt
    refine RunsTo.of (T' := T6) (g' := (mkF m 112 #[.val (.int x0), .val (.int x1), .val (.int (1 : Int32)), .val (.ref g), .val (.int y1), .val (.int y2), .val (.int y3), .val (.ref (own_below u g b g y1 y2 y3)), .val (.int y4), .unset] [(.int y4), (.int (1 : Int32))])) (fun tgt_ kt => ?_) ?_
    · refine XS.istore X6.here hx rfl (hb hby at_107) rfl (l' := #[.val (.int x0), .val (.int x1), .val (.int (1 : Int32)), .val (.ref g), .val (.int y1), .val (.int y2), .val (.int y3), .val (.ref (own_below u g b g y1 y2 y3)), .val (.int y4), .unset]) rfl ?_
      show Steps p.tables e below (T6.setTop (mkF m 109 #[.val (.int x0), .val (.int x1), .val (.int (1 : Int32)), .val (.ref g), .val (.int y1), .val (.int y2), .val (.int y3), .val (.ref (own_below u g b g y1 y2 y3)), .val (.int y4), .unset] [])) _
      refine XS.iloadN X6.here hx rfl (hb hby at_109) rfl ?_
      show Steps p.tables e below (T6.setTop (mkF m 110 #[.val (.int x0), .val (.int x1), .val (.int (1 : Int32)), .val (.ref g), .val (.int y1), .val (.int y2), .val (.int y3), .val (.ref (own_below u g b g y1 y2 y3)), .val (.int y4), .unset] [(.int (1 : Int32))])) _
      refine XS.iload X6.here hx rfl (hb hby at_110) rfl ?_
      show Steps p.tables e below (T6.setTop (mkF m 112 #[.val (.int x0), .val (.int x1), .val (.int (1 : Int32)), .val (.ref g), .val (.int y1), .val (.int y2), .val (.int y3), .val (.ref (own_below u g b g y1 y2 y3)), .val (.int y4), .unset] [(.int y4), (.int (1 : Int32))])) _
      exact kt
    obtain ⟨_, _, ⟨T7, L7, k7, n7⟩, -, X7, ⟨Lc7, hQ7, l7, y7, z7⟩, st7⟩ := Jvm.LawKit.callS X6 hx (y := (⟨"java/lang/Math", "max", "(II)I"⟩ : MethodName)) hown (mvT hZ (hw _ (List.mem_of_getElem? (i := 11) rfl))) (mvT hZ (hw _ (List.mem_of_getElem? (i := 12) rfl))) (mvT hZ (hw _ (List.mem_of_getElem? (i := 13) rfl))) (mvT hZ (hw _ (List.mem_of_getElem? (i := 14) rfl))) (by decide) (backOf (W := 0) (rm2 l Z a0 hw [] (1 : Int32) y4 h0 n0 Z0 ) hZ (hw _ (List.mem_of_getElem? (i := 14) rfl)) (hw _ (List.mem_of_getElem? (i := 13) rfl)) (by decide) (by decide)) (g := (mkF m 112 #[.val (.int x0), .val (.int x1), .val (.int (1 : Int32)), .val (.ref g), .val (.int y1), .val (.int y2), .val (.int y3), .val (.ref (own_below u g b g y1 y2 y3)), .val (.int y4), .unset] [(.int y4), (.int (1 : Int32))])) rfl (by rw [hml]; rfl) (argsL := [(.int (1 : Int32)), (.int y4)]) (rest := []) (lenOf pd_1 rfl) rfl (by show 2 * 0 + _ ≤ _; exact Nat.le_of_eq rfl) (hb hby at_112) (fun _ _ => ⟨rfl, e6, (by decide : 0 + 0 ≤ _), (by decide : 0 + 0 ≤ _)⟩)
    dsimp only [Pt.U, Pt.locs, Pt.cells, Pt.slots] at X7 l7 y7 z7 st7 hQ7
    subst l7 y7 z7
    obtain ⟨rfl, N7q, e7⟩ := hQ7
    have N7 := Fr.app N6 N7q
    refine RunsTo.of (T' := T7) (g' := (mkF m 115 #[.val (.int x0), .val (.int x1), .val (.int (1 : Int32)), .val (.ref g), .val (.int y1), .val (.int y2), .val (.int y3), .val (.ref (own_below u g b g y1 y2 y3)), .val (.int y4), .unset] [(.int (own_max (1 : Int32) y4))])) st7 ?_
    refine RunsTo.of (T' := T7) (g' := (mkF m 124 #[.val (.int x0), .val (.int x1), .val (.int (1 : Int32)), .val (.ref g), .val (.int y1), .val (.int y2), .val (.int y3), .val (.ref (own_below u g b g y1 y2 y3)), .val (.int y4), .val (.int (own_max (1 : Int32) y4))] [(.ref (own_below u g b g y1 y2 y3))])) (fun tgt_ kt => ?_) ?_
    · refine XS.istore X7.here hx rfl (hb hby at_115) rfl (l' := #[.val (.int x0), .val (.int x1), .val (.int (1 : Int32)), .val (.ref g), .val (.int y1), .val (.int y2), .val (.int y3), .val (.ref (own_below u g b g y1 y2 y3)), .val (.int y4), .val (.int (own_max (1 : Int32) y4))]) rfl ?_
      show Steps p.tables e below (T7.setTop (mkF m 117 #[.val (.int x0), .val (.int x1), .val (.int (1 : Int32)), .val (.ref g), .val (.int y1), .val (.int y2), .val (.int y3), .val (.ref (own_below u g b g y1 y2 y3)), .val (.int y4), .val (.int (own_max (1 : Int32) y4))] [])) _
      refine XS.aload X7.here hx rfl (hb hby at_117) rfl rfl ?_
      show Steps p.tables e below (T7.setTop (mkF m 119 #[.val (.int x0), .val (.int x1), .val (.int (1 : Int32)), .val (.ref g), .val (.int y1), .val (.int y2), .val (.int y3), .val (.ref (own_below u g b g y1 y2 y3)), .val (.int y4), .val (.int (own_max (1 : Int32) y4))] [(.ref (own_below u g b g y1 y2 y3))])) _
      refine XS.ifnullNo X7.here hx rfl (hb hby at_119) rfl ?_
      show Steps p.tables e below (T7.setTop (mkF m 122 #[.val (.int x0), .val (.int x1), .val (.int (1 : Int32)), .val (.ref g), .val (.int y1), .val (.int y2), .val (.int y3), .val (.ref (own_below u g b g y1 y2 y3)), .val (.int y4), .val (.int (own_max (1 : Int32) y4))] [])) _
      refine XS.aload X7.here hx rfl (hb hby at_122) rfl rfl ?_
      show Steps p.tables e below (T7.setTop (mkF m 124 #[.val (.int x0), .val (.int x1), .val (.int (1 : Int32)), .val (.ref g), .val (.int y1), .val (.int y2), .val (.int y3), .val (.ref (own_below u g b g y1 y2 y3)), .val (.int y4), .val (.int (own_max (1 : Int32) y4))] [(.ref (own_below u g b g y1 y2 y3))])) _
      exact kt
    obtain ⟨_, _, ⟨T8, L8, k8, n8⟩, -, X8, ⟨Lc8, hQ8, l8, y8, z8⟩, st8⟩ := Jvm.LawKit.callS X7 hx (y := (⟨"com/example/round_table/roundtable/engine/GuardBelowPinLaw", "rank", "(Lcom/example/round_table/roundtable/engine/Table$Guard;)I"⟩ : MethodName)) hown (mvT hZ (hw _ (List.mem_of_getElem? (i := 15) rfl))) (mvT hZ (hw _ (List.mem_of_getElem? (i := 16) rfl))) (mvT hZ (hw _ (List.mem_of_getElem? (i := 17) rfl))) (mvT hZ (hw _ (List.mem_of_getElem? (i := 18) rfl))) (by decide) (backOf (W := 0) (rm3 l Z a0 hw [] (own_below u g b g y1 y2 y3) u g b h0 n0 Z0 S_u S_g S_b) hZ (hw _ (List.mem_of_getElem? (i := 18) rfl)) (hw _ (List.mem_of_getElem? (i := 17) rfl)) (by decide) (by decide)) (g := (mkF m 124 #[.val (.int x0), .val (.int x1), .val (.int (1 : Int32)), .val (.ref g), .val (.int y1), .val (.int y2), .val (.int y3), .val (.ref (own_below u g b g y1 y2 y3)), .val (.int y4), .val (.int (own_max (1 : Int32) y4))] [(.ref (own_below u g b g y1 y2 y3))])) rfl (by rw [hml]; rfl) (argsL := [(.ref (own_below u g b g y1 y2 y3))]) (rest := []) (lenOf pd_2 rfl) rfl (by show 2 * 0 + _ ≤ _; exact Nat.le_of_eq rfl) (hb hby at_124) (fun _ _ => ⟨rfl, e7, (by decide : 0 + 0 ≤ _), (by decide : 0 + 0 ≤ _)⟩)
    dsimp only [Pt.U, Pt.locs, Pt.cells, Pt.slots] at X8 l8 y8 z8 st8 hQ8
    subst l8 y8 z8
    obtain ⟨rfl, N8q, e8⟩ := hQ8
    have N8 := Fr.app N7 N8q
    refine RunsTo.of (T' := T8) (g' := (mkF m 127 #[.val (.int x0), .val (.int x1), .val (.int (1 : Int32)), .val (.ref g), .val (.int y1), .val (.int y2), .val (.int y3), .val (.ref (own_below u g b g y1 y2 y3)), .val (.int y4), .val (.int (own_max (1 : Int32) y4))] [(.int (own_rank u g b (own_below u g b g y1 y2 y3)))])) st8 ?_
    refine RunsTo.of (T' := T8) (g' := (mkF m 129 #[.val (.int x0), .val (.int x1), .val (.int (1 : Int32)), .val (.ref g), .val (.int y1), .val (.int y2), .val (.int y3), .val (.ref (own_below u g b g y1 y2 y3)), .val (.int y4), .val (.int (own_max (1 : Int32) y4))] [(.int (own_max (1 : Int32) y4)), (.int (own_rank u g b (own_below u g b g y1 y2 y3)))])) (fun tgt_ kt => ?_) ?_
    · refine XS.iload X8.here hx rfl (hb hby at_127) rfl ?_
      show Steps p.tables e below (T8.setTop (mkF m 129 #[.val (.int x0), .val (.int x1), .val (.int (1 : Int32)), .val (.ref g), .val (.int y1), .val (.int y2), .val (.int y3), .val (.ref (own_below u g b g y1 y2 y3)), .val (.int y4), .val (.int (own_max (1 : Int32) y4))] [(.int (own_max (1 : Int32) y4)), (.int (own_rank u g b (own_below u g b g y1 y2 y3)))])) _
      exact kt
    have hlaw : own_rank u g b (own_below u g b g y1 y2 y3) = own_max (1 : Int32) y4 := by
      rw [hy4]
      clear hy1 hy2 hy3 hy4
      by_cases q1 : y1 = 0 <;> by_cases q2 : y2 = 0 <;> by_cases q3 : y3 = 0 <;> simp [own_rank, own_below, own_max, q1, q2, q3, ne_ug, ne_ub, ne_gb, Ne.symm ne_ug, Ne.symm ne_ub, Ne.symm ne_gb] <;> decide
    refine RunsTo.of (T' := T8) (g' := (mkF m 137 #[.val (.int x0), .val (.int x1), .val (.int (1 : Int32)), .val (.ref g), .val (.int y1), .val (.int y2), .val (.int y3), .val (.ref (own_below u g b g y1 y2 y3)), .val (.int y4), .val (.int (own_max (1 : Int32) y4))] [(.int (1 : Int32))])) (fun tgt_ kt => ?_) ?_
    · refine XS.icmpNo X8.here hx rfl (hb hby at_129) rfl (teq hlaw).2 ?_
      show Steps p.tables e below (T8.setTop (mkF m 132 #[.val (.int x0), .val (.int x1), .val (.int (1 : Int32)), .val (.ref g), .val (.int y1), .val (.int y2), .val (.int y3), .val (.ref (own_below u g b g y1 y2 y3)), .val (.int y4), .val (.int (own_max (1 : Int32) y4))] [])) _
      refine XS.iconst X8.here hx rfl (hb hby at_132) ?_
      show Steps p.tables e below (T8.setTop (mkF m 133 #[.val (.int x0), .val (.int x1), .val (.int (1 : Int32)), .val (.ref g), .val (.int y1), .val (.int y2), .val (.int y3), .val (.ref (own_below u g b g y1 y2 y3)), .val (.int y4), .val (.int (own_max (1 : Int32) y4))] [(.int (1 : Int32))])) _
      refine XS.goto X8.here hx rfl (pc0 := 133) (pc' := 137) rfl (hb hby at_133) (by decide) (by decide) ?_
      show Steps p.tables e below (T8.setTop (mkF m 137 #[.val (.int x0), .val (.int x1), .val (.int (1 : Int32)), .val (.ref g), .val (.int y1), .val (.int y2), .val (.int y3), .val (.ref (own_below u g b g y1 y2 y3)), .val (.int y4), .val (.int (own_max (1 : Int32) y4))] [(.int (1 : Int32))])) _
      exact kt
    refine RunsTo.retN X8 hx (t := .boolean) Bd.returns (by simp) Bd.notSynchronized (hb hby at_137) ?_ (by decide) (by decide)
    rw [e8]
    exact ⟨rfl, N8⟩
  · refine RunsTo.of (T' := s₁) (g' := (mkF m 28 #[.val (.int x0), .val (.int x1), .val (.int (2 : Int32)), .unset, .unset, .unset, .unset, .unset, .unset, .unset] [])) (fun tgt_ kt => ?_) ?_
    · refine XS.iloadN X0.here hx rfl (hb hby at_7) rfl ?_
      show Steps p.tables e below (s₁.setTop (mkF m 8 #[.val (.int x0), .val (.int x1), .val (.int (2 : Int32)), .unset, .unset, .unset, .unset, .unset, .unset, .unset] [(.int (2 : Int32))])) _
      refine XS.ifYes X0.here hx rfl (pc0 := 8) (pc' := 17) rfl (hb hby at_8) rfl ((if0 _ _).trans (feq (by decide)).2) (by decide) (by decide) ?_
      show Steps p.tables e below (s₁.setTop (mkF m 17 #[.val (.int x0), .val (.int x1), .val (.int (2 : Int32)), .unset, .unset, .unset, .unset, .unset, .unset, .unset] [])) _
      refine XS.iloadN X0.here hx rfl (hb hby at_17) rfl ?_
      show Steps p.tables e below (s₁.setTop (mkF m 18 #[.val (.int x0), .val (.int x1), .val (.int (2 : Int32)), .unset, .unset, .unset, .unset, .unset, .unset, .unset] [(.int (2 : Int32))])) _
      refine XS.iconst X0.here hx rfl (hb hby at_18) ?_
      show Steps p.tables e below (s₁.setTop (mkF m 19 #[.val (.int x0), .val (.int x1), .val (.int (2 : Int32)), .unset, .unset, .unset, .unset, .unset, .unset, .unset] [(.int (1 : Int32)), (.int (2 : Int32))])) _
      refine XS.icmpYes X0.here hx rfl (pc0 := 19) (pc' := 28) rfl (hb hby at_19) rfl (feq (by decide)).2 (by decide) (by decide) ?_
      show Steps p.tables e below (s₁.setTop (mkF m 28 #[.val (.int x0), .val (.int x1), .val (.int (2 : Int32)), .unset, .unset, .unset, .unset, .unset, .unset, .unset] [])) _
      exact kt
    obtain ⟨T9, X9, e9, st9⟩ := getS2 X0 hx hZ hown (host := "") (Or.inl (hw _ (List.mem_of_getElem? (i := 21) rfl))) Via.refl e0 S_b (g := (mkF m 28 #[.val (.int x0), .val (.int x1), .val (.int (2 : Int32)), .unset, .unset, .unset, .unset, .unset, .unset, .unset] [])) rfl (hb hby at_28)
    refine RunsTo.of (T' := T9) (g' := (mkF m 31 #[.val (.int x0), .val (.int x1), .val (.int (2 : Int32)), .unset, .unset, .unset, .unset, .unset, .unset, .unset] [(.ref b)])) st9 ?_
    refine RunsTo.of (T' := T9) (g' := (mkF m 35 #[.val (.int x0), .val (.int x1), .val (.int (2 : Int32)), .val (.ref b), .unset, .unset, .unset, .unset, .unset, .unset] [(.int (x1 &&& (1 : Int32)))])) (fun tgt_ kt => ?_) ?_
    · refine XS.astoreN X9.here hx rfl (hb hby at_31) rfl rfl (l' := #[.val (.int x0), .val (.int x1), .val (.int (2 : Int32)), .val (.ref b), .unset, .unset, .unset, .unset, .unset, .unset]) rfl ?_
      show Steps p.tables e below (T9.setTop (mkF m 32 #[.val (.int x0), .val (.int x1), .val (.int (2 : Int32)), .val (.ref b), .unset, .unset, .unset, .unset, .unset, .unset] [])) _
      refine XS.iloadN X9.here hx rfl (hb hby at_32) rfl ?_
      show Steps p.tables e below (T9.setTop (mkF m 33 #[.val (.int x0), .val (.int x1), .val (.int (2 : Int32)), .val (.ref b), .unset, .unset, .unset, .unset, .unset, .unset] [(.int x1)])) _
      refine XS.iconst X9.here hx rfl (hb hby at_33) ?_
      show Steps p.tables e below (T9.setTop (mkF m 34 #[.val (.int x0), .val (.int x1), .val (.int (2 : Int32)), .val (.ref b), .unset, .unset, .unset, .unset, .unset, .unset] [(.int (1 : Int32)), (.int x1)])) _
      refine XS.iand X9.here hx rfl (hb hby at_34) rfl ?_
      show Steps p.tables e below (T9.setTop (mkF m 35 #[.val (.int x0), .val (.int x1), .val (.int (2 : Int32)), .val (.ref b), .unset, .unset, .unset, .unset, .unset, .unset] [(.int (x1 &&& (1 : Int32)))])) _
      exact kt
    obtain ⟨y1, hy1⟩ : ∃ z : Int32, z = (if (x1 &&& (1 : Int32)) = (0 : Int32) then (0 : Int32) else (1 : Int32)) := ⟨_, rfl⟩
    refine RunsTo.of (T' := T9) (g' := (mkF m 43 #[.val (.int x0), .val (.int x1), .val (.int (2 : Int32)), .val (.ref b), .unset, .unset, .unset, .unset, .unset, .unset] [(.int y1)])) (fun tgt_ kt => ?_) ?_
    · by_cases hc35a : (x1 &&& (1 : Int32)) = (0 : Int32)
      · refine XS.ifYes X9.here hx rfl (pc0 := 35) (pc' := 42) rfl (hb hby at_35) rfl ((if0 _ _).trans (teq hc35a).1) (by decide) (by decide) ?_
        show Steps p.tables e below (T9.setTop (mkF m 42 #[.val (.int x0), .val (.int x1), .val (.int (2 : Int32)), .val (.ref b), .unset, .unset, .unset, .unset, .unset, .unset] [])) _
        try rw [if_pos hc35a] at hy1
        rw [hy1] at kt
        refine XS.iconst X9.here hx rfl (hb hby at_42) ?_
        show Steps p.tables e below (T9.setTop (mkF m 43 #[.val (.int x0), .val (.int x1), .val (.int (2 : Int32)), .val (.ref b), .unset, .unset, .unset, .unset, .unset, .unset] [(.int (0 : Int32))])) _
        exact kt
      · refine XS.ifNo X9.here hx rfl (hb hby at_35) rfl ((if0 _ _).trans (feq hc35a).1) ?_
        show Steps p.tables e below (T9.setTop (mkF m 38 #[.val (.int x0), .val (.int x1), .val (.int (2 : Int32)), .val (.ref b), .unset, .unset, .unset, .unset, .unset, .unset] [])) _
        try rw [if_neg hc35a] at hy1
        rw [hy1] at kt
        refine XS.iconst X9.here hx rfl (hb hby at_38) ?_
        show Steps p.tables e below (T9.setTop (mkF m 39 #[.val (.int x0), .val (.int x1), .val (.int (2 : Int32)), .val (.ref b), .unset, .unset, .unset, .unset, .unset, .unset] [(.int (1 : Int32))])) _
        refine XS.goto X9.here hx rfl (pc0 := 39) (pc' := 43) rfl (hb hby at_39) (by decide) (by decide) ?_
        show Steps p.tables e below (T9.setTop (mkF m 43 #[.val (.int x0), .val (.int x1), .val (.int (2 : Int32)), .val (.ref b), .unset, .unset, .unset, .unset, .unset, .unset] [(.int (1 : Int32))])) _
        exact kt
    refine RunsTo.of (T' := T9) (g' := (mkF m 48 #[.val (.int x0), .val (.int x1), .val (.int (2 : Int32)), .val (.ref b), .val (.int y1), .unset, .unset, .unset, .unset, .unset] [(.int (x1 &&& (2 : Int32)))])) (fun tgt_ kt => ?_) ?_
    · refine XS.istore X9.here hx rfl (hb hby at_43) rfl (l' := #[.val (.int x0), .val (.int x1), .val (.int (2 : Int32)), .val (.ref b), .val (.int y1), .unset, .unset, .unset, .unset, .unset]) rfl ?_
      show Steps p.tables e below (T9.setTop (mkF m 45 #[.val (.int x0), .val (.int x1), .val (.int (2 : Int32)), .val (.ref b), .val (.int y1), .unset, .unset, .unset, .unset, .unset] [])) _
      refine XS.iloadN X9.here hx rfl (hb hby at_45) rfl ?_
      show Steps p.tables e below (T9.setTop (mkF m 46 #[.val (.int x0), .val (.int x1), .val (.int (2 : Int32)), .val (.ref b), .val (.int y1), .unset, .unset, .unset, .unset, .unset] [(.int x1)])) _
      refine XS.iconst X9.here hx rfl (hb hby at_46) ?_
      show Steps p.tables e below (T9.setTop (mkF m 47 #[.val (.int x0), .val (.int x1), .val (.int (2 : Int32)), .val (.ref b), .val (.int y1), .unset, .unset, .unset, .unset, .unset] [(.int (2 : Int32)), (.int x1)])) _
      refine XS.iand X9.here hx rfl (hb hby at_47) rfl ?_
      show Steps p.tables e below (T9.setTop (mkF m 48 #[.val (.int x0), .val (.int x1), .val (.int (2 : Int32)), .val (.ref b), .val (.int y1), .unset, .unset, .unset, .unset, .unset] [(.int (x1 &&& (2 : Int32)))])) _
      exact kt
    obtain ⟨y2, hy2⟩ : ∃ z : Int32, z = (if (x1 &&& (2 : Int32)) = (0 : Int32) then (0 : Int32) else (1 : Int32)) := ⟨_, rfl⟩
    refine RunsTo.of (T' := T9) (g' := (mkF m 56 #[.val (.int x0), .val (.int x1), .val (.int (2 : Int32)), .val (.ref b), .val (.int y1), .unset, .unset, .unset, .unset, .unset] [(.int y2)])) (fun tgt_ kt => ?_) ?_
    · by_cases hc48b : (x1 &&& (2 : Int32)) = (0 : Int32)
      · refine XS.ifYes X9.here hx rfl (pc0 := 48) (pc' := 55) rfl (hb hby at_48) rfl ((if0 _ _).trans (teq hc48b).1) (by decide) (by decide) ?_
        show Steps p.tables e below (T9.setTop (mkF m 55 #[.val (.int x0), .val (.int x1), .val (.int (2 : Int32)), .val (.ref b), .val (.int y1), .unset, .unset, .unset, .unset, .unset] [])) _
        try rw [if_pos hc48b] at hy2
        rw [hy2] at kt
        refine XS.iconst X9.here hx rfl (hb hby at_55) ?_
        show Steps p.tables e below (T9.setTop (mkF m 56 #[.val (.int x0), .val (.int x1), .val (.int (2 : Int32)), .val (.ref b), .val (.int y1), .unset, .unset, .unset, .unset, .unset] [(.int (0 : Int32))])) _
        exact kt
      · refine XS.ifNo X9.here hx rfl (hb hby at_48) rfl ((if0 _ _).trans (feq hc48b).1) ?_
        show Steps p.tables e below (T9.setTop (mkF m 51 #[.val (.int x0), .val (.int x1), .val (.int (2 : Int32)), .val (.ref b), .val (.int y1), .unset, .unset, .unset, .unset, .unset] [])) _
        try rw [if_neg hc48b] at hy2
        rw [hy2] at kt
        refine XS.iconst X9.here hx rfl (hb hby at_51) ?_
        show Steps p.tables e below (T9.setTop (mkF m 52 #[.val (.int x0), .val (.int x1), .val (.int (2 : Int32)), .val (.ref b), .val (.int y1), .unset, .unset, .unset, .unset, .unset] [(.int (1 : Int32))])) _
        refine XS.goto X9.here hx rfl (pc0 := 52) (pc' := 56) rfl (hb hby at_52) (by decide) (by decide) ?_
        show Steps p.tables e below (T9.setTop (mkF m 56 #[.val (.int x0), .val (.int x1), .val (.int (2 : Int32)), .val (.ref b), .val (.int y1), .unset, .unset, .unset, .unset, .unset] [(.int (1 : Int32))])) _
        exact kt
    refine RunsTo.of (T' := T9) (g' := (mkF m 61 #[.val (.int x0), .val (.int x1), .val (.int (2 : Int32)), .val (.ref b), .val (.int y1), .val (.int y2), .unset, .unset, .unset, .unset] [(.int (x1 &&& (4 : Int32)))])) (fun tgt_ kt => ?_) ?_
    · refine XS.istore X9.here hx rfl (hb hby at_56) rfl (l' := #[.val (.int x0), .val (.int x1), .val (.int (2 : Int32)), .val (.ref b), .val (.int y1), .val (.int y2), .unset, .unset, .unset, .unset]) rfl ?_
      show Steps p.tables e below (T9.setTop (mkF m 58 #[.val (.int x0), .val (.int x1), .val (.int (2 : Int32)), .val (.ref b), .val (.int y1), .val (.int y2), .unset, .unset, .unset, .unset] [])) _
      refine XS.iloadN X9.here hx rfl (hb hby at_58) rfl ?_
      show Steps p.tables e below (T9.setTop (mkF m 59 #[.val (.int x0), .val (.int x1), .val (.int (2 : Int32)), .val (.ref b), .val (.int y1), .val (.int y2), .unset, .unset, .unset, .unset] [(.int x1)])) _
      refine XS.iconst X9.here hx rfl (hb hby at_59) ?_
      show Steps p.tables e below (T9.setTop (mkF m 60 #[.val (.int x0), .val (.int x1), .val (.int (2 : Int32)), .val (.ref b), .val (.int y1), .val (.int y2), .unset, .unset, .unset, .unset] [(.int (4 : Int32)), (.int x1)])) _
      refine XS.iand X9.here hx rfl (hb hby at_60) rfl ?_
      show Steps p.tables e below (T9.setTop (mkF m 61 #[.val (.int x0), .val (.int x1), .val (.int (2 : Int32)), .val (.ref b), .val (.int y1), .val (.int y2), .unset, .unset, .unset, .unset] [(.int (x1 &&& (4 : Int32)))])) _
      exact kt
    obtain ⟨y3, hy3⟩ : ∃ z : Int32, z = (if (x1 &&& (4 : Int32)) = (0 : Int32) then (0 : Int32) else (1 : Int32)) := ⟨_, rfl⟩
    refine RunsTo.of (T' := T9) (g' := (mkF m 69 #[.val (.int x0), .val (.int x1), .val (.int (2 : Int32)), .val (.ref b), .val (.int y1), .val (.int y2), .unset, .unset, .unset, .unset] [(.int y3)])) (fun tgt_ kt => ?_) ?_
    · by_cases hc61c : (x1 &&& (4 : Int32)) = (0 : Int32)
      · refine XS.ifYes X9.here hx rfl (pc0 := 61) (pc' := 68) rfl (hb hby at_61) rfl ((if0 _ _).trans (teq hc61c).1) (by decide) (by decide) ?_
        show Steps p.tables e below (T9.setTop (mkF m 68 #[.val (.int x0), .val (.int x1), .val (.int (2 : Int32)), .val (.ref b), .val (.int y1), .val (.int y2), .unset, .unset, .unset, .unset] [])) _
        try rw [if_pos hc61c] at hy3
        rw [hy3] at kt
        refine XS.iconst X9.here hx rfl (hb hby at_68) ?_
        show Steps p.tables e below (T9.setTop (mkF m 69 #[.val (.int x0), .val (.int x1), .val (.int (2 : Int32)), .val (.ref b), .val (.int y1), .val (.int y2), .unset, .unset, .unset, .unset] [(.int (0 : Int32))])) _
        exact kt
      · refine XS.ifNo X9.here hx rfl (hb hby at_61) rfl ((if0 _ _).trans (feq hc61c).1) ?_
        show Steps p.tables e below (T9.setTop (mkF m 64 #[.val (.int x0), .val (.int x1), .val (.int (2 : Int32)), .val (.ref b), .val (.int y1), .val (.int y2), .unset, .unset, .unset, .unset] [])) _
        try rw [if_neg hc61c] at hy3
        rw [hy3] at kt
        refine XS.iconst X9.here hx rfl (hb hby at_64) ?_
        show Steps p.tables e below (T9.setTop (mkF m 65 #[.val (.int x0), .val (.int x1), .val (.int (2 : Int32)), .val (.ref b), .val (.int y1), .val (.int y2), .unset, .unset, .unset, .unset] [(.int (1 : Int32))])) _
        refine XS.goto X9.here hx rfl (pc0 := 65) (pc' := 69) rfl (hb hby at_65) (by decide) (by decide) ?_
        show Steps p.tables e below (T9.setTop (mkF m 69 #[.val (.int x0), .val (.int x1), .val (.int (2 : Int32)), .val (.ref b), .val (.int y1), .val (.int y2), .unset, .unset, .unset, .unset] [(.int (1 : Int32))])) _
        exact kt
    refine RunsTo.of (T' := T9) (g' := (mkF m 78 #[.val (.int x0), .val (.int x1), .val (.int (2 : Int32)), .val (.ref b), .val (.int y1), .val (.int y2), .val (.int y3), .unset, .unset, .unset] [(.int y3), (.int y2), (.int y1), (.ref b)])) (fun tgt_ kt => ?_) ?_
    · refine XS.istore X9.here hx rfl (hb hby at_69) rfl (l' := #[.val (.int x0), .val (.int x1), .val (.int (2 : Int32)), .val (.ref b), .val (.int y1), .val (.int y2), .val (.int y3), .unset, .unset, .unset]) rfl ?_
      show Steps p.tables e below (T9.setTop (mkF m 71 #[.val (.int x0), .val (.int x1), .val (.int (2 : Int32)), .val (.ref b), .val (.int y1), .val (.int y2), .val (.int y3), .unset, .unset, .unset] [])) _
      refine XS.aloadN X9.here hx rfl (hb hby at_71) rfl rfl ?_
      show Steps p.tables e below (T9.setTop (mkF m 72 #[.val (.int x0), .val (.int x1), .val (.int (2 : Int32)), .val (.ref b), .val (.int y1), .val (.int y2), .val (.int y3), .unset, .unset, .unset] [(.ref b)])) _
      refine XS.iload X9.here hx rfl (hb hby at_72) rfl ?_
      show Steps p.tables e below (T9.setTop (mkF m 74 #[.val (.int x0), .val (.int x1), .val (.int (2 : Int32)), .val (.ref b), .val (.int y1), .val (.int y2), .val (.int y3), .unset, .unset, .unset] [(.int y1), (.ref b)])) _
      refine XS.iload X9.here hx rfl (hb hby at_74) rfl ?_
      show Steps p.tables e below (T9.setTop (mkF m 76 #[.val (.int x0), .val (.int x1), .val (.int (2 : Int32)), .val (.ref b), .val (.int y1), .val (.int y2), .val (.int y3), .unset, .unset, .unset] [(.int y2), (.int y1), (.ref b)])) _
      refine XS.iload X9.here hx rfl (hb hby at_76) rfl ?_
      show Steps p.tables e below (T9.setTop (mkF m 78 #[.val (.int x0), .val (.int x1), .val (.int (2 : Int32)), .val (.ref b), .val (.int y1), .val (.int y2), .val (.int y3), .unset, .unset, .unset] [(.int y3), (.int y2), (.int y1), (.ref b)])) _
      exact kt
    obtain ⟨cq10, kq10, q10a, q10b, q10c⟩ := isOf hZ e9 E_b
    obtain ⟨_, _, ⟨T10, L10, k10, n10⟩, -, X10, ⟨Lc10, hQ10, l10, y10, z10⟩, st10⟩ := X9.virtualBack hx (y := (⟨"com/example/round_table/roundtable/engine/Table$Guard", "below", "(ZZZ)Lcom/example/round_table/roundtable/engine/Table$Guard;"⟩ : MethodName)) (z := (⟨"com/example/round_table/roundtable/engine/Table$Guard", "below", "(ZZZ)Lcom/example/round_table/roundtable/engine/Table$Guard;"⟩ : MethodName)) hown (mvT hZ (hw _ (List.mem_of_getElem? (i := 4) rfl))) (mvT hZ (hw _ (List.mem_of_getElem? (i := 5) rfl))) (notFace_of_selects (args := #[]) (mvT hZ (hw _ (List.mem_of_getElem? (i := 7) rfl)))) (mvT hZ (hw _ (List.mem_of_getElem? (i := 7) rfl))) (mvT hZ (hw _ (List.mem_of_getElem? (i := 6) rfl))) (by decide) (backOf (W := 0) (rm1 l Z a0 hw [] b y1 y2 y3 u g b h0 n0 Z0 S_u S_g S_b) hZ (hw _ (List.mem_of_getElem? (i := 8) rfl)) (hw _ (List.mem_of_getElem? (i := 2) rfl)) (by decide) (by decide)) q10a q10c (g := (mkF m 78 #[.val (.int x0), .val (.int x1), .val (.int (2 : Int32)), .val (.ref b), .val (.int y1), .val (.int y2), .val (.int y3), .unset, .unset, .unset] [(.int y3), (.int y2), (.int y1), (.ref b)])) rfl (by rw [hml]; rfl) (Steps.refl _) (argsL := [(.int y1), (.int y2), (.int y3)]) (rest := []) (lenOf pd_0 rfl) rfl (by show 2 * 0 + _ ≤ _; exact Nat.le_of_eq rfl) (hb hby at_78) (fun _ _ => ⟨rfl, e9, (by decide : 0 + 0 ≤ _), (by decide : 0 + 0 ≤ _)⟩)
    dsimp only [Pt.U, Pt.locs, Pt.cells, Pt.slots] at X10 l10 y10 z10 st10 hQ10
    subst l10 y10 z10
    obtain ⟨rfl, N10q, e10⟩ := hQ10
    have N10 := Fr.app N0 N10q
    refine RunsTo.of (T' := T10) (g' := (mkF m 81 #[.val (.int x0), .val (.int x1), .val (.int (2 : Int32)), .val (.ref b), .val (.int y1), .val (.int y2), .val (.int y3), .unset, .unset, .unset] [(.ref (own_below u g b b y1 y2 y3))])) (fun _ kt => st10.trans kt) ?_
    refine RunsTo.of (T' := T10) (g' := (mkF m 85 #[.val (.int x0), .val (.int x1), .val (.int (2 : Int32)), .val (.ref b), .val (.int y1), .val (.int y2), .val (.int y3), .val (.ref (own_below u g b b y1 y2 y3)), .unset, .unset] [(.int y2)])) (fun tgt_ kt => ?_) ?_
    · refine XS.astore X10.here hx rfl (hb hby at_81) rfl rfl (l' := #[.val (.int x0), .val (.int x1), .val (.int (2 : Int32)), .val (.ref b), .val (.int y1), .val (.int y2), .val (.int y3), .val (.ref (own_below u g b b y1 y2 y3)), .unset, .unset]) rfl ?_
      show Steps p.tables e below (T10.setTop (mkF m 83 #[.val (.int x0), .val (.int x1), .val (.int (2 : Int32)), .val (.ref b), .val (.int y1), .val (.int y2), .val (.int y3), .val (.ref (own_below u g b b y1 y2 y3)), .unset, .unset] [])) _
      refine XS.iload X10.here hx rfl (hb hby at_83) rfl ?_
      show Steps p.tables e below (T10.setTop (mkF m 85 #[.val (.int x0), .val (.int x1), .val (.int (2 : Int32)), .val (.ref b), .val (.int y1), .val (.int y2), .val (.int y3), .val (.ref (own_below u g b b y1 y2 y3)), .unset, .unset] [(.int y2)])) _
      exact kt
    obtain ⟨y4, hy4⟩ : ∃ z : Int32, z = (if y2 = (0 : Int32) then (if y3 = (0 : Int32) then (2 : Int32) else (if y1 = (0 : Int32) then (1 : Int32) else (0 : Int32))) else (2 : Int32)) := ⟨_, rfl⟩
    refine RunsTo.of (T' := T10) (g' := (mkF m 107 #[.val (.int x0), .val (.int x1), .val (.int (2 : Int32)), .val (.ref b), .val (.int y1), .val (.int y2), .val (.int y3), .val (.ref (own_below u g b b y1 y2 y3)), .unset, .unset] [(.int y4)])) (fun tgt_ kt => ?_) ?_
    · by_cases hc85d : y2 = (0 : Int32)
      · refine XS.ifNo X10.here hx rfl (hb hby at_85) rfl ((if0 _ _).trans (teq hc85d).2) ?_
        show Steps p.tables e below (T10.setTop (mkF m 88 #[.val (.int x0), .val (.int x1), .val (.int (2 : Int32)), .val (.ref b), .val (.int y1), .val (.int y2), .val (.int y3), .val (.ref (own_below u g b b y1 y2 y3)), .unset, .unset] [])) _
        refine XS.iload X10.here hx rfl (hb hby at_88) rfl ?_
        show Steps p.tables e below (T10.setTop (mkF m 90 #[.val (.int x0), .val (.int x1), .val (.int (2 : Int32)), .val (.ref b), .val (.int y1), .val (.int y2), .val (.int y3), .val (.ref (own_below u g b b y1 y2 y3)), .unset, .unset] [(.int y3)])) _
        by_cases hc90dy : y3 = (0 : Int32)
        · refine XS.ifNo X10.here hx rfl (hb hby at_90) rfl ((if0 _ _).trans (teq hc90dy).2) ?_
          show Steps p.tables e below (T10.setTop (mkF m 93 #[.val (.int x0), .val (.int x1), .val (.int (2 : Int32)), .val (.ref b), .val (.int y1), .val (.int y2), .val (.int y3), .val (.ref (own_below u g b b y1 y2 y3)), .unset, .unset] [])) _
          try rw [if_pos hc85d] at hy4
          try rw [if_pos hc90dy] at hy4
          rw [hy4] at kt
          refine XS.iconst X10.here hx rfl (hb hby at_93) ?_
          show Steps p.tables e below (T10.setTop (mkF m 94 #[.val (.int x0), .val (.int x1), .val (.int (2 : Int32)), .val (.ref b), .val (.int y1), .val (.int y2), .val (.int y3), .val (.ref (own_below u g b b y1 y2 y3)), .unset, .unset] [(.int (2 : Int32))])) _
          refine XS.goto X10.here hx rfl (pc0 := 94) (pc' := 107) rfl (hb hby at_94) (by decide) (by decide) ?_
          show Steps p.tables e below (T10.setTop (mkF m 107 #[.val (.int x0), .val (.int x1), .val (.int (2 : Int32)), .val (.ref b), .val (.int y1), .val (.int y2), .val (.int y3), .val (.ref (own_below u g b b y1 y2 y3)), .unset, .unset] [(.int (2 : Int32))])) _
          exact kt
        · refine XS.ifYes X10.here hx rfl (pc0 := 90) (pc' := 97) rfl (hb hby at_90) rfl ((if0 _ _).trans (feq hc90dy).2) (by decide) (by decide) ?_
          show Steps p.tables e below (T10.setTop (mkF m 97 #[.val (.int x0), .val (.int x1), .val (.int (2 : Int32)), .val (.ref b), .val (.int y1), .val (.int y2), .val (.int y3), .val (.ref (own_below u g b b y1 y2 y3)), .unset, .unset] [])) _
          refine XS.iload X10.here hx rfl (hb hby at_97) rfl ?_
          show Steps p.tables e below (T10.setTop (mkF m 99 #[.val (.int x0), .val (.int x1), .val (.int (2 : Int32)), .val (.ref b), .val (.int y1), .val (.int y2), .val (.int y3), .val (.ref (own_below u g b b y1 y2 y3)), .unset, .unset] [(.int y1)])) _
          by_cases hc99dyn : y1 = (0 : Int32)
          · refine XS.ifYes X10.here hx rfl (pc0 := 99) (pc' := 106) rfl (hb hby at_99) rfl ((if0 _ _).trans (teq hc99dyn).1) (by decide) (by decide) ?_
            show Steps p.tables e below (T10.setTop (mkF m 106 #[.val (.int x0), .val (.int x1), .val (.int (2 : Int32)), .val (.ref b), .val (.int y1), .val (.int y2), .val (.int y3), .val (.ref (own_below u g b b y1 y2 y3)), .unset, .unset] [])) _
            try rw [if_pos hc85d] at hy4
            try rw [if_neg hc90dy] at hy4
            try rw [if_pos hc99dyn] at hy4
            rw [hy4] at kt
            refine XS.iconst X10.here hx rfl (hb hby at_106) ?_
            show Steps p.tables e below (T10.setTop (mkF m 107 #[.val (.int x0), .val (.int x1), .val (.int (2 : Int32)), .val (.ref b), .val (.int y1), .val (.int y2), .val (.int y3), .val (.ref (own_below u g b b y1 y2 y3)), .unset, .unset] [(.int (1 : Int32))])) _
            exact kt
          · refine XS.ifNo X10.here hx rfl (hb hby at_99) rfl ((if0 _ _).trans (feq hc99dyn).1) ?_
            show Steps p.tables e below (T10.setTop (mkF m 102 #[.val (.int x0), .val (.int x1), .val (.int (2 : Int32)), .val (.ref b), .val (.int y1), .val (.int y2), .val (.int y3), .val (.ref (own_below u g b b y1 y2 y3)), .unset, .unset] [])) _
            try rw [if_pos hc85d] at hy4
            try rw [if_neg hc90dy] at hy4
            try rw [if_neg hc99dyn] at hy4
            rw [hy4] at kt
            refine XS.iconst X10.here hx rfl (hb hby at_102) ?_
            show Steps p.tables e below (T10.setTop (mkF m 103 #[.val (.int x0), .val (.int x1), .val (.int (2 : Int32)), .val (.ref b), .val (.int y1), .val (.int y2), .val (.int y3), .val (.ref (own_below u g b b y1 y2 y3)), .unset, .unset] [(.int (0 : Int32))])) _
            refine XS.goto X10.here hx rfl (pc0 := 103) (pc' := 107) rfl (hb hby at_103) (by decide) (by decide) ?_
            show Steps p.tables e below (T10.setTop (mkF m 107 #[.val (.int x0), .val (.int x1), .val (.int (2 : Int32)), .val (.ref b), .val (.int y1), .val (.int y2), .val (.int y3), .val (.ref (own_below u g b b y1 y2 y3)), .unset, .unset] [(.int (0 : Int32))])) _
            exact kt
      · refine XS.ifYes X10.here hx rfl (pc0 := 85) (pc' := 93) rfl (hb hby at_85) rfl ((if0 _ _).trans (feq hc85d).2) (by decide) (by decide) ?_
        show Steps p.tables e below (T10.setTop (mkF m 93 #[.val (.int x0), .val (.int x1), .val (.int (2 : Int32)), .val (.ref b), .val (.int y1), .val (.int y2), .val (.int y3), .val (.ref (own_below u g b b y1 y2 y3)), .unset, .unset] [])) _
        try rw [if_neg hc85d] at hy4
        rw [hy4] at kt
        refine XS.iconst X10.here hx rfl (hb hby at_93) ?_
        show Steps p.tables e below (T10.setTop (mkF m 94 #[.val (.int x0), .val (.int x1), .val (.int (2 : Int32)), .val (.ref b), .val (.int y1), .val (.int y2), .val (.int y3), .val (.ref (own_below u g b b y1 y2 y3)), .unset, .unset] [(.int (2 : Int32))])) _
        refine XS.goto X10.here hx rfl (pc0 := 94) (pc' := 107) rfl (hb hby at_94) (by decide) (by decide) ?_
        show Steps p.tables e below (T10.setTop (mkF m 107 #[.val (.int x0), .val (.int x1), .val (.int (2 : Int32)), .val (.ref b), .val (.int y1), .val (.int y2), .val (.int y3), .val (.ref (own_below u g b b y1 y2 y3)), .unset, .unset] [(.int (2 : Int32))])) _
        exact kt
    refine RunsTo.of (T' := T10) (g' := (mkF m 112 #[.val (.int x0), .val (.int x1), .val (.int (2 : Int32)), .val (.ref b), .val (.int y1), .val (.int y2), .val (.int y3), .val (.ref (own_below u g b b y1 y2 y3)), .val (.int y4), .unset] [(.int y4), (.int (2 : Int32))])) (fun tgt_ kt => ?_) ?_
    · refine XS.istore X10.here hx rfl (hb hby at_107) rfl (l' := #[.val (.int x0), .val (.int x1), .val (.int (2 : Int32)), .val (.ref b), .val (.int y1), .val (.int y2), .val (.int y3), .val (.ref (own_below u g b b y1 y2 y3)), .val (.int y4), .unset]) rfl ?_
      show Steps p.tables e below (T10.setTop (mkF m 109 #[.val (.int x0), .val (.int x1), .val (.int (2 : Int32)), .val (.ref b), .val (.int y1), .val (.int y2), .val (.int y3), .val (.ref (own_below u g b b y1 y2 y3)), .val (.int y4), .unset] [])) _
      refine XS.iloadN X10.here hx rfl (hb hby at_109) rfl ?_
      show Steps p.tables e below (T10.setTop (mkF m 110 #[.val (.int x0), .val (.int x1), .val (.int (2 : Int32)), .val (.ref b), .val (.int y1), .val (.int y2), .val (.int y3), .val (.ref (own_below u g b b y1 y2 y3)), .val (.int y4), .unset] [(.int (2 : Int32))])) _
      refine XS.iload X10.here hx rfl (hb hby at_110) rfl ?_
      show Steps p.tables e below (T10.setTop (mkF m 112 #[.val (.int x0), .val (.int x1), .val (.int (2 : Int32)), .val (.ref b), .val (.int y1), .val (.int y2), .val (.int y3), .val (.ref (own_below u g b b y1 y2 y3)), .val (.int y4), .unset] [(.int y4), (.int (2 : Int32))])) _
      exact kt
    obtain ⟨_, _, ⟨T11, L11, k11, n11⟩, -, X11, ⟨Lc11, hQ11, l11, y11, z11⟩, st11⟩ := Jvm.LawKit.callS X10 hx (y := (⟨"java/lang/Math", "max", "(II)I"⟩ : MethodName)) hown (mvT hZ (hw _ (List.mem_of_getElem? (i := 11) rfl))) (mvT hZ (hw _ (List.mem_of_getElem? (i := 12) rfl))) (mvT hZ (hw _ (List.mem_of_getElem? (i := 13) rfl))) (mvT hZ (hw _ (List.mem_of_getElem? (i := 14) rfl))) (by decide) (backOf (W := 0) (rm2 l Z a0 hw [] (2 : Int32) y4 h0 n0 Z0 ) hZ (hw _ (List.mem_of_getElem? (i := 14) rfl)) (hw _ (List.mem_of_getElem? (i := 13) rfl)) (by decide) (by decide)) (g := (mkF m 112 #[.val (.int x0), .val (.int x1), .val (.int (2 : Int32)), .val (.ref b), .val (.int y1), .val (.int y2), .val (.int y3), .val (.ref (own_below u g b b y1 y2 y3)), .val (.int y4), .unset] [(.int y4), (.int (2 : Int32))])) rfl (by rw [hml]; rfl) (argsL := [(.int (2 : Int32)), (.int y4)]) (rest := []) (lenOf pd_1 rfl) rfl (by show 2 * 0 + _ ≤ _; exact Nat.le_of_eq rfl) (hb hby at_112) (fun _ _ => ⟨rfl, e10, (by decide : 0 + 0 ≤ _), (by decide : 0 + 0 ≤ _)⟩)
    dsimp only [Pt.U, Pt.locs, Pt.cells, Pt.slots] at X11 l11 y11 z11 st11 hQ11
    subst l11 y11 z11
    obtain ⟨rfl, N11q, e11⟩ := hQ11
    have N11 := Fr.app N10 N11q
    refine RunsTo.of (T' := T11) (g' := (mkF m 115 #[.val (.int x0), .val (.int x1), .val (.int (2 : Int32)), .val (.ref b), .val (.int y1), .val (.int y2), .val (.int y3), .val (.ref (own_below u g b b y1 y2 y3)), .val (.int y4), .unset] [(.int (own_max (2 : Int32) y4))])) st11 ?_
    refine RunsTo.of (T' := T11) (g' := (mkF m 124 #[.val (.int x0), .val (.int x1), .val (.int (2 : Int32)), .val (.ref b), .val (.int y1), .val (.int y2), .val (.int y3), .val (.ref (own_below u g b b y1 y2 y3)), .val (.int y4), .val (.int (own_max (2 : Int32) y4))] [(.ref (own_below u g b b y1 y2 y3))])) (fun tgt_ kt => ?_) ?_
    · refine XS.istore X11.here hx rfl (hb hby at_115) rfl (l' := #[.val (.int x0), .val (.int x1), .val (.int (2 : Int32)), .val (.ref b), .val (.int y1), .val (.int y2), .val (.int y3), .val (.ref (own_below u g b b y1 y2 y3)), .val (.int y4), .val (.int (own_max (2 : Int32) y4))]) rfl ?_
      show Steps p.tables e below (T11.setTop (mkF m 117 #[.val (.int x0), .val (.int x1), .val (.int (2 : Int32)), .val (.ref b), .val (.int y1), .val (.int y2), .val (.int y3), .val (.ref (own_below u g b b y1 y2 y3)), .val (.int y4), .val (.int (own_max (2 : Int32) y4))] [])) _
      refine XS.aload X11.here hx rfl (hb hby at_117) rfl rfl ?_
      show Steps p.tables e below (T11.setTop (mkF m 119 #[.val (.int x0), .val (.int x1), .val (.int (2 : Int32)), .val (.ref b), .val (.int y1), .val (.int y2), .val (.int y3), .val (.ref (own_below u g b b y1 y2 y3)), .val (.int y4), .val (.int (own_max (2 : Int32) y4))] [(.ref (own_below u g b b y1 y2 y3))])) _
      refine XS.ifnullNo X11.here hx rfl (hb hby at_119) rfl ?_
      show Steps p.tables e below (T11.setTop (mkF m 122 #[.val (.int x0), .val (.int x1), .val (.int (2 : Int32)), .val (.ref b), .val (.int y1), .val (.int y2), .val (.int y3), .val (.ref (own_below u g b b y1 y2 y3)), .val (.int y4), .val (.int (own_max (2 : Int32) y4))] [])) _
      refine XS.aload X11.here hx rfl (hb hby at_122) rfl rfl ?_
      show Steps p.tables e below (T11.setTop (mkF m 124 #[.val (.int x0), .val (.int x1), .val (.int (2 : Int32)), .val (.ref b), .val (.int y1), .val (.int y2), .val (.int y3), .val (.ref (own_below u g b b y1 y2 y3)), .val (.int y4), .val (.int (own_max (2 : Int32) y4))] [(.ref (own_below u g b b y1 y2 y3))])) _
      exact kt
    obtain ⟨_, _, ⟨T12, L12, k12, n12⟩, -, X12, ⟨Lc12, hQ12, l12, y12, z12⟩, st12⟩ := Jvm.LawKit.callS X11 hx (y := (⟨"com/example/round_table/roundtable/engine/GuardBelowPinLaw", "rank", "(Lcom/example/round_table/roundtable/engine/Table$Guard;)I"⟩ : MethodName)) hown (mvT hZ (hw _ (List.mem_of_getElem? (i := 15) rfl))) (mvT hZ (hw _ (List.mem_of_getElem? (i := 16) rfl))) (mvT hZ (hw _ (List.mem_of_getElem? (i := 17) rfl))) (mvT hZ (hw _ (List.mem_of_getElem? (i := 18) rfl))) (by decide) (backOf (W := 0) (rm3 l Z a0 hw [] (own_below u g b b y1 y2 y3) u g b h0 n0 Z0 S_u S_g S_b) hZ (hw _ (List.mem_of_getElem? (i := 18) rfl)) (hw _ (List.mem_of_getElem? (i := 17) rfl)) (by decide) (by decide)) (g := (mkF m 124 #[.val (.int x0), .val (.int x1), .val (.int (2 : Int32)), .val (.ref b), .val (.int y1), .val (.int y2), .val (.int y3), .val (.ref (own_below u g b b y1 y2 y3)), .val (.int y4), .val (.int (own_max (2 : Int32) y4))] [(.ref (own_below u g b b y1 y2 y3))])) rfl (by rw [hml]; rfl) (argsL := [(.ref (own_below u g b b y1 y2 y3))]) (rest := []) (lenOf pd_2 rfl) rfl (by show 2 * 0 + _ ≤ _; exact Nat.le_of_eq rfl) (hb hby at_124) (fun _ _ => ⟨rfl, e11, (by decide : 0 + 0 ≤ _), (by decide : 0 + 0 ≤ _)⟩)
    dsimp only [Pt.U, Pt.locs, Pt.cells, Pt.slots] at X12 l12 y12 z12 st12 hQ12
    subst l12 y12 z12
    obtain ⟨rfl, N12q, e12⟩ := hQ12
    have N12 := Fr.app N11 N12q
    refine RunsTo.of (T' := T12) (g' := (mkF m 127 #[.val (.int x0), .val (.int x1), .val (.int (2 : Int32)), .val (.ref b), .val (.int y1), .val (.int y2), .val (.int y3), .val (.ref (own_below u g b b y1 y2 y3)), .val (.int y4), .val (.int (own_max (2 : Int32) y4))] [(.int (own_rank u g b (own_below u g b b y1 y2 y3)))])) st12 ?_
    refine RunsTo.of (T' := T12) (g' := (mkF m 129 #[.val (.int x0), .val (.int x1), .val (.int (2 : Int32)), .val (.ref b), .val (.int y1), .val (.int y2), .val (.int y3), .val (.ref (own_below u g b b y1 y2 y3)), .val (.int y4), .val (.int (own_max (2 : Int32) y4))] [(.int (own_max (2 : Int32) y4)), (.int (own_rank u g b (own_below u g b b y1 y2 y3)))])) (fun tgt_ kt => ?_) ?_
    · refine XS.iload X12.here hx rfl (hb hby at_127) rfl ?_
      show Steps p.tables e below (T12.setTop (mkF m 129 #[.val (.int x0), .val (.int x1), .val (.int (2 : Int32)), .val (.ref b), .val (.int y1), .val (.int y2), .val (.int y3), .val (.ref (own_below u g b b y1 y2 y3)), .val (.int y4), .val (.int (own_max (2 : Int32) y4))] [(.int (own_max (2 : Int32) y4)), (.int (own_rank u g b (own_below u g b b y1 y2 y3)))])) _
      exact kt
    have hlaw : own_rank u g b (own_below u g b b y1 y2 y3) = own_max (2 : Int32) y4 := by
      rw [hy4]
      clear hy1 hy2 hy3 hy4
      by_cases q1 : y1 = 0 <;> by_cases q2 : y2 = 0 <;> by_cases q3 : y3 = 0 <;> simp [own_rank, own_below, own_max, q1, q2, q3, ne_ug, ne_ub, ne_gb, Ne.symm ne_ug, Ne.symm ne_ub, Ne.symm ne_gb] <;> decide
    refine RunsTo.of (T' := T12) (g' := (mkF m 137 #[.val (.int x0), .val (.int x1), .val (.int (2 : Int32)), .val (.ref b), .val (.int y1), .val (.int y2), .val (.int y3), .val (.ref (own_below u g b b y1 y2 y3)), .val (.int y4), .val (.int (own_max (2 : Int32) y4))] [(.int (1 : Int32))])) (fun tgt_ kt => ?_) ?_
    · refine XS.icmpNo X12.here hx rfl (hb hby at_129) rfl (teq hlaw).2 ?_
      show Steps p.tables e below (T12.setTop (mkF m 132 #[.val (.int x0), .val (.int x1), .val (.int (2 : Int32)), .val (.ref b), .val (.int y1), .val (.int y2), .val (.int y3), .val (.ref (own_below u g b b y1 y2 y3)), .val (.int y4), .val (.int (own_max (2 : Int32) y4))] [])) _
      refine XS.iconst X12.here hx rfl (hb hby at_132) ?_
      show Steps p.tables e below (T12.setTop (mkF m 133 #[.val (.int x0), .val (.int x1), .val (.int (2 : Int32)), .val (.ref b), .val (.int y1), .val (.int y2), .val (.int y3), .val (.ref (own_below u g b b y1 y2 y3)), .val (.int y4), .val (.int (own_max (2 : Int32) y4))] [(.int (1 : Int32))])) _
      refine XS.goto X12.here hx rfl (pc0 := 133) (pc' := 137) rfl (hb hby at_133) (by decide) (by decide) ?_
      show Steps p.tables e below (T12.setTop (mkF m 137 #[.val (.int x0), .val (.int x1), .val (.int (2 : Int32)), .val (.ref b), .val (.int y1), .val (.int y2), .val (.int y3), .val (.ref (own_below u g b b y1 y2 y3)), .val (.int y4), .val (.int (own_max (2 : Int32) y4))] [(.int (1 : Int32))])) _
      exact kt
    refine RunsTo.retN X12 hx (t := .boolean) Bd.returns (by simp) Bd.notSynchronized (hb hby at_137) ?_ (by decide) (by decide)
    rw [e12]
    exact ⟨rfl, N12⟩
set_option maxRecDepth 65536 in
set_option maxHeartbeats 40000000 in
theorem comes_1 {Post : Tables → Env → Array Value → State → Outcome → State → Prop} (hpost : ∀ tb e args s v u, (limb_1_1.after args s (.returned v) u = true ∧ limb_1_2.after args s (.returned v) u = true ∧ True) → FrameEnd s (.returned v) u (Jvm.fieldLocs frame_1_writes args s ++ Jvm.arrayLocs frame_1_arrays args s ++ Jvm.staticLocs frame_1_statics s) 0 0 → Post tb e args s (.returned v) u) :
    ArmFor flags0 classFile x code maxLocals ret World_1 tables_1 room_1 Calls_1 rest_1 Pre_1 Post := by
  intro l hfl _ _ p e ha hc hk s m args below hf hA hF happ hP
  obtain ⟨hcalls, hrest, hpre⟩ := hP
  obtain ⟨-, -, -, hnamed, -, -, -, hat⟩ := (Spec.applies_iff hf).mp happ
  obtain ⟨hg, hn⟩ := and_e (Cond.before_iff.mp (show (Jvm.Cond.and given_1 narrow_1).before args s = true from hpre))
  obtain ⟨hcnt, hg0⟩ := and_e hg
  obtain ⟨ha0, hg1⟩ := and_e hg0
  have ha1 := hg1
  obtain ⟨w0, w1, rfl⟩ : ∃ w0 w1 : Value, args = #[w0, w1] := by
    have hs : args.size = 2 := by simpa [Cond.value, given_1] using hcnt
    obtain ⟨L⟩ := args
    match L, hs with
    | [w0, w1], _ => exact ⟨w0, w1, rfl⟩
  have hw := fun d (hd : d ∈ tables_1) => atoms_spec (ws := Jvm.Cond.code x code maxLocals ret :: tables_1) hat d (List.mem_cons_of_mem _ hd)
  have hfit : Fit s := fun {y c} hc i hi => by
    obtain ⟨ha, rfl⟩ := Array.getElem?_eq_some_iff.mp hc
    have q := List.all_eq_true.mp ((Array.all_eq_true_iff_forall_mem.mp hF) _ (Array.getElem_mem ha)) i (List.mem_range.mpr hi)
    simpa [Array.getElem?_eq_getElem hi] using q
  obtain ⟨i0, ei0⟩ := is_v ha0
  obtain rfl : w0 = (.int i0) := Option.some.inj ei0
  obtain ⟨i1, ei1⟩ := is_v ha1
  obtain rfl : w1 = (.int i1) := Option.some.inj ei1
  obtain ⟨n1, hn1⟩ := and_e hn
  obtain ⟨n2, hn2⟩ := and_e hn1
  obtain ⟨n3, hn3⟩ := and_e hn2
  obtain ⟨n4, hn4⟩ := and_e hn3
  obtain ⟨n5, n6⟩ := and_e hn4
  obtain ⟨u, ev_u⟩ := exa_v n1
  have E_u := Exa.start ev_u n1
  have S_u : Sta s s.heap "com/example/round_table/roundtable/engine/Table$Guard" "UNGUARDED" "Lcom/example/round_table/roundtable/engine/Table$Guard;" (.ref u) := Sta.start ev_u (Or.inr ⟨hw _ (List.mem_of_getElem? (i := 2) rfl), hw _ (List.mem_of_getElem? (i := 3) rfl)⟩)
  obtain ⟨o_u, t_u, eo_u, et_u, ko_u, kt_u⟩ := cmp_v (Or.inl n3)
  cases (Term.int_eval (0)).symm.trans et_u
  obtain ⟨z_u, rfl⟩ := kt_u
  have q_u := gotT (Cond.eq_ints eo_u et_u) n3
  have F_u : Fld s s.heap u "java/lang/Enum" "ordinal" "I" (.int 0) := q_u ▸ Fld.start ((fld_at ev_u).symm.trans eo_u)
  obtain ⟨b, ev_b⟩ := exa_v n2
  have E_b := Exa.start ev_b n2
  have S_b : Sta s s.heap "com/example/round_table/roundtable/engine/Table$Guard" "BARRED" "Lcom/example/round_table/roundtable/engine/Table$Guard;" (.ref b) := Sta.start ev_b (Or.inr ⟨hw _ (List.mem_of_getElem? (i := 2) rfl), hw _ (List.mem_of_getElem? (i := 10) rfl)⟩)
  obtain ⟨o_b, t_b, eo_b, et_b, ko_b, kt_b⟩ := cmp_v (Or.inl n4)
  cases (Term.int_eval (2)).symm.trans et_b
  obtain ⟨z_b, rfl⟩ := kt_b
  have q_b := gotT (Cond.eq_ints eo_b et_b) n4
  have F_b : Fld s s.heap b "java/lang/Enum" "ordinal" "I" (.int 2) := q_b ▸ Fld.start ((fld_at ev_b).symm.trans eo_b)
  obtain ⟨g, ev_g⟩ := exa_v n5
  have E_g := Exa.start ev_g n5
  have S_g : Sta s s.heap "com/example/round_table/roundtable/engine/Table$Guard" "GUARDED" "Lcom/example/round_table/roundtable/engine/Table$Guard;" (.ref g) := Sta.start ev_g (Or.inr ⟨hw _ (List.mem_of_getElem? (i := 2) rfl), hw _ (List.mem_of_getElem? (i := 20) rfl)⟩)
  obtain ⟨o_g, t_g, eo_g, et_g, ko_g, kt_g⟩ := cmp_v (Or.inl n6)
  cases (Term.int_eval (1)).symm.trans et_g
  obtain ⟨z_g, rfl⟩ := kt_g
  have q_g := gotT (Cond.eq_ints eo_g et_g) n6
  have F_g : Fld s s.heap g "java/lang/Enum" "ordinal" "I" (.int 1) := q_g ▸ Fld.start ((fld_at ev_g).symm.trans eo_g)
  obtain ⟨n, o, h1, h2, h3, _, L, rfl, ⟨rfl, N⟩, hq⟩ := rm0 l s _ hw tables_1 i0 i1 u g b s.heap s.heap.size (Nat.le_refl _) S_u S_g S_b (F_u.ne F_g (by simp)) (F_u.ne F_b (by simp)) (F_g.ne F_b (by simp)) E_u E_g E_b p e ha hc hk s m _ below hf ((Spec.applies_iff_loose hf).mp happ).1 ⟨rfl, State.Warmed39.refl s, rfl⟩ trivial
  refine ⟨n, _, h1, h2, h3, hpost _ _ _ _ _ _ ⟨Cond.after_iff.mpr rfl, Cond.after_iff.mpr (eq_i res_at (Term.int_eval (1)) rfl), trivial⟩ ⟨hq.1, hq.2.1, (hq.2.2.sift fun y hy => Or.inr (N y hy)).mono (by decide) (by decide)⟩⟩
theorem main_1_1 : Claimed_1_1 := comes_1 fun _ _ _ _ _ _ h hF => ⟨h.1, hF⟩
theorem main_1_2 : Claimed_1_2 := comes_1 fun _ _ _ _ _ _ h hF => ⟨h.2.1, hF⟩
end Jvm.Pilot.@@N@@
namespace Jvm.Pilot.@@N@@
open Jvm Jvm.ClassFile Sem Op Lib Jvm.Free Jvm.Stand Jvm.Pilot.@@N@@.Jvm.D
/-! MADE BY PROGRAM (witnessworld.py) out of the Statement's table words and the real class files: 13 classes; the members and pool entries that the words name. The judged class is class 1, her method 1. -/
namespace start1
open Jvm.ClassFile
def u (s : String) : CpInfo := .utf8 (stringToUtf16 s)
/-- a pool by its gaps: so many unusable entries, then the entry; so many at the end -/
def gap : Nat → List CpInfo → List CpInfo
  | 0, r => r
  | n + 1, r => .unusable :: gap n r
def poolList (es : List (Nat × CpInfo)) (last : Nat) : List CpInfo := es.foldr (fun e r => gap e.1 (e.2 :: r)) (gap last [])
def pool (es : List (Nat × CpInfo)) (last : Nat) : Array CpInfo := ⟨poolList es last⟩
def fileOf (pool : Array CpInfo) (this : Nat) (attrs : Array Attribute := #[]) (ms : Array MethodInfo := #[]) (fl : Nat := 33) (sup : Nat := 0) (ifs : Array Nat := #[]) (fds : Array FieldInfo := #[]) : ClassFile where
  minorVersion := 0
  majorVersion := 65
  constantPool := pool
  accessFlags := fl
  thisClass := this
  superClass := sup
  interfaces := ifs
  fields := fds
  methods := ms
  attributes := attrs
def plain (name : String) (sup : Option ClassId) : Class where
  name := name
  kind := .ordinary
  loader := none
  accessFlags := 33
  super := sup
  interfaces := #[]
  cf := none
  fields := #[]
  methods := #[]
  instanceTypes := #[]
  staticTypes := #[]
  resolved := #[]
  callSites := []
  init := .initialized
  statics := none
  mirror := none

def pool0 : Array CpInfo := pool [(5, u "<init>"), (0, u "()V"), (1, .class_ 10), (1, u "java/lang/Object")] 113

def k0m0 : Method := { name := "<init>", desc := "()V", sig := { parameters := [], returnType := none }, accessFlags := 1, code := none }
/-- java/lang/Object -/
def k0 : Class := { plain "java/lang/Object" none with
  accessFlags := 33
  interfaces := #[]
  cf := some (fileOf pool0 8 #[] #[{ accessFlags := 1, nameIndex := 5, descriptorIndex := 6, attributes := #[] }] 33 0 #[] #[])
  fields := #[]
  methods := #[k0m0]
  instanceTypes := #[]
  staticTypes := #[]
  resolved := Array.replicate 124 none
  statics := none }

def pool1 : Array CpInfo := pool [(2, .class_ 4), (1, u "java/lang/Object"), (0, u "<init>"), (0, u "()V"), (0, .integer 2147483647), (0, .fieldref 9 10), (0, .class_ 11), (0, .nameAndType 12 13), (0, u "com/example/round_table/roundtable/engine/Table$Guard"), (0, u "UNGUARDED"), (0, u "Lcom/example/round_table/roundtable/engine/Table$Guard;"), (0, .fieldref 9 15), (0, .nameAndType 16 13), (0, u "GUARDED"), (0, .fieldref 9 18), (0, .nameAndType 19 13), (0, u "BARRED"), (0, .methodref 9 21), (0, .nameAndType 22 23), (0, u "below"), (0, u "(ZZZ)Lcom/example/round_table/roundtable/engine/Table$Guard;"), (0, .methodref 25 26), (0, .class_ 27), (0, .nameAndType 28 29), (0, u "java/lang/Math"), (0, u "max"), (0, u "(II)I"), (0, .methodref 31 32), (0, .class_ 33), (0, .nameAndType 34 35), (0, u "com/example/round_table/roundtable/engine/GuardBelowPinLaw"), (0, u "rank"), (0, u "(Lcom/example/round_table/roundtable/engine/Table$Guard;)I"), (2, u "law"), (0, u "(II)Z")] 7

def k1m0 : Method := { name := "<init>", desc := "()V", sig := { parameters := [], returnType := none }, accessFlags := 1, code := none }
def k1c1 : Code := { maxStack := 4, maxLocals := 10, code := code, exceptionTable := #[], attributes := #[] }
def k1m1 : Method := { name := "law", desc := "(II)Z", sig := { parameters := [.int, .int], returnType := some .boolean }, accessFlags := 9, code := some k1c1 }
def k1c2 : Code := { maxStack := 2, maxLocals := 1, code := method_3_code, exceptionTable := #[], attributes := #[] }
def k1m2 : Method := { name := "rank", desc := "(Lcom/example/round_table/roundtable/engine/Table$Guard;)I", sig := { parameters := [(.object "com/example/round_table/roundtable/engine/Table$Guard")], returnType := some .int }, accessFlags := 10, code := some k1c2 }
/-- com/example/round_table/roundtable/engine/GuardBelowPinLaw -/
def k1 : Class := { plain "com/example/round_table/roundtable/engine/GuardBelowPinLaw" (some 0) with
  accessFlags := 49
  interfaces := #[]
  cf := some (fileOf pool1 31 #[] #[{ accessFlags := 1, nameIndex := 5, descriptorIndex := 6, attributes := #[] }, { accessFlags := 9, nameIndex := 38, descriptorIndex := 39, attributes := #[] }, { accessFlags := 10, nameIndex := 34, descriptorIndex := 35, attributes := #[] }] 49 2 #[] #[])
  fields := #[]
  methods := #[k1m0, k1m1, k1m2]
  instanceTypes := #[]
  staticTypes := #[]
  resolved := Array.replicate 47 none
  statics := none }

def pool2 : Array CpInfo := pool [(1, .class_ 2), (0, u "java/lang/constant/Constable"), (0, .class_ 4), (0, u "java/lang/Object")] 6

/-- java/lang/constant/Constable -/
def k2 : Class := { plain "java/lang/constant/Constable" (some 0) with
  accessFlags := 1537
  interfaces := #[]
  cf := some (fileOf pool2 1 #[] #[] 1537 3 #[] #[])
  fields := #[]
  methods := #[]
  instanceTypes := #[]
  staticTypes := #[]
  resolved := Array.replicate 11 none
  statics := none }

def pool3 : Array CpInfo := pool [(1, .class_ 2), (0, u "java/lang/Comparable"), (0, .class_ 4), (0, u "java/lang/Object")] 7

/-- java/lang/Comparable -/
def k3 : Class := { plain "java/lang/Comparable" (some 0) with
  accessFlags := 1537
  interfaces := #[]
  cf := some (fileOf pool3 1 #[] #[] 1537 3 #[] #[])
  fields := #[]
  methods := #[]
  instanceTypes := #[]
  staticTypes := #[]
  resolved := Array.replicate 12 none
  statics := none }

def pool4 : Array CpInfo := pool [(1, .class_ 2), (0, u "java/io/Serializable"), (0, .class_ 4), (0, u "java/lang/Object")] 2

/-- java/io/Serializable -/
def k4 : Class := { plain "java/io/Serializable" (some 0) with
  accessFlags := 1537
  interfaces := #[]
  cf := some (fileOf pool4 1 #[] #[] 1537 3 #[] #[])
  fields := #[]
  methods := #[]
  instanceTypes := #[]
  staticTypes := #[]
  resolved := Array.replicate 7 none
  statics := none }

def pool5 : Array CpInfo := pool [(2, .class_ 4), (1, u "java/lang/Enum"), (0, u "name"), (0, u "Ljava/lang/String;"), (2, u "ordinal"), (0, u "I"), (1, .class_ 14), (1, u "java/lang/Object"), (4, u "hash"), (86, .class_ 108), (1, u "java/lang/Enum$EnumDesc"), (2, .class_ 112), (0, u "java/lang/constant/Constable"), (0, .class_ 114), (0, u "java/lang/Comparable"), (0, .class_ 116), (0, u "java/io/Serializable")] 87

/-- java/lang/Enum -/
def k5 : Class := { plain "java/lang/Enum" (some 0) with
  accessFlags := 1057
  interfaces := #[2, 3, 4]
  cf := some (fileOf pool5 2 #[.nestMembers #[106]] #[] 1057 12 #[111, 113, 115] #[{ accessFlags := 18, nameIndex := 5, descriptorIndex := 6, attributes := #[] }, { accessFlags := 18, nameIndex := 9, descriptorIndex := 10, attributes := #[] }, { accessFlags := 2, nameIndex := 19, descriptorIndex := 10, attributes := #[] }])
  fields := #[{ name := "name", type := (.object "java/lang/String"), accessFlags := 18, slot := 0, constantValue := 0 }, { name := "ordinal", type := .int, accessFlags := 18, slot := 1, constantValue := 0 }, { name := "hash", type := .int, accessFlags := 2, slot := 2, constantValue := 0 }]
  methods := #[]
  instanceTypes := #[(.object "java/lang/String"), .int, .int]
  staticTypes := #[]
  resolved := Array.replicate 204 none
  statics := none }

def pool6 : Array CpInfo := pool [(1, .class_ 2), (0, u "com/example/round_table/roundtable/engine/Table$Guard"), (0, .fieldref 1 4), (0, .nameAndType 5 6), (0, u "UNGUARDED"), (0, u "Lcom/example/round_table/roundtable/engine/Table$Guard;"), (0, .fieldref 1 8), (0, .nameAndType 9 6), (0, u "GUARDED"), (0, .fieldref 1 11), (0, .nameAndType 12 6), (0, u "BARRED"), (2, u "$VALUES"), (0, u "[Lcom/example/round_table/roundtable/engine/Table$Guard;"), (6, .class_ 25), (1, u "java/lang/Enum"), (21, u "below"), (0, u "(ZZZ)Lcom/example/round_table/roundtable/engine/Table$Guard;"), (6, .class_ 56), (0, u "com/example/round_table/roundtable/engine/Table")] 2

def k6c0 : Code := { maxStack := 2, maxLocals := 5, code := prog_79_method_4_code, exceptionTable := #[], attributes := #[] }
def k6m0 : Method := { name := "below", desc := "(ZZZ)Lcom/example/round_table/roundtable/engine/Table$Guard;", sig := { parameters := [.boolean, .boolean, .boolean], returnType := some (.object "com/example/round_table/roundtable/engine/Table$Guard") }, accessFlags := 0, code := some k6c0 }
/-- com/example/round_table/roundtable/engine/Table$Guard -/
def k6 : Class := { plain "com/example/round_table/roundtable/engine/Table$Guard" (some 5) with
  accessFlags := 16432
  interfaces := #[]
  cf := some (fileOf pool6 1 #[.nestHost 55] #[{ accessFlags := 0, nameIndex := 47, descriptorIndex := 48, attributes := #[] }] 16432 23 #[] #[{ accessFlags := 16409, nameIndex := 5, descriptorIndex := 6, attributes := #[] }, { accessFlags := 16409, nameIndex := 9, descriptorIndex := 6, attributes := #[] }, { accessFlags := 16409, nameIndex := 12, descriptorIndex := 6, attributes := #[] }, { accessFlags := 4122, nameIndex := 15, descriptorIndex := 16, attributes := #[] }])
  fields := #[{ name := "UNGUARDED", type := (.object "com/example/round_table/roundtable/engine/Table$Guard"), accessFlags := 16409, slot := 0, constantValue := 0 }, { name := "GUARDED", type := (.object "com/example/round_table/roundtable/engine/Table$Guard"), accessFlags := 16409, slot := 1, constantValue := 0 }, { name := "BARRED", type := (.object "com/example/round_table/roundtable/engine/Table$Guard"), accessFlags := 16409, slot := 2, constantValue := 0 }, { name := "$VALUES", type := (.array (.object "com/example/round_table/roundtable/engine/Table$Guard")), accessFlags := 4122, slot := 3, constantValue := 0 }]
  methods := #[k6m0]
  instanceTypes := #[(.object "java/lang/String"), .int, .int]
  staticTypes := #[(.object "com/example/round_table/roundtable/engine/Table$Guard"), (.object "com/example/round_table/roundtable/engine/Table$Guard"), (.object "com/example/round_table/roundtable/engine/Table$Guard"), (.array (.object "com/example/round_table/roundtable/engine/Table$Guard"))]
  resolved := Array.replicate 59 none
  statics := some 0 }

def pool7 : Array CpInfo := pool [(1, .class_ 2), (0, u "java/lang/Math"), (1, .class_ 6), (1, u "java/lang/Object"), (0, u "<init>"), (0, u "()V"), (89, .class_ 100), (1, u "java/lang/Math$RandomNumberGeneratorHolder"), (71, u "negativeZeroFloatBits"), (0, u "J"), (2, u "negativeZeroDoubleBits"), (21, u "max"), (46, u "$assertionsDisabled"), (0, u "Z"), (88, u "(II)I"), (2, u "twoToTheDoubleScaleDown"), (0, u "D"), (4, u "twoToTheDoubleScaleUp"), (9, u "E"), (3, u "PI"), (2, u "TAU"), (2, u "DEGREES_TO_RADIANS"), (0, u "RADIANS_TO_DEGREES")] 94

def k7m0 : Method := { name := "<init>", desc := "()V", sig := { parameters := [], returnType := none }, accessFlags := 2, code := none }
def k7c1 : Code := { maxStack := 2, maxLocals := 2, code := jdk_29_method_65_code, exceptionTable := #[], attributes := #[] }
def k7m1 : Method := { name := "max", desc := "(II)I", sig := { parameters := [.int, .int], returnType := some .int }, accessFlags := 9, code := some k7c1 }
/-- java/lang/Math -/
def k7 : Class := { plain "java/lang/Math" (some 0) with
  accessFlags := 49
  interfaces := #[]
  cf := some (fileOf pool7 1 #[.nestMembers #[98]] #[{ accessFlags := 2, nameIndex := 7, descriptorIndex := 8, attributes := #[] }, { accessFlags := 9, nameIndex := 198, descriptorIndex := 335, attributes := #[] }] 49 4 #[] #[{ accessFlags := 25, nameIndex := 354, descriptorIndex := 339, attributes := #[] }, { accessFlags := 25, nameIndex := 358, descriptorIndex := 339, attributes := #[] }, { accessFlags := 25, nameIndex := 361, descriptorIndex := 339, attributes := #[] }, { accessFlags := 26, nameIndex := 364, descriptorIndex := 339, attributes := #[] }, { accessFlags := 26, nameIndex := 365, descriptorIndex := 339, attributes := #[] }, { accessFlags := 26, nameIndex := 172, descriptorIndex := 173, attributes := #[] }, { accessFlags := 26, nameIndex := 176, descriptorIndex := 173, attributes := #[] }, { accessFlags := 8, nameIndex := 344, descriptorIndex := 339, attributes := #[] }, { accessFlags := 8, nameIndex := 338, descriptorIndex := 339, attributes := #[] }, { accessFlags := 4120, nameIndex := 245, descriptorIndex := 246, attributes := #[] }])
  fields := #[{ name := "E", type := .double, accessFlags := 25, slot := 0, constantValue := 0 }, { name := "PI", type := .double, accessFlags := 25, slot := 1, constantValue := 0 }, { name := "TAU", type := .double, accessFlags := 25, slot := 2, constantValue := 0 }, { name := "DEGREES_TO_RADIANS", type := .double, accessFlags := 26, slot := 3, constantValue := 0 }, { name := "RADIANS_TO_DEGREES", type := .double, accessFlags := 26, slot := 4, constantValue := 0 }, { name := "negativeZeroFloatBits", type := .long, accessFlags := 26, slot := 5, constantValue := 0 }, { name := "negativeZeroDoubleBits", type := .long, accessFlags := 26, slot := 6, constantValue := 0 }, { name := "twoToTheDoubleScaleUp", type := .double, accessFlags := 8, slot := 7, constantValue := 0 }, { name := "twoToTheDoubleScaleDown", type := .double, accessFlags := 8, slot := 8, constantValue := 0 }, { name := "$assertionsDisabled", type := .boolean, accessFlags := 4120, slot := 9, constantValue := 0 }]
  methods := #[k7m0, k7m1]
  instanceTypes := #[]
  staticTypes := #[.double, .double, .double, .double, .double, .long, .long, .double, .double, .boolean]
  resolved := Array.replicate 460 none
  statics := none }

def pool8 : Array CpInfo := pool [(1, u "java/lang/Cloneable"), (0, .class_ 1), (0, u "java/lang/Object"), (0, .class_ 3)] 3

/-- java/lang/Cloneable -/
def k8 : Class := { plain "java/lang/Cloneable" (some 0) with
  accessFlags := 1537
  interfaces := #[]
  cf := some (fileOf pool8 2 #[] #[] 1537 4 #[] #[])
  fields := #[]
  methods := #[]
  instanceTypes := #[]
  staticTypes := #[]
  resolved := Array.replicate 8 none
  statics := none }

/-- the primitive byte -/
def k9 : Class := { plain "byte" none with kind := .primitive 'B', accessFlags := 0x411 }
/-- [B -/
def k10 : Class := { plain "[B" (some 0) with kind := .array 9 .byte, interfaces := #[8, 4], accessFlags := 1041 }

/-- the primitive int -/
def k11 : Class := { plain "int" none with kind := .primitive 'I', accessFlags := 0x411 }
/-- [I -/
def k12 : Class := { plain "[I" (some 0) with kind := .array 11 .int, interfaces := #[8, 4], accessFlags := 1041 }

def heap : Heap := #[{ cls := 6, slots := #[.ref 1, .ref 2, .ref 3, .null], vm := .statics 6 },
  { cls := 6, slots := #[.null, .int 0, .int 0], vm := .none },
  { cls := 6, slots := #[.null, .int 1, .int 0], vm := .none },
  { cls := 6, slots := #[.null, .int 2, .int 0], vm := .none }]
def classes : Array Class := #[k0, k1, k2, k3, k4, k5, k6, k7, k8, k9, k10, k11, k12]
def interned : List (Array UInt16 × Addr) := []
def slotsUsed : Nat := 13
def theMethod : MethodId := ⟨1, 1⟩
def args0 : Array Value := #[.int 1, .int 5]
def aboutOver (below : List Frame) : State where
  vm := { classes := classes, interned := interned.toArray }
  heap := heap
  slotsUsed := slotsUsed
  threads := #[{ frames := .invoking theMethod args0 :: below }]
def below0 : List Frame := [.native { method := ⟨0, 0⟩, args := #[] }]
def about1 : State := aboutOver below0
def p0 : Program := .bare "" "" ""
def e0 : Env := launch0.env 0 0 0
theorem w_frames : about1.frames = Frame.invoking theMethod args0 :: below0 := rfl
set_option maxRecDepth 65536 in
theorem w_args : argsFit about1.vm theMethod args0 = true := by decide +kernel
set_option maxRecDepth 65536 in
theorem w_heap : heapFits about1 = true := by decide +kernel
set_option maxRecDepth 65536 in
theorem w_runnable : about1.curStatus? = some .runnable := by decide +kernel
set_option maxRecDepth 65536 in
theorem w_alone : about1.alone = true := by decide +kernel
set_option maxRecDepth 65536 in
theorem w_named : about1.methodNamed? x = some theMethod := by decide +kernel
set_option maxRecDepth 65536 in
theorem w_hears : about1.hears theMethod below0 = true := by decide +kernel
set_option maxRecDepth 65536 in
theorem w_ripe : about1.ripe theMethod args0 below0 = true := by decide +kernel
theorem w_running : about1.status = .running := rfl
set_option maxRecDepth 65536 in
theorem w_room : about1.hasRoom e0.platform room_1 = true :=
  launch0.hasRoom_least _ room_1 (by decide +kernel) (by decide +kernel) (by decide +kernel) (by decide +kernel) (by decide +kernel) (by decide +kernel)
theorem allAtoms_all (ts : List Jvm.Cond) (a : Array Jvm.Value) (st : Jvm.State) : (allAtoms ts).before a st = ts.all (fun c => c.before a st) := by
  induction ts with
  | nil => rfl
  | cons c t ih =>
    show (Jvm.Cond.and c (allAtoms t)).before a st = _
    rw [Jvm.Cond.before_and, ih, List.all_cons]
def words1 : List Jvm.Cond := Jvm.Cond.code x code maxLocals ret :: tables_1
/-- a 'code' word, met by the world's own term for the bytes: nothing is compared byte by byte -/
theorem code_word {y : MethodName} {bytes : ByteArray} {mx : Nat} {rt : Option FieldType} {a : Array Value} {s : State} {m : MethodId} {meth : Method} {c : Code} (h1 : s.methodNamed? y = some m) (h2 : s.vm.method? m = some meth) (h3 : meth.code = some c) (h4 : c.code = bytes)
    (h5 : (c.maxLocals == mx && c.exceptionTable.isEmpty && decide (c.maxStack ≤ mostOperands) && decide (meth.sig.returnType = rt) && !meth.locks && decide (parseMethodDescriptor y.desc = some meth.sig)) = true) : (Jvm.Cond.code y bytes mx rt).before a s = true := by
  simp only [Bool.and_eq_true, beq_iff_eq, Bool.not_eq_true', decide_eq_true_eq] at h5
  obtain ⟨⟨⟨⟨⟨g1, g2⟩, g3⟩, g4⟩, g5⟩, g6⟩ := h5
  simp [Cond.before, Cond.holds, Cond.value, h1, h2, h3, h4, g1, g2, g3, g4, g5, g6]
def isCode : Jvm.Cond → Bool
  | .code _ _ _ _ => true
  | _ => false
theorem all_split {L : List Jvm.Cond} {P : Jvm.Cond → Bool} (h1 : L.all (fun c => isCode c || P c) = true) (h2 : ∀ c ∈ L.filter isCode, P c = true) : L.all P = true := by
  refine List.all_eq_true.mpr fun c hc => ?_
  have h := List.all_eq_true.mp h1 c hc
  rcases Bool.eq_false_or_eq_true (isCode c) with hi | hi
  · exact h2 c (List.mem_filter.mpr ⟨hc, hi⟩)
  · simpa [hi] using h
set_option maxRecDepth 65536 in
theorem w_c0 : (Jvm.Cond.code x code maxLocals ret).before args0 about1 = true := code_word (m := ⟨1, 1⟩) (meth := k1m1) (c := k1c1) (by decide +kernel) rfl rfl rfl (by decide +kernel)
set_option maxRecDepth 65536 in
theorem w_c1 : (Jvm.Cond.code ({ cls := "com/example/round_table/roundtable/engine/Table$Guard", name := "below", desc := "(ZZZ)Lcom/example/round_table/roundtable/engine/Table$Guard;" } : Jvm.MethodName) prog_79_method_4_code (5 : Nat) (Option.some (Jvm.ClassFile.FieldType.object "com/example/round_table/roundtable/engine/Table$Guard"))).before args0 about1 = true := code_word (m := ⟨6, 0⟩) (meth := k6m0) (c := k6c0) (by decide +kernel) rfl rfl rfl (by decide +kernel)
set_option maxRecDepth 65536 in
theorem w_c2 : (Jvm.Cond.code ({ cls := "java/lang/Math", name := "max", desc := "(II)I" } : Jvm.MethodName) jdk_29_method_65_code (2 : Nat) (Option.some Jvm.ClassFile.FieldType.int)).before args0 about1 = true := code_word (m := ⟨7, 1⟩) (meth := k7m1) (c := k7c1) (by decide +kernel) rfl rfl rfl (by decide +kernel)
set_option maxRecDepth 65536 in
theorem w_c3 : (Jvm.Cond.code ({ cls := "com/example/round_table/roundtable/engine/GuardBelowPinLaw", name := "rank", desc := "(Lcom/example/round_table/roundtable/engine/Table$Guard;)I" } : Jvm.MethodName) method_3_code (1 : Nat) (Option.some Jvm.ClassFile.FieldType.int)).before args0 about1 = true := code_word (m := ⟨1, 2⟩) (meth := k1m2) (c := k1c2) (by decide +kernel) rfl rfl rfl (by decide +kernel)
def codes1 : List Jvm.Cond := [Jvm.Cond.code x code maxLocals ret, Jvm.Cond.code ({ cls := "com/example/round_table/roundtable/engine/Table$Guard", name := "below", desc := "(ZZZ)Lcom/example/round_table/roundtable/engine/Table$Guard;" } : Jvm.MethodName) prog_79_method_4_code (5 : Nat) (Option.some (Jvm.ClassFile.FieldType.object "com/example/round_table/roundtable/engine/Table$Guard")), Jvm.Cond.code ({ cls := "java/lang/Math", name := "max", desc := "(II)I" } : Jvm.MethodName) jdk_29_method_65_code (2 : Nat) (Option.some Jvm.ClassFile.FieldType.int), Jvm.Cond.code ({ cls := "com/example/round_table/roundtable/engine/GuardBelowPinLaw", name := "rank", desc := "(Lcom/example/round_table/roundtable/engine/Table$Guard;)I" } : Jvm.MethodName) method_3_code (1 : Nat) (Option.some Jvm.ClassFile.FieldType.int)]
set_option maxRecDepth 65536 in
theorem codes_eq : words1.filter isCode = codes1 := rfl
theorem w_codes : ∀ c ∈ words1.filter isCode, c.before args0 about1 = true := by
  rw [codes_eq]
  intro c hc
  simp only [codes1, List.mem_cons, List.not_mem_nil, or_false] at hc
  rcases hc with rfl | rfl | rfl | rfl
  · exact w_c0
  · exact w_c1
  · exact w_c2
  · exact w_c3
set_option maxRecDepth 65536 in
theorem w_t1 : (words1.take 24).all (fun c => isCode c || c.before args0 about1) = true := by decide +kernel
set_option maxRecDepth 65536 in
theorem w_t2 : (words1.drop 24).all (fun c => isCode c || c.before args0 about1) = true := by decide +kernel
theorem w_tables : (allAtoms (Jvm.Cond.code x code maxLocals ret :: tables_1)).before args0 about1 = true := by
  rw [allAtoms_all]
  show words1.all (fun c => c.before args0 about1) = true
  refine all_split ?_ w_codes
  rw [← List.take_append_drop 24 words1, List.all_append, w_t1, w_t2]
  rfl
set_option maxRecDepth 65536 in
theorem w_case : (Jvm.Cond.and given_1 narrow_1).before args0 about1 = true := by decide +kernel
theorem w_applies : (headSpec (Jvm.Cond.code x code maxLocals ret :: tables_1) room_1).applies x e0.platform about1 = true :=
  (Spec.applies_iff w_frames).mpr ⟨w_running, w_runnable, w_alone, w_named, w_hears, w_ripe, w_room, w_tables⟩
theorem atStart : AtStart classFile x code maxLocals ret World_1 tables_1 room_1 Calls_1 rest_1 Pre_1 launch0 p0 e0 about1 theMethod args0 below0 :=
  ⟨lists_1, trivial, launch0.admits_env _ _ _, launch0.least_env, fairChoices_fair.cas, fairChoices_fair.clock, w_frames, w_args, w_heap, w_applies, trivial, trivial, w_case⟩
end start1
theorem witness_1 : WitnessClaimed_1 := ⟨start1.p0, start1.e0, start1.about1, start1.theMethod, start1.args0, start1.below0, start1.atStart⟩
end Jvm.Pilot.@@N@@
