import JvmDerived
import JvmDerived.Pilot.@@N@@Statement
import JvmDerived.Pilot.@@N@@Code
set_option linter.unusedVariables false
set_option linter.unusedSimpArgs false
namespace Jvm.RoadKit
open Sem ClassFile Op Lib Jvm.Stand Jvm.Free Jvm.LawKit
section OwnEnds
variable {p : Program} {l : Launch} {e : Env} {R : Room} {s : State} {m : MethodId} {args : Array Value} {below : List Frame} {meth : Method} {c : Code} {T T' : State} {locs : List Loc} {cells slots : Nat} {g g' : JFrame} {Q : Option Value → Heap → List Loc → Prop} {C N : Nat}
/-- from here (the state T, the frame g on top) the run ends, and what it leaves is Q -/
def RunsTo (p : Program) (e : Env) (below : List Frame) (s T : State) (g : JFrame) (Q : Option Value → Heap → List Loc → Prop) (C N : Nat) : Prop :=
  ∃ U o, Steps p.tables e below (T.setTop g) U ∧ U.status = .running ∧ Ended U below o ∧ ∃ v L, o = .returned v ∧ Q v U.heap L ∧ FrameEnd s o U L C N
theorem RunsTo.of (k : ∀ t, Steps p.tables e below (T'.setTop g') t → Steps p.tables e below (T.setTop g) t) (h : RunsTo p e below s T' g' Q C N) : RunsTo p e below s T g Q C N := by
  obtain ⟨U, o, k1, r⟩ := h
  exact ⟨U, o, k U k1, r⟩
theorem RunsTo.start (q : g = g') (h : RunsTo p e below s T g' Q C N) : ∃ U o, Steps p.tables e below (T.setTop g) U ∧ U.status = .running ∧ Ended U below o ∧ ∃ v L, o = .returned v ∧ Q v U.heap L ∧ FrameEnd s o U L C N := by
  subst q; exact h
theorem RunsTo.leave (X : Stand p l e R s m args below meth c T locs cells slots) {v : Option Value} (hv : meth.sig.returnType = none → v = none) (hlocks : meth.locks = false) (hq : Q v T.heap locs) (hC : cells ≤ C) (hN : slots ≤ N)
    (k : ∀ fs, (∀ (f : JFrame) (acts : List Action), f.method = m → f.locked = none → f.entered = [] → (doReturn e (T.setTop f) acts v).1 = T.setFrames fs) → Steps p.tables e below (T.setTop g) (T.setFrames fs)) : RunsTo p e below s T g Q C N := by
  obtain ⟨fs, hr, hrun, hended, hW, hsame⟩ := X.leave (v := v) hv hlocks
  exact ⟨_, _, k fs hr, hrun, hended, v, _, rfl, hq, ⟨_, rfl⟩, hW, hsame.mono hC hN⟩
theorem RunsTo.retI (X : Stand p l e R s m args below meth c T locs cells slots) (hx : p.tables.exec = Jvm.exec) {pc : Nat} {Ls : Array Slot} {z : Int32} {rest : List Value} (hret : meth.sig.returnType = some .int) (hlocks : meth.locks = false) (hd : decode c.code pc = .ok (.ireturn, 1)) (hq : Q (some (.int z)) T.heap locs) (hC : cells ≤ C) (hN : slots ≤ N) :
    RunsTo p e below s T (mkF m pc Ls (.int z :: rest)) Q C N := by
  refine RunsTo.leave X (fun h => by rw [hret] at h; cases h) hlocks hq hC hN fun fs hl => ?_
  have hm' : T.vm.method? m = some meth := X.method'
  have hn : narrow .int (.int z) = .int z := rfl
  show Steps p.tables e below (T.setTop { method := m, pc := pc, locals := Ls, stack := _ :: rest, locked := none }) _
  jvm_step X.here [X.here.top, hx, hd, hm', hret, hn]
  first | (intro acts; rw [hl _ acts rfl rfl rfl]) | rw [hl _ _ rfl rfl rfl]
  exact Steps.refl _
theorem RunsTo.retJ (X : Stand p l e R s m args below meth c T locs cells slots) (hx : p.tables.exec = Jvm.exec) {pc : Nat} {Ls : Array Slot} {z : Int64} {rest : List Value} (hret : meth.sig.returnType = some .long) (hlocks : meth.locks = false) (hd : decode c.code pc = .ok (.lreturn, 1)) (hq : Q (some (.long z)) T.heap locs) (hC : cells ≤ C) (hN : slots ≤ N) :
    RunsTo p e below s T (mkF m pc Ls (.long z :: rest)) Q C N := by
  refine RunsTo.leave X (fun h => by rw [hret] at h; cases h) hlocks hq hC hN fun fs hl => ?_
  have hm' : T.vm.method? m = some meth := X.method'
  show Steps p.tables e below (T.setTop { method := m, pc := pc, locals := Ls, stack := _ :: rest, locked := none }) _
  jvm_step X.here [X.here.top, hx, hd, hm', hret, narrow]
  first | (intro acts; rw [hl _ acts rfl rfl rfl]) | rw [hl _ _ rfl rfl rfl]
  exact Steps.refl _
theorem RunsTo.retA (X : Stand p l e R s m args below meth c T locs cells slots) (hx : p.tables.exec = Jvm.exec) {pc : Nat} {Ls : Array Slot} {z : Value} {ty : FieldType} (hret : meth.sig.returnType = some ty) (hty : ty.isReference = true) (hz : z.isRef = true) (hlocks : meth.locks = false) (hd : decode c.code pc = .ok (.areturn, 1)) (hq : Q (some z) T.heap locs) (hC : cells ≤ C) (hN : slots ≤ N) :
    RunsTo p e below s T (mkF m pc Ls [z]) Q C N :=
  RunsTo.leave X (fun h => by rw [hret] at h; cases h) hlocks hq hC hN fun fs hl => X.areturnOut hx hz hret hty hd hl
theorem RunsTo.retN (X : Stand p l e R s m args below meth c T locs cells slots) (hx : p.tables.exec = Jvm.exec) {pc : Nat} {Ls : Array Slot} {z : Int32} {t : FieldType} {rest : List Value} (hret : meth.sig.returnType = some t) (ht : t = .boolean ∨ t = .byte ∨ t = .char ∨ t = .short) (hlocks : meth.locks = false) (hd : decode c.code pc = .ok (.ireturn, 1)) (hq : Q (some (.int (nar t z))) T.heap locs) (hC : cells ≤ C) (hN : slots ≤ N) :
    RunsTo p e below s T (mkF m pc Ls (.int z :: rest)) Q C N :=
  RunsTo.leave X (fun h => by rw [hret] at h; cases h) hlocks hq hC hN fun fs hl => Jvm.RoadKit.retN X hx hret ht hd hl
theorem RunsTo.retV (X : Stand p l e R s m args below meth c T locs cells slots) (hx : p.tables.exec = Jvm.exec) {pc : Nat} {Ls : Array Slot} (hret : meth.sig.returnType = none) (hlocks : meth.locks = false) (hd : decode c.code pc = .ok (.return_, 1)) (hq : Q none T.heap locs) (hC : cells ≤ C) (hN : slots ≤ N) :
    RunsTo p e below s T (mkF m pc Ls []) Q C N :=
  RunsTo.leave X (fun _ => rfl) hlocks hq hC hN fun fs hl => X.returnOut hx hret hd hl
end OwnEnds
theorem nar_ref (ty : FieldType) {v : Value} (hv : v.isRef = true) : narrow ty v = v := by rcases ref_cases hv with rfl | ⟨a, rfl⟩ <;> cases ty <;> rfl
theorem fits_ref' {ty : FieldType} {v : Value} (h : ty.isReference = true) (hv : v.isRef = true) : fits ty v = true := by rcases ref_cases hv with rfl | ⟨a, rfl⟩ <;> cases ty <;> simp_all [fits, FieldType.isReference]
section OwnArf
variable {Z : State} {h h' : Heap} {a b : Addr} {c : Cell} {k : ClassId} {ty : FieldType} {z j : Int32} {f f' : Nat → Value} {v : Value} {sl : Nat} {ws : List Addr}
/-- an array: its kind, its length z, and what each place holds -/
def Arf (Z : State) (h : Heap) (a : Addr) (ty : FieldType) (z : Int32) (f : Nat → Value) : Prop := ∃ c : Cell, Arr Z h a c ty ∧ c.slots.size = z.toNatClampNeg ∧ ¬ z < 0 ∧ ∀ j, j < c.slots.size → c.slots[j]? = some (f j)
theorem Arf.lt (F : Arf Z h a ty z f) : a < h.size := by obtain ⟨c, A, -⟩ := F; exact A.lt
theorem Arf.ext (F : Arf Z h a ty z f) (E : Ext h h') : Arf Z h' a ty z f := by obtain ⟨c, A, r⟩ := F; exact ⟨c, A.ext E, r⟩
theorem Arf.other (F : Arf Z h b ty z f) (W : Wr h h' a sl v) (q : b ≠ a) : Arf Z h' b ty z f := by obtain ⟨c, A, r⟩ := F; exact ⟨c, A.other W q, r⟩
theorem Arf.keep (F : Arf Z h a ty z f) (K : Keep h h' ws) (q : a ∉ ws) : Arf Z h' a ty z f := by obtain ⟨c, A, r⟩ := F; exact ⟨c, ⟨K.2.1 a c A.1 q, A.2⟩, r⟩
theorem Arf.new (A : Arr Z h a (newA k ty z) ty) (q : ¬ z < 0) : Arf Z h a ty z (fun _ => defaultValue ty) := ⟨_, A, sz_new _ _ _, q, fun i hi => by rw [sz_new] at hi; simp [newA, hi]⟩
theorem Arf.congr (F : Arf Z h a ty z f) (q : ∀ i, i < z.toNatClampNeg → f i = f' i) : Arf Z h a ty z f' := by
  obtain ⟨c, A, S, M, H⟩ := F
  exact ⟨c, A, S, M, fun i hi => by rw [← q i (S ▸ hi)]; exact H i hi⟩
theorem Arf.set (A : Arr Z h a c ty) (S : c.slots.size = z.toNatClampNeg) (M : ¬ z < 0) (H : ∀ i, i < c.slots.size → c.slots[i]? = some (f i)) (W : Wr h h' a j.toNatClampNeg v) : Arf Z h' a ty z (fun i => if i = j.toNatClampNeg then v else f i) := by
  refine ⟨_, A.same W, by rw [sz_set]; exact S, M, fun i hi => ?_⟩
  rw [sz_set] at hi
  by_cases u : i = j.toNatClampNeg
  · subst u
    simp [Cell.setSlot, hi]
  · have : (c.setSlot j.toNatClampNeg v).slots[i]? = c.slots[i]? := by
      simp only [Cell.setSlot]; exact Array.getElem?_setIfInBounds_ne (Ne.symm u)
    rw [this]; show _ = some (if i = j.toNatClampNeg then v else f i); rw [if_neg u]; exact H i hi
end OwnArf
end Jvm.RoadKit
namespace Jvm.Pilot.@@N@@
open Jvm Jvm.ClassFile Sem Op Lib Jvm.Free Jvm.Stand Jvm.LawKit Jvm.RoadKit Bundle Jvm.Pilot.@@N@@.Jvm.D
theorem own_i2b (x : Int32) : nar .byte x.toInt8.toInt32 = x.toInt8.toInt32 := by
  show x.toInt8.toInt32.toInt8.toInt32 = x.toInt8.toInt32
  rw [Int8.toInt8_toInt32]
theorem own_and3 (x : Int32) : (x &&& 3) = 0 ∨ (x &&& 3) = 1 ∨ (x &&& 3) = 2 ∨ (x &&& 3) = 3 := by
  have h := c_mask x 3 2 (by decide) (by decide)
  have h1 := Int32.toInt_inj (x := x &&& 3) (y := 0)
  have h2 := Int32.toInt_inj (x := x &&& 3) (y := 1)
  have h3 := Int32.toInt_inj (x := x &&& 3) (y := 2)
  have h4 := Int32.toInt_inj (x := x &&& 3) (y := 3)
  rw [← h1, ← h2, ← h3, ← h4]
  simp only [show (0 : Int32).toInt = 0 from rfl, show (1 : Int32).toInt = 1 from rfl, show (2 : Int32).toInt = 2 from rfl, show (3 : Int32).toInt = 3 from rfl]
  omega
theorem d3_0 : decode jdk_30_method_1_code 0 = .ok (.aload_n 0, 1) := by decide +kernel
theorem d3_1 : decode jdk_30_method_1_code 1 = .ok (.invokespecial 1, 3) := by decide +kernel
theorem d3_4 : decode jdk_30_method_1_code 4 = .ok (.return_, 1) := by decide +kernel
theorem pn_0 : plainName "java/lang/Record" = true := by first | (simp [plainName, overriddenIn]; done) | decide +kernel
theorem ef_rm3 (m : MethodId) (x0 : Addr) : entryFrame m #[(.ref x0)] 1 = mkF m 0 #[.val (.ref x0)] [] := by first | (simp [entryFrame, mkF, argsToLocals, Value.category]; done) | rfl
def Q3 (Z : State) (b : Addr) (h0 : Heap) (n0 : Nat) (v : Option Value) (h : Heap) (L : List Loc) : Prop := v = none ∧ Fr n0 L ∧ h = h0
set_option maxRecDepth 65536 in
set_option maxHeartbeats 40000000 in
theorem rm3 (l : Launch) (Z : State) (a0 : Array Value) (hw : ∀ d ∈ tables_1, d.before a0 Z = true) (ws : List Jvm.Cond) (b : Addr) (h0 : Heap) (n0 : Nat) (Z0 : n0 ≤ h0.size)  :
    MetFree l (⟨"java/lang/Record", "<init>", "()V"⟩ : MethodName) (head1 (Jvm.Cond.code (⟨"java/lang/Record", "<init>", "()V"⟩ : MethodName) jdk_30_method_1_code 1 none :: ws) ({ frames := 1, cells := 0, slots := 0, locals := 12 } : Room)) (fun as' U => as' = #[(.ref b)] ∧ Z.Warmed39 U.vm ∧ U.heap = h0) (fun _ _ _ _ _ => True) (fun _ U o U' => ∃ v L, o = .returned v ∧ Q3 Z b h0 n0 v U'.heap L ∧ FrameEnd U o U' L ({ frames := 1, cells := 0, slots := 0, locals := 12 } : Room).cells ({ frames := 1, cells := 0, slots := 0, locals := 12 } : Room).slots) := by
  refine MetFree.of_bodySF (plainFor_of_name pn_0) hisR ?_
  intro p e s m args below meth c s₁ Bd hml0 hP hK
  obtain ⟨rfl, hZ, hh⟩ := hP
  have hx := Bd.exec
  have hby := Bd.bytes
  have hml : c.maxLocals = 1 := hml0
  have hown : s.vm.findClass "java/lang/Record" = some m.cls := findClass_of_methodNamed Bd.named
  have hnm := (name_of_methodNamed Bd.named Bd.method).1
  have X0 : Stand p l e ({ frames := 1, cells := 0, slots := 0, locals := 12 } : Room) s m #[(.ref b)] below meth c s₁ [] 0 0 := Stand.of_body Bd
  have e0 : s₁.heap = h0 := by rw [← hh, Bd.state]; rfl
  have N0 := Fr.nil n0
  refine RunsTo.start (ef_rm3 m b) ?_
  show RunsTo p e below s s₁ (mkF m 0 #[.val (.ref b)] []) (Q3 Z b h0 n0) ({ frames := 1, cells := 0, slots := 0, locals := 12 } : Room).cells ({ frames := 1, cells := 0, slots := 0, locals := 12 } : Room).slots
  refine RunsTo.of (T' := s₁) (g' := (mkF m 1 #[.val (.ref b)] [(.ref b)])) (fun t kt => ?_) ?_
  · refine XS.aloadN X0.here hx rfl (hb hby d3_0) rfl rfl ?_
    show Steps p.tables e below (s₁.setTop (mkF m 1 #[.val (.ref b)] [(.ref b)])) _
    exact kt
  obtain ⟨T1, X1, e1, st1⟩ := initO X0 hx hZ hown (hw _ (List.mem_of_getElem? (i := 16) rfl)) (hw _ (List.mem_of_getElem? (i := 17) rfl)) (hw _ (List.mem_of_getElem? (i := 18) rfl)) e0 (g := (mkF m 1 #[.val (.ref b)] [(.ref b)])) rfl (by rw [hml]; rfl) rfl (hb hby d3_1) (by decide) (W := 0) (by show 2 * 0 + _ ≤ _; exact Nat.le_of_eq rfl) (by decide)
  refine RunsTo.of (T' := T1) (g' := (mkF m 4 #[.val (.ref b)] [])) st1 ?_
  refine RunsTo.retV X1 hx Bd.returns Bd.notSynchronized (hb hby d3_4) ?_ (by decide) (by decide)
  rw [e1]
  exact ⟨rfl, N0, rfl⟩
theorem d2_0 : decode prog_66_method_1_code 0 = .ok (.aload_n 0, 1) := by decide +kernel
theorem pd_0 : parseMethodDescriptor "()V" = some ⟨[], none⟩ := by decide +kernel
theorem d2_1 : decode prog_66_method_1_code 1 = .ok (.invokespecial 1, 3) := by decide +kernel
theorem d2_4 : decode prog_66_method_1_code 4 = .ok (.aload_n 0, 1) := by decide +kernel
theorem d2_5 : decode prog_66_method_1_code 5 = .ok (.lload_n 1, 1) := by decide +kernel
theorem d2_6 : decode prog_66_method_1_code 6 = .ok (.putfield 7, 3) := by decide +kernel
theorem d2_9 : decode prog_66_method_1_code 9 = .ok (.aload_n 0, 1) := by decide +kernel
theorem d2_10 : decode prog_66_method_1_code 10 = .ok (.iload_n 3, 1) := by decide +kernel
theorem d2_11 : decode prog_66_method_1_code 11 = .ok (.putfield 13, 3) := by decide +kernel
theorem d2_14 : decode prog_66_method_1_code 14 = .ok (.aload_n 0, 1) := by decide +kernel
theorem d2_15 : decode prog_66_method_1_code 15 = .ok (.iload 4, 2) := by decide +kernel
theorem d2_17 : decode prog_66_method_1_code 17 = .ok (.putfield 17, 3) := by decide +kernel
theorem d2_20 : decode prog_66_method_1_code 20 = .ok (.aload_n 0, 1) := by decide +kernel
theorem d2_21 : decode prog_66_method_1_code 21 = .ok (.aload 5, 2) := by decide +kernel
theorem d2_23 : decode prog_66_method_1_code 23 = .ok (.putfield 20, 3) := by decide +kernel
theorem d2_26 : decode prog_66_method_1_code 26 = .ok (.return_, 1) := by decide +kernel
theorem pn_1 : plainName "com/example/clearfold/clearfold/trade/EventFeeds$Place" = true := by first | (simp [plainName, overriddenIn]; done) | decide +kernel
theorem ef_rm2 (m : MethodId) (x0 : Addr) (x1 : Int64) (x2 : Int32) (x3 : Int32) (x4 : Value) (hx4 : x4.isRef = true) : entryFrame m #[(.ref x0), (.long x1), (.int x2), (.int x3), x4] 6 = mkF m 0 #[.val (.ref x0), .val (.long x1), .second, .val (.int x2), .val (.int x3), .val x4] [] := by rcases ref_cases hx4 with rfl | ⟨_, rfl⟩ <;> first | (simp [entryFrame, mkF, argsToLocals, Value.category]; done) | rfl
def Q2 (Z : State) (b : Addr) (q1 : Int64) (p2 : Int32) (p3 : Int32) (r : Value) (hr : r.isRef = true) (h0 : Heap) (n0 : Nat) (v : Option Value) (h : Heap) (L : List Loc) : Prop := v = none ∧ Fr n0 L ∧ Keep h0 h [b] ∧ Exa Z h b "com/example/clearfold/clearfold/trade/EventFeeds$Place" ∧ Fld Z h b "com/example/clearfold/clearfold/trade/EventFeeds$Place" "record" "J" (.long q1) ∧ Fld Z h b "com/example/clearfold/clearfold/trade/EventFeeds$Place" "offset" "I" (.int p2) ∧ Fld Z h b "com/example/clearfold/clearfold/trade/EventFeeds$Place" "length" "I" (.int p3) ∧ Fld Z h b "com/example/clearfold/clearfold/trade/EventFeeds$Place" "kept" "[B" r
set_option maxRecDepth 65536 in
set_option maxHeartbeats 40000000 in
theorem rm2 (l : Launch) (Z : State) (a0 : Array Value) (hw : ∀ d ∈ tables_1, d.before a0 Z = true) (ws : List Jvm.Cond) (b : Addr) (q1 : Int64) (p2 : Int32) (p3 : Int32) (r : Value) (hr : r.isRef = true) (h0 : Heap) (n0 : Nat) (Z0 : n0 ≤ h0.size) (g_b : n0 ≤ b) (E_b : Exa Z h0 b "com/example/clearfold/clearfold/trade/EventFeeds$Place") (F_record_b : Fld Z h0 b "com/example/clearfold/clearfold/trade/EventFeeds$Place" "record" "J" (.long (0 : Int64))) (F_offset_b : Fld Z h0 b "com/example/clearfold/clearfold/trade/EventFeeds$Place" "offset" "I" (.int (0 : Int32))) (F_length_b : Fld Z h0 b "com/example/clearfold/clearfold/trade/EventFeeds$Place" "length" "I" (.int (0 : Int32))) (F_kept_b : Fld Z h0 b "com/example/clearfold/clearfold/trade/EventFeeds$Place" "kept" "[B" .null) :
    MetFree l (⟨"com/example/clearfold/clearfold/trade/EventFeeds$Place", "<init>", "(JII[B)V"⟩ : MethodName) (head1 (Jvm.Cond.code (⟨"com/example/clearfold/clearfold/trade/EventFeeds$Place", "<init>", "(JII[B)V"⟩ : MethodName) prog_66_method_1_code 6 none :: ws) ({ frames := 2, cells := 0, slots := 0, locals := 24 } : Room)) (fun as' U => as' = #[(.ref b), (.long q1), (.int p2), (.int p3), r] ∧ Z.Warmed39 U.vm ∧ U.heap = h0) (fun _ _ _ _ _ => True) (fun _ U o U' => ∃ v L, o = .returned v ∧ Q2 Z b q1 p2 p3 r hr h0 n0 v U'.heap L ∧ FrameEnd U o U' L ({ frames := 2, cells := 0, slots := 0, locals := 24 } : Room).cells ({ frames := 2, cells := 0, slots := 0, locals := 24 } : Room).slots) := by
  refine MetFree.of_bodySF (plainFor_of_name pn_1) hisR ?_
  intro p e s m args below meth c s₁ Bd hml0 hP hK
  obtain ⟨rfl, hZ, hh⟩ := hP
  have hx := Bd.exec
  have hby := Bd.bytes
  have hml : c.maxLocals = 6 := hml0
  have hown : s.vm.findClass "com/example/clearfold/clearfold/trade/EventFeeds$Place" = some m.cls := findClass_of_methodNamed Bd.named
  have hnm := (name_of_methodNamed Bd.named Bd.method).1
  have X0 : Stand p l e ({ frames := 2, cells := 0, slots := 0, locals := 24 } : Room) s m #[(.ref b), (.long q1), (.int p2), (.int p3), r] below meth c s₁ [] 0 0 := Stand.of_body Bd
  have e0 : s₁.heap = h0 := by rw [← hh, Bd.state]; rfl
  have N0 := Fr.nil n0
  refine RunsTo.start (ef_rm2 m b q1 p2 p3 r hr) ?_
  show RunsTo p e below s s₁ (mkF m 0 #[.val (.ref b), .val (.long q1), .second, .val (.int p2), .val (.int p3), .val r] []) (Q2 Z b q1 p2 p3 r hr h0 n0) ({ frames := 2, cells := 0, slots := 0, locals := 24 } : Room).cells ({ frames := 2, cells := 0, slots := 0, locals := 24 } : Room).slots
  refine RunsTo.of (T' := s₁) (g' := (mkF m 1 #[.val (.ref b), .val (.long q1), .second, .val (.int p2), .val (.int p3), .val r] [(.ref b)])) (fun t kt => ?_) ?_
  · refine XS.aloadN X0.here hx rfl (hb hby d2_0) rfl rfl ?_
    show Steps p.tables e below (s₁.setTop (mkF m 1 #[.val (.ref b), .val (.long q1), .second, .val (.int p2), .val (.int p3), .val r] [(.ref b)])) _
    exact kt
  obtain ⟨_, _, ⟨T1, L1, k1, n1⟩, -, X1, ⟨Lc1, hQ1, l1, y1, z1⟩, st1⟩ := X0.specialBack hx (y := (⟨"java/lang/Record", "<init>", "()V"⟩ : MethodName)) rfl hown (mvT hZ (hw _ (List.mem_of_getElem? (i := 11) rfl))) (mvT hZ (hw _ (List.mem_of_getElem? (i := 12) rfl))) (mvT hZ (hw _ (List.mem_of_getElem? (i := 15) rfl))) (by decide) (backOf (W := 0) (rm3 l Z a0 hw [] b h0 n0 Z0 ) hZ (hw _ (List.mem_of_getElem? (i := 15) rfl)) (hw _ (List.mem_of_getElem? (i := 14) rfl)) (by decide) (by decide)) (g := (mkF m 1 #[.val (.ref b), .val (.long q1), .second, .val (.int p2), .val (.int p3), .val r] [(.ref b)])) rfl (by rw [hml]; rfl) (Steps.refl _) (a := b) (argsL := []) (rest := []) (lenOf pd_0 rfl) rfl (by show 2 * 0 + _ ≤ _; exact Nat.le_of_eq rfl) (hb hby d2_1) (fun _ _ => ⟨rfl, e0, (by decide : 0 + 0 ≤ _), (by decide : 0 + 0 ≤ _)⟩)
  dsimp only [Pt.U, Pt.locs, Pt.cells, Pt.slots] at X1 l1 y1 z1 st1 hQ1
  subst l1 y1 z1
  obtain ⟨rfl, N1q, e1⟩ := hQ1
  have N1 := Fr.app N0 N1q
  refine RunsTo.of (T' := T1) (g' := (mkF m 4 #[.val (.ref b), .val (.long q1), .second, .val (.int p2), .val (.int p3), .val r] [])) (fun _ kt => st1.trans kt) ?_
  refine RunsTo.of (T' := T1) (g' := (mkF m 6 #[.val (.ref b), .val (.long q1), .second, .val (.int p2), .val (.int p3), .val r] [(.long q1), (.ref b)])) (fun t kt => ?_) ?_
  · refine XS.aloadN X1.here hx rfl (hb hby d2_4) rfl rfl ?_
    show Steps p.tables e below (T1.setTop (mkF m 5 #[.val (.ref b), .val (.long q1), .second, .val (.int p2), .val (.int p3), .val r] [(.ref b)])) _
    refine XS.lloadN X1.here hx rfl (hb hby d2_5) rfl ?_
    show Steps p.tables e below (T1.setTop (mkF m 6 #[.val (.ref b), .val (.long q1), .second, .val (.int p2), .val (.int p3), .val r] [(.long q1), (.ref b)])) _
    exact kt
  obtain ⟨T2, h2, X2, e2, W2, st2⟩ := putF X1 hx hZ hown (host := "") (Or.inl (hw _ (List.mem_of_getElem? (i := 19) rfl))) Via.refl e1 F_record_b E_b (Or.inr ⟨(hw _ (List.mem_of_getElem? (i := 20) rfl)), rfl, hnm⟩) (hw _ (List.mem_of_getElem? (i := 6) rfl)) (ty := .long) (by decide) rfl rfl (g := (mkF m 6 #[.val (.ref b), .val (.long q1), .second, .val (.int p2), .val (.int p3), .val r] [(.long q1), (.ref b)])) rfl rfl (hb hby d2_6)
  have N2 := Fr.snoc X2 N1 g_b
  have Z2 : n0 ≤ h2.size := Nat.le_trans Z0 (Nat.le_of_eq W2.size.symm)
  have E_b := E_b.wr W2
  have F_record_b := F_record_b.same W2
  have F_offset_b := F_offset_b.other W2 (Or.inr (slot_ne (Or.inr (hw _ (List.mem_of_getElem? (i := 22) rfl))) (Or.inr (hw _ (List.mem_of_getElem? (i := 20) rfl))) (by decide) (t := .int) (t' := .long) (by decide) (by decide)))
  have F_length_b := F_length_b.other W2 (Or.inr (slot_ne (Or.inr (hw _ (List.mem_of_getElem? (i := 24) rfl))) (Or.inr (hw _ (List.mem_of_getElem? (i := 20) rfl))) (by decide) (t := .int) (t' := .long) (by decide) (by decide)))
  have F_kept_b := F_kept_b.other W2 (Or.inr (slot_ne (Or.inr (hw _ (List.mem_of_getElem? (i := 26) rfl))) (Or.inr (hw _ (List.mem_of_getElem? (i := 20) rfl))) (by decide) (t := (.array .byte)) (t' := .long) (by decide) (by decide)))
  refine RunsTo.of (T' := T2) (g' := (mkF m 9 #[.val (.ref b), .val (.long q1), .second, .val (.int p2), .val (.int p3), .val r] [])) st2 ?_
  refine RunsTo.of (T' := T2) (g' := (mkF m 11 #[.val (.ref b), .val (.long q1), .second, .val (.int p2), .val (.int p3), .val r] [(.int p2), (.ref b)])) (fun t kt => ?_) ?_
  · refine XS.aloadN X2.here hx rfl (hb hby d2_9) rfl rfl ?_
    show Steps p.tables e below (T2.setTop (mkF m 10 #[.val (.ref b), .val (.long q1), .second, .val (.int p2), .val (.int p3), .val r] [(.ref b)])) _
    refine XS.iloadN X2.here hx rfl (hb hby d2_10) rfl ?_
    show Steps p.tables e below (T2.setTop (mkF m 11 #[.val (.ref b), .val (.long q1), .second, .val (.int p2), .val (.int p3), .val r] [(.int p2), (.ref b)])) _
    exact kt
  obtain ⟨T3, h3, X3, e3, W3, st3⟩ := putF X2 hx hZ hown (host := "") (Or.inl (hw _ (List.mem_of_getElem? (i := 21) rfl))) Via.refl e2 F_offset_b E_b (Or.inr ⟨(hw _ (List.mem_of_getElem? (i := 22) rfl)), rfl, hnm⟩) (hw _ (List.mem_of_getElem? (i := 6) rfl)) (ty := .int) (by decide) rfl rfl (g := (mkF m 11 #[.val (.ref b), .val (.long q1), .second, .val (.int p2), .val (.int p3), .val r] [(.int p2), (.ref b)])) rfl rfl (hb hby d2_11)
  have N3 := Fr.snoc X3 N2 g_b
  have Z3 : n0 ≤ h3.size := Nat.le_trans Z2 (Nat.le_of_eq W3.size.symm)
  have E_b := E_b.wr W3
  have F_record_b := F_record_b.other W3 (Or.inr (slot_ne (Or.inr (hw _ (List.mem_of_getElem? (i := 20) rfl))) (Or.inr (hw _ (List.mem_of_getElem? (i := 22) rfl))) (by decide) (t := .long) (t' := .int) (by decide) (by decide)))
  have F_offset_b := F_offset_b.same W3
  have F_length_b := F_length_b.other W3 (Or.inr (slot_ne (Or.inr (hw _ (List.mem_of_getElem? (i := 24) rfl))) (Or.inr (hw _ (List.mem_of_getElem? (i := 22) rfl))) (by decide) (t := .int) (t' := .int) (by decide) (by decide)))
  have F_kept_b := F_kept_b.other W3 (Or.inr (slot_ne (Or.inr (hw _ (List.mem_of_getElem? (i := 26) rfl))) (Or.inr (hw _ (List.mem_of_getElem? (i := 22) rfl))) (by decide) (t := (.array .byte)) (t' := .int) (by decide) (by decide)))
  refine RunsTo.of (T' := T3) (g' := (mkF m 14 #[.val (.ref b), .val (.long q1), .second, .val (.int p2), .val (.int p3), .val r] [])) st3 ?_
  refine RunsTo.of (T' := T3) (g' := (mkF m 17 #[.val (.ref b), .val (.long q1), .second, .val (.int p2), .val (.int p3), .val r] [(.int p3), (.ref b)])) (fun t kt => ?_) ?_
  · refine XS.aloadN X3.here hx rfl (hb hby d2_14) rfl rfl ?_
    show Steps p.tables e below (T3.setTop (mkF m 15 #[.val (.ref b), .val (.long q1), .second, .val (.int p2), .val (.int p3), .val r] [(.ref b)])) _
    refine XS.iload X3.here hx rfl (hb hby d2_15) rfl ?_
    show Steps p.tables e below (T3.setTop (mkF m 17 #[.val (.ref b), .val (.long q1), .second, .val (.int p2), .val (.int p3), .val r] [(.int p3), (.ref b)])) _
    exact kt
  obtain ⟨T4, h4, X4, e4, W4, st4⟩ := putF X3 hx hZ hown (host := "") (Or.inl (hw _ (List.mem_of_getElem? (i := 23) rfl))) Via.refl e3 F_length_b E_b (Or.inr ⟨(hw _ (List.mem_of_getElem? (i := 24) rfl)), rfl, hnm⟩) (hw _ (List.mem_of_getElem? (i := 6) rfl)) (ty := .int) (by decide) rfl rfl (g := (mkF m 17 #[.val (.ref b), .val (.long q1), .second, .val (.int p2), .val (.int p3), .val r] [(.int p3), (.ref b)])) rfl rfl (hb hby d2_17)
  have N4 := Fr.snoc X4 N3 g_b
  have Z4 : n0 ≤ h4.size := Nat.le_trans Z3 (Nat.le_of_eq W4.size.symm)
  have E_b := E_b.wr W4
  have F_record_b := F_record_b.other W4 (Or.inr (slot_ne (Or.inr (hw _ (List.mem_of_getElem? (i := 20) rfl))) (Or.inr (hw _ (List.mem_of_getElem? (i := 24) rfl))) (by decide) (t := .long) (t' := .int) (by decide) (by decide)))
  have F_offset_b := F_offset_b.other W4 (Or.inr (slot_ne (Or.inr (hw _ (List.mem_of_getElem? (i := 22) rfl))) (Or.inr (hw _ (List.mem_of_getElem? (i := 24) rfl))) (by decide) (t := .int) (t' := .int) (by decide) (by decide)))
  have F_length_b := F_length_b.same W4
  have F_kept_b := F_kept_b.other W4 (Or.inr (slot_ne (Or.inr (hw _ (List.mem_of_getElem? (i := 26) rfl))) (Or.inr (hw _ (List.mem_of_getElem? (i := 24) rfl))) (by decide) (t := (.array .byte)) (t' := .int) (by decide) (by decide)))
  refine RunsTo.of (T' := T4) (g' := (mkF m 20 #[.val (.ref b), .val (.long q1), .second, .val (.int p2), .val (.int p3), .val r] [])) st4 ?_
  refine RunsTo.of (T' := T4) (g' := (mkF m 23 #[.val (.ref b), .val (.long q1), .second, .val (.int p2), .val (.int p3), .val r] [r, (.ref b)])) (fun t kt => ?_) ?_
  · refine XS.aloadN X4.here hx rfl (hb hby d2_20) rfl rfl ?_
    show Steps p.tables e below (T4.setTop (mkF m 21 #[.val (.ref b), .val (.long q1), .second, .val (.int p2), .val (.int p3), .val r] [(.ref b)])) _
    refine XS.aload X4.here hx rfl (hb hby d2_21) rfl hr ?_
    show Steps p.tables e below (T4.setTop (mkF m 23 #[.val (.ref b), .val (.long q1), .second, .val (.int p2), .val (.int p3), .val r] [r, (.ref b)])) _
    exact kt
  obtain ⟨T5, h5, X5, e5, W5, st5⟩ := putF X4 hx hZ hown (host := "") (Or.inl (hw _ (List.mem_of_getElem? (i := 25) rfl))) Via.refl e4 F_kept_b E_b (Or.inr ⟨(hw _ (List.mem_of_getElem? (i := 26) rfl)), rfl, hnm⟩) (hw _ (List.mem_of_getElem? (i := 6) rfl)) (ty := (.array .byte)) (by decide) (nar_ref _ hr) (fits_ref' rfl hr) (g := (mkF m 23 #[.val (.ref b), .val (.long q1), .second, .val (.int p2), .val (.int p3), .val r] [r, (.ref b)])) rfl rfl (hb hby d2_23)
  have N5 := Fr.snoc X5 N4 g_b
  have Z5 : n0 ≤ h5.size := Nat.le_trans Z4 (Nat.le_of_eq W5.size.symm)
  have E_b := E_b.wr W5
  have F_record_b := F_record_b.other W5 (Or.inr (slot_ne (Or.inr (hw _ (List.mem_of_getElem? (i := 20) rfl))) (Or.inr (hw _ (List.mem_of_getElem? (i := 26) rfl))) (by decide) (t := .long) (t' := (.array .byte)) (by decide) (by decide)))
  have F_offset_b := F_offset_b.other W5 (Or.inr (slot_ne (Or.inr (hw _ (List.mem_of_getElem? (i := 22) rfl))) (Or.inr (hw _ (List.mem_of_getElem? (i := 26) rfl))) (by decide) (t := .int) (t' := (.array .byte)) (by decide) (by decide)))
  have F_length_b := F_length_b.other W5 (Or.inr (slot_ne (Or.inr (hw _ (List.mem_of_getElem? (i := 24) rfl))) (Or.inr (hw _ (List.mem_of_getElem? (i := 26) rfl))) (by decide) (t := .int) (t' := (.array .byte)) (by decide) (by decide)))
  have F_kept_b := F_kept_b.same W5
  refine RunsTo.of (T' := T5) (g' := (mkF m 26 #[.val (.ref b), .val (.long q1), .second, .val (.int p2), .val (.int p3), .val r] [])) st5 ?_
  refine RunsTo.retV X5 hx Bd.returns Bd.notSynchronized (hb hby d2_26) ?_ (by decide) (by decide)
  rw [e5]
  exact ⟨rfl, N5, (((((Keep.refl h0 [b]).wr W2 (Or.inl (List.mem_of_getElem? (i := 0) rfl))).wr W3 (Or.inl (List.mem_of_getElem? (i := 0) rfl))).wr W4 (Or.inl (List.mem_of_getElem? (i := 0) rfl))).wr W5 (Or.inl (List.mem_of_getElem? (i := 0) rfl))), E_b, F_record_b, F_offset_b, F_length_b, F_kept_b⟩
theorem d5_0 : decode prog_66_method_7_code 0 = .ok (.aload_n 0, 1) := by decide +kernel
theorem d5_1 : decode prog_66_method_7_code 1 = .ok (.getfield 7, 3) := by decide +kernel
theorem d5_4 : decode prog_66_method_7_code 4 = .ok (.lreturn, 1) := by decide +kernel
theorem ef_rm5 (m : MethodId) (x0 : Addr) : entryFrame m #[(.ref x0)] 1 = mkF m 0 #[.val (.ref x0)] [] := by first | (simp [entryFrame, mkF, argsToLocals, Value.category]; done) | rfl
def Q5 (Z : State) (b : Addr) (w : Int64) (h0 : Heap) (n0 : Nat) (v : Option Value) (h : Heap) (L : List Loc) : Prop := v = some (.long w) ∧ Fr n0 L ∧ h = h0
set_option maxRecDepth 65536 in
set_option maxHeartbeats 40000000 in
theorem rm5 (l : Launch) (Z : State) (a0 : Array Value) (hw : ∀ d ∈ tables_1, d.before a0 Z = true) (ws : List Jvm.Cond) (b : Addr) (w : Int64) (h0 : Heap) (n0 : Nat) (Z0 : n0 ≤ h0.size) (F_b : Fld Z h0 b "com/example/clearfold/clearfold/trade/EventFeeds$Place" "record" "J" (.long w)) :
    MetFree l (⟨"com/example/clearfold/clearfold/trade/EventFeeds$Place", "record", "()J"⟩ : MethodName) (head1 (Jvm.Cond.code (⟨"com/example/clearfold/clearfold/trade/EventFeeds$Place", "record", "()J"⟩ : MethodName) prog_66_method_7_code 1 (some .long) :: ws) ({ frames := 0, cells := 0, slots := 0, locals := 0 } : Room)) (fun as' U => as' = #[(.ref b)] ∧ Z.Warmed39 U.vm ∧ U.heap = h0) (fun _ _ _ _ _ => True) (fun _ U o U' => ∃ v L, o = .returned v ∧ Q5 Z b w h0 n0 v U'.heap L ∧ FrameEnd U o U' L ({ frames := 0, cells := 0, slots := 0, locals := 0 } : Room).cells ({ frames := 0, cells := 0, slots := 0, locals := 0 } : Room).slots) := by
  refine MetFree.of_bodySF (plainFor_of_name pn_1) hisR ?_
  intro p e s m args below meth c s₁ Bd hml0 hP hK
  obtain ⟨rfl, hZ, hh⟩ := hP
  have hx := Bd.exec
  have hby := Bd.bytes
  have hml : c.maxLocals = 1 := hml0
  have hown : s.vm.findClass "com/example/clearfold/clearfold/trade/EventFeeds$Place" = some m.cls := findClass_of_methodNamed Bd.named
  have hnm := (name_of_methodNamed Bd.named Bd.method).1
  have X0 : Stand p l e ({ frames := 0, cells := 0, slots := 0, locals := 0 } : Room) s m #[(.ref b)] below meth c s₁ [] 0 0 := Stand.of_body Bd
  have e0 : s₁.heap = h0 := by rw [← hh, Bd.state]; rfl
  have N0 := Fr.nil n0
  refine RunsTo.start (ef_rm5 m b) ?_
  show RunsTo p e below s s₁ (mkF m 0 #[.val (.ref b)] []) (Q5 Z b w h0 n0) ({ frames := 0, cells := 0, slots := 0, locals := 0 } : Room).cells ({ frames := 0, cells := 0, slots := 0, locals := 0 } : Room).slots
  refine RunsTo.of (T' := s₁) (g' := (mkF m 1 #[.val (.ref b)] [(.ref b)])) (fun t kt => ?_) ?_
  · refine XS.aloadN X0.here hx rfl (hb hby d5_0) rfl rfl ?_
    show Steps p.tables e below (s₁.setTop (mkF m 1 #[.val (.ref b)] [(.ref b)])) _
    exact kt
  obtain ⟨T1, X1, e1, st1⟩ := getF X0 hx hZ hown (host := "") (Or.inl (hw _ (List.mem_of_getElem? (i := 19) rfl))) Via.refl e0 F_b (g := (mkF m 1 #[.val (.ref b)] [(.ref b)])) rfl rfl (hb hby d5_1)
  refine RunsTo.of (T' := T1) (g' := (mkF m 4 #[.val (.ref b)] [(.long w)])) st1 ?_
  refine RunsTo.retJ X1 hx Bd.returns Bd.notSynchronized (hb hby d5_4) ?_ (by decide) (by decide)
  rw [e1]
  exact ⟨rfl, N0, rfl⟩
theorem d6_0 : decode prog_66_method_8_code 0 = .ok (.aload_n 0, 1) := by decide +kernel
theorem d6_1 : decode prog_66_method_8_code 1 = .ok (.getfield 13, 3) := by decide +kernel
theorem d6_4 : decode prog_66_method_8_code 4 = .ok (.ireturn, 1) := by decide +kernel
theorem ef_rm6 (m : MethodId) (x0 : Addr) : entryFrame m #[(.ref x0)] 1 = mkF m 0 #[.val (.ref x0)] [] := by first | (simp [entryFrame, mkF, argsToLocals, Value.category]; done) | rfl
def Q6 (Z : State) (b : Addr) (w : Int32) (h0 : Heap) (n0 : Nat) (v : Option Value) (h : Heap) (L : List Loc) : Prop := v = some (.int w) ∧ Fr n0 L ∧ h = h0
set_option maxRecDepth 65536 in
set_option maxHeartbeats 40000000 in
theorem rm6 (l : Launch) (Z : State) (a0 : Array Value) (hw : ∀ d ∈ tables_1, d.before a0 Z = true) (ws : List Jvm.Cond) (b : Addr) (w : Int32) (h0 : Heap) (n0 : Nat) (Z0 : n0 ≤ h0.size) (F_b : Fld Z h0 b "com/example/clearfold/clearfold/trade/EventFeeds$Place" "offset" "I" (.int w)) :
    MetFree l (⟨"com/example/clearfold/clearfold/trade/EventFeeds$Place", "offset", "()I"⟩ : MethodName) (head1 (Jvm.Cond.code (⟨"com/example/clearfold/clearfold/trade/EventFeeds$Place", "offset", "()I"⟩ : MethodName) prog_66_method_8_code 1 (some .int) :: ws) ({ frames := 0, cells := 0, slots := 0, locals := 0 } : Room)) (fun as' U => as' = #[(.ref b)] ∧ Z.Warmed39 U.vm ∧ U.heap = h0) (fun _ _ _ _ _ => True) (fun _ U o U' => ∃ v L, o = .returned v ∧ Q6 Z b w h0 n0 v U'.heap L ∧ FrameEnd U o U' L ({ frames := 0, cells := 0, slots := 0, locals := 0 } : Room).cells ({ frames := 0, cells := 0, slots := 0, locals := 0 } : Room).slots) := by
  refine MetFree.of_bodySF (plainFor_of_name pn_1) hisR ?_
  intro p e s m args below meth c s₁ Bd hml0 hP hK
  obtain ⟨rfl, hZ, hh⟩ := hP
  have hx := Bd.exec
  have hby := Bd.bytes
  have hml : c.maxLocals = 1 := hml0
  have hown : s.vm.findClass "com/example/clearfold/clearfold/trade/EventFeeds$Place" = some m.cls := findClass_of_methodNamed Bd.named
  have hnm := (name_of_methodNamed Bd.named Bd.method).1
  have X0 : Stand p l e ({ frames := 0, cells := 0, slots := 0, locals := 0 } : Room) s m #[(.ref b)] below meth c s₁ [] 0 0 := Stand.of_body Bd
  have e0 : s₁.heap = h0 := by rw [← hh, Bd.state]; rfl
  have N0 := Fr.nil n0
  refine RunsTo.start (ef_rm6 m b) ?_
  show RunsTo p e below s s₁ (mkF m 0 #[.val (.ref b)] []) (Q6 Z b w h0 n0) ({ frames := 0, cells := 0, slots := 0, locals := 0 } : Room).cells ({ frames := 0, cells := 0, slots := 0, locals := 0 } : Room).slots
  refine RunsTo.of (T' := s₁) (g' := (mkF m 1 #[.val (.ref b)] [(.ref b)])) (fun t kt => ?_) ?_
  · refine XS.aloadN X0.here hx rfl (hb hby d6_0) rfl rfl ?_
    show Steps p.tables e below (s₁.setTop (mkF m 1 #[.val (.ref b)] [(.ref b)])) _
    exact kt
  obtain ⟨T1, X1, e1, st1⟩ := getF X0 hx hZ hown (host := "") (Or.inl (hw _ (List.mem_of_getElem? (i := 21) rfl))) Via.refl e0 F_b (g := (mkF m 1 #[.val (.ref b)] [(.ref b)])) rfl rfl (hb hby d6_1)
  refine RunsTo.of (T' := T1) (g' := (mkF m 4 #[.val (.ref b)] [(.int w)])) st1 ?_
  refine RunsTo.retI X1 hx Bd.returns Bd.notSynchronized (hb hby d6_4) ?_ (by decide) (by decide)
  rw [e1]
  exact ⟨rfl, N0, rfl⟩
theorem d7_0 : decode prog_66_method_9_code 0 = .ok (.aload_n 0, 1) := by decide +kernel
theorem d7_1 : decode prog_66_method_9_code 1 = .ok (.getfield 17, 3) := by decide +kernel
theorem d7_4 : decode prog_66_method_9_code 4 = .ok (.ireturn, 1) := by decide +kernel
theorem ef_rm7 (m : MethodId) (x0 : Addr) : entryFrame m #[(.ref x0)] 1 = mkF m 0 #[.val (.ref x0)] [] := by first | (simp [entryFrame, mkF, argsToLocals, Value.category]; done) | rfl
def Q7 (Z : State) (b : Addr) (w : Int32) (h0 : Heap) (n0 : Nat) (v : Option Value) (h : Heap) (L : List Loc) : Prop := v = some (.int w) ∧ Fr n0 L ∧ h = h0
set_option maxRecDepth 65536 in
set_option maxHeartbeats 40000000 in
theorem rm7 (l : Launch) (Z : State) (a0 : Array Value) (hw : ∀ d ∈ tables_1, d.before a0 Z = true) (ws : List Jvm.Cond) (b : Addr) (w : Int32) (h0 : Heap) (n0 : Nat) (Z0 : n0 ≤ h0.size) (F_b : Fld Z h0 b "com/example/clearfold/clearfold/trade/EventFeeds$Place" "length" "I" (.int w)) :
    MetFree l (⟨"com/example/clearfold/clearfold/trade/EventFeeds$Place", "length", "()I"⟩ : MethodName) (head1 (Jvm.Cond.code (⟨"com/example/clearfold/clearfold/trade/EventFeeds$Place", "length", "()I"⟩ : MethodName) prog_66_method_9_code 1 (some .int) :: ws) ({ frames := 0, cells := 0, slots := 0, locals := 0 } : Room)) (fun as' U => as' = #[(.ref b)] ∧ Z.Warmed39 U.vm ∧ U.heap = h0) (fun _ _ _ _ _ => True) (fun _ U o U' => ∃ v L, o = .returned v ∧ Q7 Z b w h0 n0 v U'.heap L ∧ FrameEnd U o U' L ({ frames := 0, cells := 0, slots := 0, locals := 0 } : Room).cells ({ frames := 0, cells := 0, slots := 0, locals := 0 } : Room).slots) := by
  refine MetFree.of_bodySF (plainFor_of_name pn_1) hisR ?_
  intro p e s m args below meth c s₁ Bd hml0 hP hK
  obtain ⟨rfl, hZ, hh⟩ := hP
  have hx := Bd.exec
  have hby := Bd.bytes
  have hml : c.maxLocals = 1 := hml0
  have hown : s.vm.findClass "com/example/clearfold/clearfold/trade/EventFeeds$Place" = some m.cls := findClass_of_methodNamed Bd.named
  have hnm := (name_of_methodNamed Bd.named Bd.method).1
  have X0 : Stand p l e ({ frames := 0, cells := 0, slots := 0, locals := 0 } : Room) s m #[(.ref b)] below meth c s₁ [] 0 0 := Stand.of_body Bd
  have e0 : s₁.heap = h0 := by rw [← hh, Bd.state]; rfl
  have N0 := Fr.nil n0
  refine RunsTo.start (ef_rm7 m b) ?_
  show RunsTo p e below s s₁ (mkF m 0 #[.val (.ref b)] []) (Q7 Z b w h0 n0) ({ frames := 0, cells := 0, slots := 0, locals := 0 } : Room).cells ({ frames := 0, cells := 0, slots := 0, locals := 0 } : Room).slots
  refine RunsTo.of (T' := s₁) (g' := (mkF m 1 #[.val (.ref b)] [(.ref b)])) (fun t kt => ?_) ?_
  · refine XS.aloadN X0.here hx rfl (hb hby d7_0) rfl rfl ?_
    show Steps p.tables e below (s₁.setTop (mkF m 1 #[.val (.ref b)] [(.ref b)])) _
    exact kt
  obtain ⟨T1, X1, e1, st1⟩ := getF X0 hx hZ hown (host := "") (Or.inl (hw _ (List.mem_of_getElem? (i := 23) rfl))) Via.refl e0 F_b (g := (mkF m 1 #[.val (.ref b)] [(.ref b)])) rfl rfl (hb hby d7_1)
  refine RunsTo.of (T' := T1) (g' := (mkF m 4 #[.val (.ref b)] [(.int w)])) st1 ?_
  refine RunsTo.retI X1 hx Bd.returns Bd.notSynchronized (hb hby d7_4) ?_ (by decide) (by decide)
  rw [e1]
  exact ⟨rfl, N0, rfl⟩
theorem d8_0 : decode prog_66_method_10_code 0 = .ok (.aload_n 0, 1) := by decide +kernel
theorem d8_1 : decode prog_66_method_10_code 1 = .ok (.getfield 20, 3) := by decide +kernel
theorem d8_4 : decode prog_66_method_10_code 4 = .ok (.areturn, 1) := by decide +kernel
theorem ef_rm8 (m : MethodId) (x0 : Addr) : entryFrame m #[(.ref x0)] 1 = mkF m 0 #[.val (.ref x0)] [] := by first | (simp [entryFrame, mkF, argsToLocals, Value.category]; done) | rfl
def Q8 (Z : State) (b : Addr) (w : Value) (hwr : w.isRef = true) (h0 : Heap) (n0 : Nat) (v : Option Value) (h : Heap) (L : List Loc) : Prop := v = some w ∧ Fr n0 L ∧ h = h0
set_option maxRecDepth 65536 in
set_option maxHeartbeats 40000000 in
theorem rm8 (l : Launch) (Z : State) (a0 : Array Value) (hw : ∀ d ∈ tables_1, d.before a0 Z = true) (ws : List Jvm.Cond) (b : Addr) (w : Value) (hwr : w.isRef = true) (h0 : Heap) (n0 : Nat) (Z0 : n0 ≤ h0.size) (F_b : Fld Z h0 b "com/example/clearfold/clearfold/trade/EventFeeds$Place" "kept" "[B" w) :
    MetFree l (⟨"com/example/clearfold/clearfold/trade/EventFeeds$Place", "kept", "()[B"⟩ : MethodName) (head1 (Jvm.Cond.code (⟨"com/example/clearfold/clearfold/trade/EventFeeds$Place", "kept", "()[B"⟩ : MethodName) prog_66_method_10_code 1 (some (.array .byte)) :: ws) ({ frames := 0, cells := 0, slots := 0, locals := 0 } : Room)) (fun as' U => as' = #[(.ref b)] ∧ Z.Warmed39 U.vm ∧ U.heap = h0) (fun _ _ _ _ _ => True) (fun _ U o U' => ∃ v L, o = .returned v ∧ Q8 Z b w hwr h0 n0 v U'.heap L ∧ FrameEnd U o U' L ({ frames := 0, cells := 0, slots := 0, locals := 0 } : Room).cells ({ frames := 0, cells := 0, slots := 0, locals := 0 } : Room).slots) := by
  refine MetFree.of_bodySF (plainFor_of_name pn_1) hisR ?_
  intro p e s m args below meth c s₁ Bd hml0 hP hK
  obtain ⟨rfl, hZ, hh⟩ := hP
  have hx := Bd.exec
  have hby := Bd.bytes
  have hml : c.maxLocals = 1 := hml0
  have hown : s.vm.findClass "com/example/clearfold/clearfold/trade/EventFeeds$Place" = some m.cls := findClass_of_methodNamed Bd.named
  have hnm := (name_of_methodNamed Bd.named Bd.method).1
  have X0 : Stand p l e ({ frames := 0, cells := 0, slots := 0, locals := 0 } : Room) s m #[(.ref b)] below meth c s₁ [] 0 0 := Stand.of_body Bd
  have e0 : s₁.heap = h0 := by rw [← hh, Bd.state]; rfl
  have N0 := Fr.nil n0
  refine RunsTo.start (ef_rm8 m b) ?_
  show RunsTo p e below s s₁ (mkF m 0 #[.val (.ref b)] []) (Q8 Z b w hwr h0 n0) ({ frames := 0, cells := 0, slots := 0, locals := 0 } : Room).cells ({ frames := 0, cells := 0, slots := 0, locals := 0 } : Room).slots
  refine RunsTo.of (T' := s₁) (g' := (mkF m 1 #[.val (.ref b)] [(.ref b)])) (fun t kt => ?_) ?_
  · refine XS.aloadN X0.here hx rfl (hb hby d8_0) rfl rfl ?_
    show Steps p.tables e below (s₁.setTop (mkF m 1 #[.val (.ref b)] [(.ref b)])) _
    exact kt
  obtain ⟨T1, X1, e1, st1⟩ := getF X0 hx hZ hown (host := "") (Or.inl (hw _ (List.mem_of_getElem? (i := 25) rfl))) Via.refl e0 F_b (g := (mkF m 1 #[.val (.ref b)] [(.ref b)])) rfl rfl (hb hby d8_1)
  refine RunsTo.of (T' := T1) (g' := (mkF m 4 #[.val (.ref b)] [w])) st1 ?_
  refine RunsTo.retA X1 hx Bd.returns rfl hwr Bd.notSynchronized (hb hby d8_4) ?_ (by decide) (by decide)
  rw [e1]
  exact ⟨rfl, N0, rfl⟩
theorem d1_0 : decode prog_66_method_3_code 0 = .ok (.new 8, 3) := by decide +kernel
theorem d1_3 : decode prog_66_method_3_code 3 = .ok (.dup, 1) := by decide +kernel
theorem d1_4 : decode prog_66_method_3_code 4 = .ok (.ldc2_w 27, 3) := by decide +kernel
theorem d1_7 : decode prog_66_method_3_code 7 = .ok (.iconst 0, 1) := by decide +kernel
theorem d1_8 : decode prog_66_method_3_code 8 = .ok (.aload_n 0, 1) := by decide +kernel
theorem d1_9 : decode prog_66_method_3_code 9 = .ok (.arraylength, 1) := by decide +kernel
theorem d1_10 : decode prog_66_method_3_code 10 = .ok (.aload_n 0, 1) := by decide +kernel
theorem pd_1 : parseMethodDescriptor "(JII[B)V" = some ⟨[.long, .int, .int, (.array .byte)], none⟩ := by decide +kernel
theorem d1_11 : decode prog_66_method_3_code 11 = .ok (.invokespecial 24, 3) := by decide +kernel
theorem d1_14 : decode prog_66_method_3_code 14 = .ok (.areturn, 1) := by decide +kernel
theorem ef_rm1 (m : MethodId) (x0 : Addr) : entryFrame m #[(.ref x0)] 1 = mkF m 0 #[.val (.ref x0)] [] := by first | (simp [entryFrame, mkF, argsToLocals, Value.category]; done) | rfl
def Q1 (Z : State) (a : Addr) (z : Int32) (f : Nat → Value) (h0 : Heap) (n0 : Nat) (v : Option Value) (h : Heap) (L : List Loc) : Prop := ∃ b : Addr, v = some (.ref b) ∧ Fr n0 L ∧ h0.size ≤ b ∧ Keep h0 h [] ∧ Exa Z h b "com/example/clearfold/clearfold/trade/EventFeeds$Place" ∧ Fld Z h b "com/example/clearfold/clearfold/trade/EventFeeds$Place" "record" "J" (.long (-1 : Int64)) ∧ Fld Z h b "com/example/clearfold/clearfold/trade/EventFeeds$Place" "offset" "I" (.int (0 : Int32)) ∧ Fld Z h b "com/example/clearfold/clearfold/trade/EventFeeds$Place" "length" "I" (.int z) ∧ Fld Z h b "com/example/clearfold/clearfold/trade/EventFeeds$Place" "kept" "[B" (.ref a)
set_option maxRecDepth 65536 in
set_option maxHeartbeats 40000000 in
theorem rm1 (l : Launch) (Z : State) (a0 : Array Value) (hw : ∀ d ∈ tables_1, d.before a0 Z = true) (ws : List Jvm.Cond) (a : Addr) (z : Int32) (f : Nat → Value) (h0 : Heap) (n0 : Nat) (Z0 : n0 ≤ h0.size) (V_a : Arf Z h0 a .byte z f) :
    MetFree l (⟨"com/example/clearfold/clearfold/trade/EventFeeds$Place", "kept", "([B)Lcom/example/clearfold/clearfold/trade/EventFeeds$Place;"⟩ : MethodName) (head1 (Jvm.Cond.code (⟨"com/example/clearfold/clearfold/trade/EventFeeds$Place", "kept", "([B)Lcom/example/clearfold/clearfold/trade/EventFeeds$Place;"⟩ : MethodName) prog_66_method_3_code 1 (some (.object "com/example/clearfold/clearfold/trade/EventFeeds$Place")) :: ws) ({ frames := 3, cells := 1, slots := 4, locals := 42 } : Room)) (fun as' U => as' = #[(.ref a)] ∧ Z.Warmed39 U.vm ∧ U.heap = h0) (fun _ _ _ _ _ => True) (fun _ U o U' => ∃ v L, o = .returned v ∧ Q1 Z a z f h0 n0 v U'.heap L ∧ FrameEnd U o U' L ({ frames := 3, cells := 1, slots := 4, locals := 42 } : Room).cells ({ frames := 3, cells := 1, slots := 4, locals := 42 } : Room).slots) := by
  refine MetFree.of_bodySF (plainFor_of_name pn_1) hisR ?_
  intro p e s m args below meth c s₁ Bd hml0 hP hK
  obtain ⟨rfl, hZ, hh⟩ := hP
  have hx := Bd.exec
  have hby := Bd.bytes
  have hml : c.maxLocals = 1 := hml0
  have hown : s.vm.findClass "com/example/clearfold/clearfold/trade/EventFeeds$Place" = some m.cls := findClass_of_methodNamed Bd.named
  have hnm := (name_of_methodNamed Bd.named Bd.method).1
  have X0 : Stand p l e ({ frames := 3, cells := 1, slots := 4, locals := 42 } : Room) s m #[(.ref a)] below meth c s₁ [] 0 0 := Stand.of_body Bd
  have e0 : s₁.heap = h0 := by rw [← hh, Bd.state]; rfl
  have N0 := Fr.nil n0
  refine RunsTo.start (ef_rm1 m a) ?_
  show RunsTo p e below s s₁ (mkF m 0 #[.val (.ref a)] []) (Q1 Z a z f h0 n0) ({ frames := 3, cells := 1, slots := 4, locals := 42 } : Room).cells ({ frames := 3, cells := 1, slots := 4, locals := 42 } : Room).slots
  obtain ⟨T1, h1, X1, e1, E1, A1, D1, -, st1⟩ := newO X0 hx hZ hown (hw _ (List.mem_of_getElem? (i := 5) rfl)) (hw _ (List.mem_of_getElem? (i := 6) rfl)) (hw _ (List.mem_of_getElem? (i := 3) rfl)) e0 (g := (mkF m 0 #[.val (.ref a)] [])) rfl (hb hby d1_0) (by decide) (by decide)
  obtain ⟨b, g1⟩ : ∃ z, z = h0.size := ⟨_, rfl⟩
  rw [← g1] at A1 D1 st1
  have Z1 : n0 ≤ h1.size := Nat.le_trans Z0 E1.1
  have g_b : n0 ≤ b := Nat.le_trans Z0 (Nat.le_of_eq g1.symm)
  have ne_a_b : a ≠ b := Nat.ne_of_lt (Nat.lt_of_lt_of_le V_a.lt (Nat.le_of_eq g1.symm))
  have V_a := V_a.ext E1
  have F_record_b : Fld Z h1 b "com/example/clearfold/clearfold/trade/EventFeeds$Place" "record" "J" (.long (0 : Int64)) := D1 (Or.inr (hw _ (List.mem_of_getElem? (i := 20) rfl))) (ty := .long) (by decide)
  have F_offset_b : Fld Z h1 b "com/example/clearfold/clearfold/trade/EventFeeds$Place" "offset" "I" (.int (0 : Int32)) := D1 (Or.inr (hw _ (List.mem_of_getElem? (i := 22) rfl))) (ty := .int) (by decide)
  have F_length_b : Fld Z h1 b "com/example/clearfold/clearfold/trade/EventFeeds$Place" "length" "I" (.int (0 : Int32)) := D1 (Or.inr (hw _ (List.mem_of_getElem? (i := 24) rfl))) (ty := .int) (by decide)
  have F_kept_b : Fld Z h1 b "com/example/clearfold/clearfold/trade/EventFeeds$Place" "kept" "[B" .null := D1 (Or.inr (hw _ (List.mem_of_getElem? (i := 26) rfl))) (ty := (.array .byte)) (by decide)
  have E_b : Exa Z h1 b "com/example/clearfold/clearfold/trade/EventFeeds$Place" := A1
  refine RunsTo.of (T' := T1) (g' := (mkF m 3 #[.val (.ref a)] [(.ref b)])) st1 ?_
  refine RunsTo.of (T' := T1) (g' := (mkF m 9 #[.val (.ref a)] [(.ref a), (.int (0 : Int32)), (.long (-1 : Int64)), (.ref b), (.ref b)])) (fun t kt => ?_) ?_
  · refine XS.dup X1.here hx rfl (hb hby d1_3) rfl rfl ?_
    show Steps p.tables e below (T1.setTop (mkF m 4 #[.val (.ref a)] [(.ref b), (.ref b)])) _
    refine X1.ldc2Long hx hown (mvT hZ (hw _ (List.mem_of_getElem? (i := 7) rfl))) (g := (mkF m 4 #[.val (.ref a)] [(.ref b), (.ref b)])) rfl (hb hby d1_4) _ ?_
    show Steps p.tables e below (T1.setTop (mkF m 7 #[.val (.ref a)] [(.long (-1 : Int64)), (.ref b), (.ref b)])) _
    refine XS.iconst X1.here hx rfl (hb hby d1_7) ?_
    show Steps p.tables e below (T1.setTop (mkF m 8 #[.val (.ref a)] [(.int (0 : Int32)), (.long (-1 : Int64)), (.ref b), (.ref b)])) _
    refine XS.aloadN X1.here hx rfl (hb hby d1_8) rfl rfl ?_
    show Steps p.tables e below (T1.setTop (mkF m 9 #[.val (.ref a)] [(.ref a), (.int (0 : Int32)), (.long (-1 : Int64)), (.ref b), (.ref b)])) _
    exact kt
  obtain ⟨cl_a_2, Ar_a_2, S_a_2, M_a_2, H_a_2⟩ := id V_a
  refine RunsTo.of (T' := T1) (g' := (mkF m 10 #[.val (.ref a)] [(.int z), (.int (0 : Int32)), (.long (-1 : Int64)), (.ref b), (.ref b)])) (fun t kt => ?_) ?_
  · refine X1.arraylength hx (by rw [e1]; exact Ar_a_2.1) (State.isArrayOf_alike hZ.alike Ar_a_2.2.1) (g := (mkF m 9 #[.val (.ref a)] [(.ref a), (.int (0 : Int32)), (.long (-1 : Int64)), (.ref b), (.ref b)])) rfl rfl (hb hby d1_9) _ ?_
    rw [len_of S_a_2 M_a_2]
    show Steps p.tables e below (T1.setTop (mkF m 10 #[.val (.ref a)] [(.int z), (.int (0 : Int32)), (.long (-1 : Int64)), (.ref b), (.ref b)])) _
    exact kt
  refine RunsTo.of (T' := T1) (g' := (mkF m 11 #[.val (.ref a)] [(.ref a), (.int z), (.int (0 : Int32)), (.long (-1 : Int64)), (.ref b), (.ref b)])) (fun t kt => ?_) ?_
  · refine XS.aloadN X1.here hx rfl (hb hby d1_10) rfl rfl ?_
    show Steps p.tables e below (T1.setTop (mkF m 11 #[.val (.ref a)] [(.ref a), (.int z), (.int (0 : Int32)), (.long (-1 : Int64)), (.ref b), (.ref b)])) _
    exact kt
  obtain ⟨_, _, ⟨T3, L3, k3, n3⟩, -, X3, ⟨Lc3, hQ3, l3, y3, z3⟩, st3⟩ := X1.specialBack hx (y := (⟨"com/example/clearfold/clearfold/trade/EventFeeds$Place", "<init>", "(JII[B)V"⟩ : MethodName)) rfl hown (mvT hZ (hw _ (List.mem_of_getElem? (i := 8) rfl))) (mvT hZ (hw _ (List.mem_of_getElem? (i := 9) rfl))) (mvT hZ (hw _ (List.mem_of_getElem? (i := 10) rfl))) (by decide) (backOf (W := 1) (rm2 l Z a0 hw [] b (-1) 0 z (.ref a) rfl h1 n0 Z1 g_b E_b F_record_b F_offset_b F_length_b F_kept_b) hZ (hw _ (List.mem_of_getElem? (i := 10) rfl)) (hw _ (List.mem_of_getElem? (i := 3) rfl)) (by decide) (by decide)) (g := (mkF m 11 #[.val (.ref a)] [(.ref a), (.int z), (.int (0 : Int32)), (.long (-1 : Int64)), (.ref b), (.ref b)])) rfl (by rw [hml]; rfl) (Steps.refl _) (a := b) (argsL := [(.long (-1 : Int64)), (.int (0 : Int32)), (.int z), (.ref a)]) (rest := [(.ref b)]) (lenOf pd_1 rfl) rfl (by show 2 * 0 + _ ≤ _; exact Nat.le_of_eq rfl) (hb hby d1_11) (fun _ _ => ⟨rfl, e1, (by decide : 1 + 0 ≤ _), (by decide : 4 + 0 ≤ _)⟩)
  dsimp only [Pt.U, Pt.locs, Pt.cells, Pt.slots] at X3 l3 y3 z3 st3 hQ3
  subst l3 y3 z3
  obtain ⟨rfl, N3q, K3, E_b, F_record_b, F_offset_b, F_length_b, F_kept_b⟩ := hQ3
  have N3 := Fr.app N0 N3q
  refine RunsTo.of (T' := T3) (g' := (mkF m 14 #[.val (.ref a)] [(.ref b)])) (fun _ kt => st3.trans kt) ?_
  refine RunsTo.retA X3 hx Bd.returns rfl rfl Bd.notSynchronized (hb hby d1_14) ?_ (by decide) (by decide)
  exact ⟨b, rfl, N3, Nat.le_of_eq g1.symm, ((Keep.refl h0 []).ext E1).trans K3 (allS (Or.inr (Nat.le_of_eq g1.symm)) all0), E_b, F_record_b, F_offset_b, F_length_b, F_kept_b⟩
theorem pd_2 : parseMethodDescriptor "([B)Lcom/example/clearfold/clearfold/trade/EventFeeds$Place;" = some ⟨[(.array .byte)], some (.object "com/example/clearfold/clearfold/trade/EventFeeds$Place")⟩ := by decide +kernel
theorem pd_3 : parseMethodDescriptor "()J" = some ⟨[], some .long⟩ := by decide +kernel
theorem pd_4 : parseMethodDescriptor "()I" = some ⟨[], some .int⟩ := by decide +kernel
theorem pd_5 : parseMethodDescriptor "()[B" = some ⟨[], some (.array .byte)⟩ := by decide +kernel
theorem pn_2 : plainName "com/example/clearfold/clearfold/trade/PlaceKeptPinLaw" = true := by first | (simp [plainName, overriddenIn]; done) | decide +kernel
theorem ef_rm0 (m : MethodId) (x0 : Int32) (x1 : Int32) (x2 : Int32) (x3 : Int32) : entryFrame m #[(.int x0), (.int x1), (.int x2), (.int x3)] maxLocals = mkF m 0 #[.val (.int x0), .val (.int x1), .val (.int x2), .val (.int x3), .unset, .unset, .unset, .unset, .unset, .unset, .unset, .unset] [] := by first | (simp [entryFrame, mkF, argsToLocals, Value.category, maxLocals]; done) | rfl
def Q0 (Z : State) (x0 : Int32) (x1 : Int32) (x2 : Int32) (x3 : Int32) (h0 : Heap) (n0 : Nat) (v : Option Value) (h : Heap) (L : List Loc) : Prop := v = some (.int 1) ∧ Fr n0 L
set_option maxRecDepth 65536 in
set_option maxHeartbeats 40000000 in
theorem rm0 (l : Launch) (Z : State) (a0 : Array Value) (hw : ∀ d ∈ tables_1, d.before a0 Z = true) (ws : List Jvm.Cond) (x0 : Int32) (x1 : Int32) (x2 : Int32) (x3 : Int32) (h0 : Heap) (n0 : Nat) (Z0 : n0 ≤ h0.size)  :
    MetFree l x (head1 (Jvm.Cond.code x code maxLocals ret :: ws) room_1) (fun as' U => as' = #[(.int x0), (.int x1), (.int x2), (.int x3)] ∧ Z.Warmed39 U.vm ∧ U.heap = h0) (fun _ _ _ _ _ => True) (fun _ U o U' => ∃ v L, o = .returned v ∧ Q0 Z x0 x1 x2 x3 h0 n0 v U'.heap L ∧ FrameEnd U o U' L room_1.cells room_1.slots) := by
  refine MetFree.of_bodySF (plainFor_of_name pn_2) hisR ?_
  intro p e s m args below meth c s₁ Bd hml0 hP hK
  obtain ⟨rfl, hZ, hh⟩ := hP
  have hx := Bd.exec
  have hby := Bd.bytes
  have hml : c.maxLocals = 12 := hml0
  have hown : s.vm.findClass "com/example/clearfold/clearfold/trade/PlaceKeptPinLaw" = some m.cls := findClass_of_methodNamed Bd.named
  have hnm := (name_of_methodNamed Bd.named Bd.method).1
  have X0 : Stand p l e room_1 s m #[(.int x0), (.int x1), (.int x2), (.int x3)] below meth c s₁ [] 0 0 := Stand.of_body Bd
  have e0 : s₁.heap = h0 := by rw [← hh, Bd.state]; rfl
  have N0 := Fr.nil n0
  refine RunsTo.start (ef_rm0 m x0 x1 x2 x3) ?_
  show RunsTo p e below s s₁ (mkF m 0 #[.val (.int x0), .val (.int x1), .val (.int x2), .val (.int x3), .unset, .unset, .unset, .unset, .unset, .unset, .unset, .unset] []) (Q0 Z x0 x1 x2 x3 h0 n0) room_1.cells room_1.slots
  refine RunsTo.of (T' := s₁) (g' := (mkF m 1 #[.val (.int x0), .val (.int x1), .val (.int x2), .val (.int x3), .unset, .unset, .unset, .unset, .unset, .unset, .unset, .unset] [(.int (0 : Int32))])) (fun t kt => ?_) ?_
  · refine XS.iconst X0.here hx rfl (hb hby at_0) ?_
    show Steps p.tables e below (s₁.setTop (mkF m 1 #[.val (.int x0), .val (.int x1), .val (.int x2), .val (.int x3), .unset, .unset, .unset, .unset, .unset, .unset, .unset, .unset] [(.int (0 : Int32))])) _
    exact kt
  obtain ⟨T1, h1, k1, X1, e1, E1, A1, st1⟩ := newP X0 hx hZ (hw _ (List.mem_of_getElem? (i := 0) rfl)) e0 (g := (mkF m 1 #[.val (.int x0), .val (.int x1), .val (.int x2), .val (.int x3), .unset, .unset, .unset, .unset, .unset, .unset, .unset, .unset] [(.int (0 : Int32))])) rfl (hb hby at_1) rfl (by decide) (cap := 0) (by decide) (by decide) (by decide) (by decide)
  obtain ⟨ar0, g1⟩ : ∃ z, z = h0.size := ⟨_, rfl⟩
  rw [← g1] at A1 st1
  have Z1 : n0 ≤ h1.size := Nat.le_trans Z0 E1.1
  have g_ar0 : n0 ≤ ar0 := Nat.le_trans Z0 (Nat.le_of_eq g1.symm)
  have V_ar0 : Arf Z h1 ar0 .byte (0 : Int32) (fun _ => (.int (0 : Int32))) := Arf.new A1 (by decide)
  refine RunsTo.of (T' := T1) (g' := (mkF m 3 #[.val (.int x0), .val (.int x1), .val (.int x2), .val (.int x3), .unset, .unset, .unset, .unset, .unset, .unset, .unset, .unset] [(.ref ar0)])) st1 ?_
  refine RunsTo.of (T' := T1) (g' := (mkF m 6 #[.val (.int x0), .val (.int x1), .val (.int x2), .val (.int x3), .val (.ref ar0), .unset, .unset, .unset, .unset, .unset, .unset, .unset] [(.int (1 : Int32))])) (fun t kt => ?_) ?_
  · refine XS.astore X1.here hx rfl (hb hby at_3) rfl rfl (l' := #[.val (.int x0), .val (.int x1), .val (.int x2), .val (.int x3), .val (.ref ar0), .unset, .unset, .unset, .unset, .unset, .unset, .unset]) rfl ?_
    show Steps p.tables e below (T1.setTop (mkF m 5 #[.val (.int x0), .val (.int x1), .val (.int x2), .val (.int x3), .val (.ref ar0), .unset, .unset, .unset, .unset, .unset, .unset, .unset] [])) _
    refine XS.iconst X1.here hx rfl (hb hby at_5) ?_
    show Steps p.tables e below (T1.setTop (mkF m 6 #[.val (.int x0), .val (.int x1), .val (.int x2), .val (.int x3), .val (.ref ar0), .unset, .unset, .unset, .unset, .unset, .unset, .unset] [(.int (1 : Int32))])) _
    exact kt
  obtain ⟨T2, h2, k2, X2, e2, E2, A2, st2⟩ := newP X1 hx hZ (hw _ (List.mem_of_getElem? (i := 0) rfl)) e1 (g := (mkF m 6 #[.val (.int x0), .val (.int x1), .val (.int x2), .val (.int x3), .val (.ref ar0), .unset, .unset, .unset, .unset, .unset, .unset, .unset] [(.int (1 : Int32))])) rfl (hb hby at_6) rfl (by decide) (cap := 1) (by decide) (by decide) (by decide) (by decide)
  obtain ⟨ar1, g2⟩ : ∃ z, z = h1.size := ⟨_, rfl⟩
  rw [← g2] at A2 st2
  have Z2 : n0 ≤ h2.size := Nat.le_trans Z1 E2.1
  have g_ar1 : n0 ≤ ar1 := Nat.le_trans Z1 (Nat.le_of_eq g2.symm)
  have ne_ar0_ar1 : ar0 ≠ ar1 := Nat.ne_of_lt (Nat.lt_of_lt_of_le V_ar0.lt (Nat.le_of_eq g2.symm))
  have V_ar0 := V_ar0.ext E2
  have V_ar1 : Arf Z h2 ar1 .byte (1 : Int32) (fun _ => (.int (0 : Int32))) := Arf.new A2 (by decide)
  refine RunsTo.of (T' := T2) (g' := (mkF m 8 #[.val (.int x0), .val (.int x1), .val (.int x2), .val (.int x3), .val (.ref ar0), .unset, .unset, .unset, .unset, .unset, .unset, .unset] [(.ref ar1)])) st2 ?_
  refine RunsTo.of (T' := T2) (g' := (mkF m 12 #[.val (.int x0), .val (.int x1), .val (.int x2), .val (.int x3), .val (.ref ar0), .unset, .unset, .unset, .unset, .unset, .unset, .unset] [(.int x1.toInt8.toInt32), (.int (0 : Int32)), (.ref ar1), (.ref ar1)])) (fun t kt => ?_) ?_
  · refine XS.dup X2.here hx rfl (hb hby at_8) rfl rfl ?_
    show Steps p.tables e below (T2.setTop (mkF m 9 #[.val (.int x0), .val (.int x1), .val (.int x2), .val (.int x3), .val (.ref ar0), .unset, .unset, .unset, .unset, .unset, .unset, .unset] [(.ref ar1), (.ref ar1)])) _
    refine XS.iconst X2.here hx rfl (hb hby at_9) ?_
    show Steps p.tables e below (T2.setTop (mkF m 10 #[.val (.int x0), .val (.int x1), .val (.int x2), .val (.int x3), .val (.ref ar0), .unset, .unset, .unset, .unset, .unset, .unset, .unset] [(.int (0 : Int32)), (.ref ar1), (.ref ar1)])) _
    refine XS.iloadN X2.here hx rfl (hb hby at_10) rfl ?_
    show Steps p.tables e below (T2.setTop (mkF m 11 #[.val (.int x0), .val (.int x1), .val (.int x2), .val (.int x3), .val (.ref ar0), .unset, .unset, .unset, .unset, .unset, .unset, .unset] [(.int x1), (.int (0 : Int32)), (.ref ar1), (.ref ar1)])) _
    refine XS.i2b X2.here hx rfl (hb hby at_11) rfl ?_
    show Steps p.tables e below (T2.setTop (mkF m 12 #[.val (.int x0), .val (.int x1), .val (.int x2), .val (.int x3), .val (.ref ar0), .unset, .unset, .unset, .unset, .unset, .unset, .unset] [(.int x1.toInt8.toInt32), (.int (0 : Int32)), (.ref ar1), (.ref ar1)])) _
    exact kt
  obtain ⟨cl_ar1_3, Ar_ar1_3, S_ar1_3, M_ar1_3, H_ar1_3⟩ := id V_ar1
  have hin_ar1_3 : ¬ ((0 : Int32) < 0 ∨ cl_ar1_3.slots.size ≤ ((0 : Int32)).toNatClampNeg) := inb_of S_ar1_3 ⟨by decide, by decide⟩
  obtain ⟨T4, h4, X4, e4, W4, st4⟩ := stB X2 hx hZ e2 Ar_ar1_3 (j := (0 : Int32)) hin_ar1_3 (g := (mkF m 12 #[.val (.int x0), .val (.int x1), .val (.int x2), .val (.int x3), .val (.ref ar0), .unset, .unset, .unset, .unset, .unset, .unset, .unset] [(.int x1.toInt8.toInt32), (.int (0 : Int32)), (.ref ar1), (.ref ar1)])) rfl rfl (hb hby at_12)
  have N4 := Fr.snoc X4 N0 g_ar1
  have Z4 : n0 ≤ h4.size := Nat.le_trans Z2 (Nat.le_of_eq W4.size.symm)
  have V_ar1 : Arf Z h4 ar1 .byte (1 : Int32) (fun i => if i = ((0 : Int32)).toNatClampNeg then (.int (nar .byte x1.toInt8.toInt32)) else (fun _ => (.int (0 : Int32))) i) := Arf.set Ar_ar1_3 S_ar1_3 M_ar1_3 H_ar1_3 W4
  have V_ar0 := V_ar0.other W4 ne_ar0_ar1
  refine RunsTo.of (T' := T4) (g' := (mkF m 13 #[.val (.int x0), .val (.int x1), .val (.int x2), .val (.int x3), .val (.ref ar0), .unset, .unset, .unset, .unset, .unset, .unset, .unset] [(.ref ar1)])) st4 ?_
  refine RunsTo.of (T' := T4) (g' := (mkF m 16 #[.val (.int x0), .val (.int x1), .val (.int x2), .val (.int x3), .val (.ref ar0), .val (.ref ar1), .unset, .unset, .unset, .unset, .unset, .unset] [(.int (2 : Int32))])) (fun t kt => ?_) ?_
  · refine XS.astore X4.here hx rfl (hb hby at_13) rfl rfl (l' := #[.val (.int x0), .val (.int x1), .val (.int x2), .val (.int x3), .val (.ref ar0), .val (.ref ar1), .unset, .unset, .unset, .unset, .unset, .unset]) rfl ?_
    show Steps p.tables e below (T4.setTop (mkF m 15 #[.val (.int x0), .val (.int x1), .val (.int x2), .val (.int x3), .val (.ref ar0), .val (.ref ar1), .unset, .unset, .unset, .unset, .unset, .unset] [])) _
    refine XS.iconst X4.here hx rfl (hb hby at_15) ?_
    show Steps p.tables e below (T4.setTop (mkF m 16 #[.val (.int x0), .val (.int x1), .val (.int x2), .val (.int x3), .val (.ref ar0), .val (.ref ar1), .unset, .unset, .unset, .unset, .unset, .unset] [(.int (2 : Int32))])) _
    exact kt
  obtain ⟨T5, h5, k5, X5, e5, E5, A5, st5⟩ := newP X4 hx hZ (hw _ (List.mem_of_getElem? (i := 0) rfl)) e4 (g := (mkF m 16 #[.val (.int x0), .val (.int x1), .val (.int x2), .val (.int x3), .val (.ref ar0), .val (.ref ar1), .unset, .unset, .unset, .unset, .unset, .unset] [(.int (2 : Int32))])) rfl (hb hby at_16) rfl (by decide) (cap := 2) (by decide) (by decide) (by decide) (by decide)
  obtain ⟨ar2, g5⟩ : ∃ z, z = h4.size := ⟨_, rfl⟩
  rw [← g5] at A5 st5
  have Z5 : n0 ≤ h5.size := Nat.le_trans Z4 E5.1
  have g_ar2 : n0 ≤ ar2 := Nat.le_trans Z4 (Nat.le_of_eq g5.symm)
  have ne_ar0_ar2 : ar0 ≠ ar2 := Nat.ne_of_lt (Nat.lt_of_lt_of_le V_ar0.lt (Nat.le_of_eq g5.symm))
  have ne_ar1_ar2 : ar1 ≠ ar2 := Nat.ne_of_lt (Nat.lt_of_lt_of_le V_ar1.lt (Nat.le_of_eq g5.symm))
  have V_ar0 := V_ar0.ext E5
  have V_ar1 := V_ar1.ext E5
  have V_ar2 : Arf Z h5 ar2 .byte (2 : Int32) (fun _ => (.int (0 : Int32))) := Arf.new A5 (by decide)
  refine RunsTo.of (T' := T5) (g' := (mkF m 18 #[.val (.int x0), .val (.int x1), .val (.int x2), .val (.int x3), .val (.ref ar0), .val (.ref ar1), .unset, .unset, .unset, .unset, .unset, .unset] [(.ref ar2)])) st5 ?_
  refine RunsTo.of (T' := T5) (g' := (mkF m 22 #[.val (.int x0), .val (.int x1), .val (.int x2), .val (.int x3), .val (.ref ar0), .val (.ref ar1), .unset, .unset, .unset, .unset, .unset, .unset] [(.int x1.toInt8.toInt32), (.int (0 : Int32)), (.ref ar2), (.ref ar2)])) (fun t kt => ?_) ?_
  · refine XS.dup X5.here hx rfl (hb hby at_18) rfl rfl ?_
    show Steps p.tables e below (T5.setTop (mkF m 19 #[.val (.int x0), .val (.int x1), .val (.int x2), .val (.int x3), .val (.ref ar0), .val (.ref ar1), .unset, .unset, .unset, .unset, .unset, .unset] [(.ref ar2), (.ref ar2)])) _
    refine XS.iconst X5.here hx rfl (hb hby at_19) ?_
    show Steps p.tables e below (T5.setTop (mkF m 20 #[.val (.int x0), .val (.int x1), .val (.int x2), .val (.int x3), .val (.ref ar0), .val (.ref ar1), .unset, .unset, .unset, .unset, .unset, .unset] [(.int (0 : Int32)), (.ref ar2), (.ref ar2)])) _
    refine XS.iloadN X5.here hx rfl (hb hby at_20) rfl ?_
    show Steps p.tables e below (T5.setTop (mkF m 21 #[.val (.int x0), .val (.int x1), .val (.int x2), .val (.int x3), .val (.ref ar0), .val (.ref ar1), .unset, .unset, .unset, .unset, .unset, .unset] [(.int x1), (.int (0 : Int32)), (.ref ar2), (.ref ar2)])) _
    refine XS.i2b X5.here hx rfl (hb hby at_21) rfl ?_
    show Steps p.tables e below (T5.setTop (mkF m 22 #[.val (.int x0), .val (.int x1), .val (.int x2), .val (.int x3), .val (.ref ar0), .val (.ref ar1), .unset, .unset, .unset, .unset, .unset, .unset] [(.int x1.toInt8.toInt32), (.int (0 : Int32)), (.ref ar2), (.ref ar2)])) _
    exact kt
  obtain ⟨cl_ar2_6, Ar_ar2_6, S_ar2_6, M_ar2_6, H_ar2_6⟩ := id V_ar2
  have hin_ar2_6 : ¬ ((0 : Int32) < 0 ∨ cl_ar2_6.slots.size ≤ ((0 : Int32)).toNatClampNeg) := inb_of S_ar2_6 ⟨by decide, by decide⟩
  obtain ⟨T7, h7, X7, e7, W7, st7⟩ := stB X5 hx hZ e5 Ar_ar2_6 (j := (0 : Int32)) hin_ar2_6 (g := (mkF m 22 #[.val (.int x0), .val (.int x1), .val (.int x2), .val (.int x3), .val (.ref ar0), .val (.ref ar1), .unset, .unset, .unset, .unset, .unset, .unset] [(.int x1.toInt8.toInt32), (.int (0 : Int32)), (.ref ar2), (.ref ar2)])) rfl rfl (hb hby at_22)
  have N7 := Fr.snoc X7 N4 g_ar2
  have Z7 : n0 ≤ h7.size := Nat.le_trans Z5 (Nat.le_of_eq W7.size.symm)
  have V_ar2 : Arf Z h7 ar2 .byte (2 : Int32) (fun i => if i = ((0 : Int32)).toNatClampNeg then (.int (nar .byte x1.toInt8.toInt32)) else (fun _ => (.int (0 : Int32))) i) := Arf.set Ar_ar2_6 S_ar2_6 M_ar2_6 H_ar2_6 W7
  have V_ar0 := V_ar0.other W7 ne_ar0_ar2
  have V_ar1 := V_ar1.other W7 ne_ar1_ar2
  refine RunsTo.of (T' := T7) (g' := (mkF m 23 #[.val (.int x0), .val (.int x1), .val (.int x2), .val (.int x3), .val (.ref ar0), .val (.ref ar1), .unset, .unset, .unset, .unset, .unset, .unset] [(.ref ar2)])) st7 ?_
  refine RunsTo.of (T' := T7) (g' := (mkF m 27 #[.val (.int x0), .val (.int x1), .val (.int x2), .val (.int x3), .val (.ref ar0), .val (.ref ar1), .unset, .unset, .unset, .unset, .unset, .unset] [(.int x2.toInt8.toInt32), (.int (1 : Int32)), (.ref ar2), (.ref ar2)])) (fun t kt => ?_) ?_
  · refine XS.dup X7.here hx rfl (hb hby at_23) rfl rfl ?_
    show Steps p.tables e below (T7.setTop (mkF m 24 #[.val (.int x0), .val (.int x1), .val (.int x2), .val (.int x3), .val (.ref ar0), .val (.ref ar1), .unset, .unset, .unset, .unset, .unset, .unset] [(.ref ar2), (.ref ar2)])) _
    refine XS.iconst X7.here hx rfl (hb hby at_24) ?_
    show Steps p.tables e below (T7.setTop (mkF m 25 #[.val (.int x0), .val (.int x1), .val (.int x2), .val (.int x3), .val (.ref ar0), .val (.ref ar1), .unset, .unset, .unset, .unset, .unset, .unset] [(.int (1 : Int32)), (.ref ar2), (.ref ar2)])) _
    refine XS.iloadN X7.here hx rfl (hb hby at_25) rfl ?_
    show Steps p.tables e below (T7.setTop (mkF m 26 #[.val (.int x0), .val (.int x1), .val (.int x2), .val (.int x3), .val (.ref ar0), .val (.ref ar1), .unset, .unset, .unset, .unset, .unset, .unset] [(.int x2), (.int (1 : Int32)), (.ref ar2), (.ref ar2)])) _
    refine XS.i2b X7.here hx rfl (hb hby at_26) rfl ?_
    show Steps p.tables e below (T7.setTop (mkF m 27 #[.val (.int x0), .val (.int x1), .val (.int x2), .val (.int x3), .val (.ref ar0), .val (.ref ar1), .unset, .unset, .unset, .unset, .unset, .unset] [(.int x2.toInt8.toInt32), (.int (1 : Int32)), (.ref ar2), (.ref ar2)])) _
    exact kt
  obtain ⟨cl_ar2_8, Ar_ar2_8, S_ar2_8, M_ar2_8, H_ar2_8⟩ := id V_ar2
  have hin_ar2_8 : ¬ ((1 : Int32) < 0 ∨ cl_ar2_8.slots.size ≤ ((1 : Int32)).toNatClampNeg) := inb_of S_ar2_8 ⟨by decide, by decide⟩
  obtain ⟨T9, h9, X9, e9, W9, st9⟩ := stB X7 hx hZ e7 Ar_ar2_8 (j := (1 : Int32)) hin_ar2_8 (g := (mkF m 27 #[.val (.int x0), .val (.int x1), .val (.int x2), .val (.int x3), .val (.ref ar0), .val (.ref ar1), .unset, .unset, .unset, .unset, .unset, .unset] [(.int x2.toInt8.toInt32), (.int (1 : Int32)), (.ref ar2), (.ref ar2)])) rfl rfl (hb hby at_27)
  have N9 := Fr.snoc X9 N7 g_ar2
  have Z9 : n0 ≤ h9.size := Nat.le_trans Z7 (Nat.le_of_eq W9.size.symm)
  have V_ar2 : Arf Z h9 ar2 .byte (2 : Int32) (fun i => if i = ((1 : Int32)).toNatClampNeg then (.int (nar .byte x2.toInt8.toInt32)) else (fun i => if i = ((0 : Int32)).toNatClampNeg then (.int (nar .byte x1.toInt8.toInt32)) else (fun _ => (.int (0 : Int32))) i) i) := Arf.set Ar_ar2_8 S_ar2_8 M_ar2_8 H_ar2_8 W9
  have V_ar0 := V_ar0.other W9 ne_ar0_ar2
  have V_ar1 := V_ar1.other W9 ne_ar1_ar2
  refine RunsTo.of (T' := T9) (g' := (mkF m 28 #[.val (.int x0), .val (.int x1), .val (.int x2), .val (.int x3), .val (.ref ar0), .val (.ref ar1), .unset, .unset, .unset, .unset, .unset, .unset] [(.ref ar2)])) st9 ?_
  refine RunsTo.of (T' := T9) (g' := (mkF m 31 #[.val (.int x0), .val (.int x1), .val (.int x2), .val (.int x3), .val (.ref ar0), .val (.ref ar1), .val (.ref ar2), .unset, .unset, .unset, .unset, .unset] [(.int (3 : Int32))])) (fun t kt => ?_) ?_
  · refine XS.astore X9.here hx rfl (hb hby at_28) rfl rfl (l' := #[.val (.int x0), .val (.int x1), .val (.int x2), .val (.int x3), .val (.ref ar0), .val (.ref ar1), .val (.ref ar2), .unset, .unset, .unset, .unset, .unset]) rfl ?_
    show Steps p.tables e below (T9.setTop (mkF m 30 #[.val (.int x0), .val (.int x1), .val (.int x2), .val (.int x3), .val (.ref ar0), .val (.ref ar1), .val (.ref ar2), .unset, .unset, .unset, .unset, .unset] [])) _
    refine XS.iconst X9.here hx rfl (hb hby at_30) ?_
    show Steps p.tables e below (T9.setTop (mkF m 31 #[.val (.int x0), .val (.int x1), .val (.int x2), .val (.int x3), .val (.ref ar0), .val (.ref ar1), .val (.ref ar2), .unset, .unset, .unset, .unset, .unset] [(.int (3 : Int32))])) _
    exact kt
  obtain ⟨T10, h10, k10, X10, e10, E10, A10, st10⟩ := newP X9 hx hZ (hw _ (List.mem_of_getElem? (i := 0) rfl)) e9 (g := (mkF m 31 #[.val (.int x0), .val (.int x1), .val (.int x2), .val (.int x3), .val (.ref ar0), .val (.ref ar1), .val (.ref ar2), .unset, .unset, .unset, .unset, .unset] [(.int (3 : Int32))])) rfl (hb hby at_31) rfl (by decide) (cap := 3) (by decide) (by decide) (by decide) (by decide)
  obtain ⟨ar3, g10⟩ : ∃ z, z = h9.size := ⟨_, rfl⟩
  rw [← g10] at A10 st10
  have Z10 : n0 ≤ h10.size := Nat.le_trans Z9 E10.1
  have g_ar3 : n0 ≤ ar3 := Nat.le_trans Z9 (Nat.le_of_eq g10.symm)
  have ne_ar0_ar3 : ar0 ≠ ar3 := Nat.ne_of_lt (Nat.lt_of_lt_of_le V_ar0.lt (Nat.le_of_eq g10.symm))
  have ne_ar1_ar3 : ar1 ≠ ar3 := Nat.ne_of_lt (Nat.lt_of_lt_of_le V_ar1.lt (Nat.le_of_eq g10.symm))
  have ne_ar2_ar3 : ar2 ≠ ar3 := Nat.ne_of_lt (Nat.lt_of_lt_of_le V_ar2.lt (Nat.le_of_eq g10.symm))
  have V_ar0 := V_ar0.ext E10
  have V_ar1 := V_ar1.ext E10
  have V_ar2 := V_ar2.ext E10
  have V_ar3 : Arf Z h10 ar3 .byte (3 : Int32) (fun _ => (.int (0 : Int32))) := Arf.new A10 (by decide)
  refine RunsTo.of (T' := T10) (g' := (mkF m 33 #[.val (.int x0), .val (.int x1), .val (.int x2), .val (.int x3), .val (.ref ar0), .val (.ref ar1), .val (.ref ar2), .unset, .unset, .unset, .unset, .unset] [(.ref ar3)])) st10 ?_
  refine RunsTo.of (T' := T10) (g' := (mkF m 37 #[.val (.int x0), .val (.int x1), .val (.int x2), .val (.int x3), .val (.ref ar0), .val (.ref ar1), .val (.ref ar2), .unset, .unset, .unset, .unset, .unset] [(.int x1.toInt8.toInt32), (.int (0 : Int32)), (.ref ar3), (.ref ar3)])) (fun t kt => ?_) ?_
  · refine XS.dup X10.here hx rfl (hb hby at_33) rfl rfl ?_
    show Steps p.tables e below (T10.setTop (mkF m 34 #[.val (.int x0), .val (.int x1), .val (.int x2), .val (.int x3), .val (.ref ar0), .val (.ref ar1), .val (.ref ar2), .unset, .unset, .unset, .unset, .unset] [(.ref ar3), (.ref ar3)])) _
    refine XS.iconst X10.here hx rfl (hb hby at_34) ?_
    show Steps p.tables e below (T10.setTop (mkF m 35 #[.val (.int x0), .val (.int x1), .val (.int x2), .val (.int x3), .val (.ref ar0), .val (.ref ar1), .val (.ref ar2), .unset, .unset, .unset, .unset, .unset] [(.int (0 : Int32)), (.ref ar3), (.ref ar3)])) _
    refine XS.iloadN X10.here hx rfl (hb hby at_35) rfl ?_
    show Steps p.tables e below (T10.setTop (mkF m 36 #[.val (.int x0), .val (.int x1), .val (.int x2), .val (.int x3), .val (.ref ar0), .val (.ref ar1), .val (.ref ar2), .unset, .unset, .unset, .unset, .unset] [(.int x1), (.int (0 : Int32)), (.ref ar3), (.ref ar3)])) _
    refine XS.i2b X10.here hx rfl (hb hby at_36) rfl ?_
    show Steps p.tables e below (T10.setTop (mkF m 37 #[.val (.int x0), .val (.int x1), .val (.int x2), .val (.int x3), .val (.ref ar0), .val (.ref ar1), .val (.ref ar2), .unset, .unset, .unset, .unset, .unset] [(.int x1.toInt8.toInt32), (.int (0 : Int32)), (.ref ar3), (.ref ar3)])) _
    exact kt
  obtain ⟨cl_ar3_11, Ar_ar3_11, S_ar3_11, M_ar3_11, H_ar3_11⟩ := id V_ar3
  have hin_ar3_11 : ¬ ((0 : Int32) < 0 ∨ cl_ar3_11.slots.size ≤ ((0 : Int32)).toNatClampNeg) := inb_of S_ar3_11 ⟨by decide, by decide⟩
  obtain ⟨T12, h12, X12, e12, W12, st12⟩ := stB X10 hx hZ e10 Ar_ar3_11 (j := (0 : Int32)) hin_ar3_11 (g := (mkF m 37 #[.val (.int x0), .val (.int x1), .val (.int x2), .val (.int x3), .val (.ref ar0), .val (.ref ar1), .val (.ref ar2), .unset, .unset, .unset, .unset, .unset] [(.int x1.toInt8.toInt32), (.int (0 : Int32)), (.ref ar3), (.ref ar3)])) rfl rfl (hb hby at_37)
  have N12 := Fr.snoc X12 N9 g_ar3
  have Z12 : n0 ≤ h12.size := Nat.le_trans Z10 (Nat.le_of_eq W12.size.symm)
  have V_ar3 : Arf Z h12 ar3 .byte (3 : Int32) (fun i => if i = ((0 : Int32)).toNatClampNeg then (.int (nar .byte x1.toInt8.toInt32)) else (fun _ => (.int (0 : Int32))) i) := Arf.set Ar_ar3_11 S_ar3_11 M_ar3_11 H_ar3_11 W12
  have V_ar0 := V_ar0.other W12 ne_ar0_ar3
  have V_ar1 := V_ar1.other W12 ne_ar1_ar3
  have V_ar2 := V_ar2.other W12 ne_ar2_ar3
  refine RunsTo.of (T' := T12) (g' := (mkF m 38 #[.val (.int x0), .val (.int x1), .val (.int x2), .val (.int x3), .val (.ref ar0), .val (.ref ar1), .val (.ref ar2), .unset, .unset, .unset, .unset, .unset] [(.ref ar3)])) st12 ?_
  refine RunsTo.of (T' := T12) (g' := (mkF m 42 #[.val (.int x0), .val (.int x1), .val (.int x2), .val (.int x3), .val (.ref ar0), .val (.ref ar1), .val (.ref ar2), .unset, .unset, .unset, .unset, .unset] [(.int x2.toInt8.toInt32), (.int (1 : Int32)), (.ref ar3), (.ref ar3)])) (fun t kt => ?_) ?_
  · refine XS.dup X12.here hx rfl (hb hby at_38) rfl rfl ?_
    show Steps p.tables e below (T12.setTop (mkF m 39 #[.val (.int x0), .val (.int x1), .val (.int x2), .val (.int x3), .val (.ref ar0), .val (.ref ar1), .val (.ref ar2), .unset, .unset, .unset, .unset, .unset] [(.ref ar3), (.ref ar3)])) _
    refine XS.iconst X12.here hx rfl (hb hby at_39) ?_
    show Steps p.tables e below (T12.setTop (mkF m 40 #[.val (.int x0), .val (.int x1), .val (.int x2), .val (.int x3), .val (.ref ar0), .val (.ref ar1), .val (.ref ar2), .unset, .unset, .unset, .unset, .unset] [(.int (1 : Int32)), (.ref ar3), (.ref ar3)])) _
    refine XS.iloadN X12.here hx rfl (hb hby at_40) rfl ?_
    show Steps p.tables e below (T12.setTop (mkF m 41 #[.val (.int x0), .val (.int x1), .val (.int x2), .val (.int x3), .val (.ref ar0), .val (.ref ar1), .val (.ref ar2), .unset, .unset, .unset, .unset, .unset] [(.int x2), (.int (1 : Int32)), (.ref ar3), (.ref ar3)])) _
    refine XS.i2b X12.here hx rfl (hb hby at_41) rfl ?_
    show Steps p.tables e below (T12.setTop (mkF m 42 #[.val (.int x0), .val (.int x1), .val (.int x2), .val (.int x3), .val (.ref ar0), .val (.ref ar1), .val (.ref ar2), .unset, .unset, .unset, .unset, .unset] [(.int x2.toInt8.toInt32), (.int (1 : Int32)), (.ref ar3), (.ref ar3)])) _
    exact kt
  obtain ⟨cl_ar3_13, Ar_ar3_13, S_ar3_13, M_ar3_13, H_ar3_13⟩ := id V_ar3
  have hin_ar3_13 : ¬ ((1 : Int32) < 0 ∨ cl_ar3_13.slots.size ≤ ((1 : Int32)).toNatClampNeg) := inb_of S_ar3_13 ⟨by decide, by decide⟩
  obtain ⟨T14, h14, X14, e14, W14, st14⟩ := stB X12 hx hZ e12 Ar_ar3_13 (j := (1 : Int32)) hin_ar3_13 (g := (mkF m 42 #[.val (.int x0), .val (.int x1), .val (.int x2), .val (.int x3), .val (.ref ar0), .val (.ref ar1), .val (.ref ar2), .unset, .unset, .unset, .unset, .unset] [(.int x2.toInt8.toInt32), (.int (1 : Int32)), (.ref ar3), (.ref ar3)])) rfl rfl (hb hby at_42)
  have N14 := Fr.snoc X14 N12 g_ar3
  have Z14 : n0 ≤ h14.size := Nat.le_trans Z12 (Nat.le_of_eq W14.size.symm)
  have V_ar3 : Arf Z h14 ar3 .byte (3 : Int32) (fun i => if i = ((1 : Int32)).toNatClampNeg then (.int (nar .byte x2.toInt8.toInt32)) else (fun i => if i = ((0 : Int32)).toNatClampNeg then (.int (nar .byte x1.toInt8.toInt32)) else (fun _ => (.int (0 : Int32))) i) i) := Arf.set Ar_ar3_13 S_ar3_13 M_ar3_13 H_ar3_13 W14
  have V_ar0 := V_ar0.other W14 ne_ar0_ar3
  have V_ar1 := V_ar1.other W14 ne_ar1_ar3
  have V_ar2 := V_ar2.other W14 ne_ar2_ar3
  refine RunsTo.of (T' := T14) (g' := (mkF m 43 #[.val (.int x0), .val (.int x1), .val (.int x2), .val (.int x3), .val (.ref ar0), .val (.ref ar1), .val (.ref ar2), .unset, .unset, .unset, .unset, .unset] [(.ref ar3)])) st14 ?_
  refine RunsTo.of (T' := T14) (g' := (mkF m 47 #[.val (.int x0), .val (.int x1), .val (.int x2), .val (.int x3), .val (.ref ar0), .val (.ref ar1), .val (.ref ar2), .unset, .unset, .unset, .unset, .unset] [(.int x3.toInt8.toInt32), (.int (2 : Int32)), (.ref ar3), (.ref ar3)])) (fun t kt => ?_) ?_
  · refine XS.dup X14.here hx rfl (hb hby at_43) rfl rfl ?_
    show Steps p.tables e below (T14.setTop (mkF m 44 #[.val (.int x0), .val (.int x1), .val (.int x2), .val (.int x3), .val (.ref ar0), .val (.ref ar1), .val (.ref ar2), .unset, .unset, .unset, .unset, .unset] [(.ref ar3), (.ref ar3)])) _
    refine XS.iconst X14.here hx rfl (hb hby at_44) ?_
    show Steps p.tables e below (T14.setTop (mkF m 45 #[.val (.int x0), .val (.int x1), .val (.int x2), .val (.int x3), .val (.ref ar0), .val (.ref ar1), .val (.ref ar2), .unset, .unset, .unset, .unset, .unset] [(.int (2 : Int32)), (.ref ar3), (.ref ar3)])) _
    refine XS.iloadN X14.here hx rfl (hb hby at_45) rfl ?_
    show Steps p.tables e below (T14.setTop (mkF m 46 #[.val (.int x0), .val (.int x1), .val (.int x2), .val (.int x3), .val (.ref ar0), .val (.ref ar1), .val (.ref ar2), .unset, .unset, .unset, .unset, .unset] [(.int x3), (.int (2 : Int32)), (.ref ar3), (.ref ar3)])) _
    refine XS.i2b X14.here hx rfl (hb hby at_46) rfl ?_
    show Steps p.tables e below (T14.setTop (mkF m 47 #[.val (.int x0), .val (.int x1), .val (.int x2), .val (.int x3), .val (.ref ar0), .val (.ref ar1), .val (.ref ar2), .unset, .unset, .unset, .unset, .unset] [(.int x3.toInt8.toInt32), (.int (2 : Int32)), (.ref ar3), (.ref ar3)])) _
    exact kt
  obtain ⟨cl_ar3_15, Ar_ar3_15, S_ar3_15, M_ar3_15, H_ar3_15⟩ := id V_ar3
  have hin_ar3_15 : ¬ ((2 : Int32) < 0 ∨ cl_ar3_15.slots.size ≤ ((2 : Int32)).toNatClampNeg) := inb_of S_ar3_15 ⟨by decide, by decide⟩
  obtain ⟨T16, h16, X16, e16, W16, st16⟩ := stB X14 hx hZ e14 Ar_ar3_15 (j := (2 : Int32)) hin_ar3_15 (g := (mkF m 47 #[.val (.int x0), .val (.int x1), .val (.int x2), .val (.int x3), .val (.ref ar0), .val (.ref ar1), .val (.ref ar2), .unset, .unset, .unset, .unset, .unset] [(.int x3.toInt8.toInt32), (.int (2 : Int32)), (.ref ar3), (.ref ar3)])) rfl rfl (hb hby at_47)
  have N16 := Fr.snoc X16 N14 g_ar3
  have Z16 : n0 ≤ h16.size := Nat.le_trans Z14 (Nat.le_of_eq W16.size.symm)
  have V_ar3 : Arf Z h16 ar3 .byte (3 : Int32) (fun i => if i = ((2 : Int32)).toNatClampNeg then (.int (nar .byte x3.toInt8.toInt32)) else (fun i => if i = ((1 : Int32)).toNatClampNeg then (.int (nar .byte x2.toInt8.toInt32)) else (fun i => if i = ((0 : Int32)).toNatClampNeg then (.int (nar .byte x1.toInt8.toInt32)) else (fun _ => (.int (0 : Int32))) i) i) i) := Arf.set Ar_ar3_15 S_ar3_15 M_ar3_15 H_ar3_15 W16
  have V_ar0 := V_ar0.other W16 ne_ar0_ar3
  have V_ar1 := V_ar1.other W16 ne_ar1_ar3
  have V_ar2 := V_ar2.other W16 ne_ar2_ar3
  refine RunsTo.of (T' := T16) (g' := (mkF m 48 #[.val (.int x0), .val (.int x1), .val (.int x2), .val (.int x3), .val (.ref ar0), .val (.ref ar1), .val (.ref ar2), .unset, .unset, .unset, .unset, .unset] [(.ref ar3)])) st16 ?_
  refine RunsTo.of (T' := T16) (g' := (mkF m 55 #[.val (.int x0), .val (.int x1), .val (.int x2), .val (.int x3), .val (.ref ar0), .val (.ref ar1), .val (.ref ar2), .val (.ref ar3), .val (.int (x0 &&& (3 : Int32))), .unset, .unset, .unset] [])) (fun t kt => ?_) ?_
  · refine XS.astore X16.here hx rfl (hb hby at_48) rfl rfl (l' := #[.val (.int x0), .val (.int x1), .val (.int x2), .val (.int x3), .val (.ref ar0), .val (.ref ar1), .val (.ref ar2), .val (.ref ar3), .unset, .unset, .unset, .unset]) rfl ?_
    show Steps p.tables e below (T16.setTop (mkF m 50 #[.val (.int x0), .val (.int x1), .val (.int x2), .val (.int x3), .val (.ref ar0), .val (.ref ar1), .val (.ref ar2), .val (.ref ar3), .unset, .unset, .unset, .unset] [])) _
    refine XS.iloadN X16.here hx rfl (hb hby at_50) rfl ?_
    show Steps p.tables e below (T16.setTop (mkF m 51 #[.val (.int x0), .val (.int x1), .val (.int x2), .val (.int x3), .val (.ref ar0), .val (.ref ar1), .val (.ref ar2), .val (.ref ar3), .unset, .unset, .unset, .unset] [(.int x0)])) _
    refine XS.iconst X16.here hx rfl (hb hby at_51) ?_
    show Steps p.tables e below (T16.setTop (mkF m 52 #[.val (.int x0), .val (.int x1), .val (.int x2), .val (.int x3), .val (.ref ar0), .val (.ref ar1), .val (.ref ar2), .val (.ref ar3), .unset, .unset, .unset, .unset] [(.int (3 : Int32)), (.int x0)])) _
    refine XS.iand X16.here hx rfl (hb hby at_52) rfl ?_
    show Steps p.tables e below (T16.setTop (mkF m 53 #[.val (.int x0), .val (.int x1), .val (.int x2), .val (.int x3), .val (.ref ar0), .val (.ref ar1), .val (.ref ar2), .val (.ref ar3), .unset, .unset, .unset, .unset] [(.int (x0 &&& (3 : Int32)))])) _
    refine XS.istore X16.here hx rfl (hb hby at_53) rfl (l' := #[.val (.int x0), .val (.int x1), .val (.int x2), .val (.int x3), .val (.ref ar0), .val (.ref ar1), .val (.ref ar2), .val (.ref ar3), .val (.int (x0 &&& (3 : Int32))), .unset, .unset, .unset]) rfl ?_
    show Steps p.tables e below (T16.setTop (mkF m 55 #[.val (.int x0), .val (.int x1), .val (.int x2), .val (.int x3), .val (.ref ar0), .val (.ref ar1), .val (.ref ar2), .val (.ref ar3), .val (.int (x0 &&& (3 : Int32))), .unset, .unset, .unset] [])) _
    exact kt
  obtain ⟨n8, hn8⟩ : ∃ z : Int32, z = (x0 &&& (3 : Int32)) := ⟨_, rfl⟩
  rw [← hn8]
  have hn4 : n8 = 0 ∨ n8 = 1 ∨ n8 = 2 ∨ n8 = 3 := by rw [hn8]; exact own_and3 x0
  clear hn8
  rcases hn4 with rfl | rfl | rfl | rfl
  · refine RunsTo.of (T' := T16) (g' := (mkF m 93 #[.val (.int x0), .val (.int x1), .val (.int x2), .val (.int x3), .val (.ref ar0), .val (.ref ar1), .val (.ref ar2), .val (.ref ar3), .val (.int (0 : Int32)), .val (.ref ar0), .unset, .unset] [(.ref ar0)])) (fun t kt => ?_) ?_
    · refine XS.iload X16.here hx rfl (hb hby at_55) rfl ?_
      show Steps p.tables e below (T16.setTop (mkF m 57 #[.val (.int x0), .val (.int x1), .val (.int x2), .val (.int x3), .val (.ref ar0), .val (.ref ar1), .val (.ref ar2), .val (.ref ar3), .val (.int (0 : Int32)), .unset, .unset, .unset] [(.int (0 : Int32))])) _
      refine XS.ifNo X16.here hx rfl (hb hby at_57) rfl ((if0 _ _).trans (teq (by decide)).2) ?_
      show Steps p.tables e below (T16.setTop (mkF m 60 #[.val (.int x0), .val (.int x1), .val (.int x2), .val (.int x3), .val (.ref ar0), .val (.ref ar1), .val (.ref ar2), .val (.ref ar3), .val (.int (0 : Int32)), .unset, .unset, .unset] [])) _
      refine XS.aload X16.here hx rfl (hb hby at_60) rfl rfl ?_
      show Steps p.tables e below (T16.setTop (mkF m 62 #[.val (.int x0), .val (.int x1), .val (.int x2), .val (.int x3), .val (.ref ar0), .val (.ref ar1), .val (.ref ar2), .val (.ref ar3), .val (.int (0 : Int32)), .unset, .unset, .unset] [(.ref ar0)])) _
      refine XS.goto X16.here hx rfl (pc0 := 62) (pc' := 89) rfl (hb hby at_62) (by decide) (by decide) ?_
      show Steps p.tables e below (T16.setTop (mkF m 89 #[.val (.int x0), .val (.int x1), .val (.int x2), .val (.int x3), .val (.ref ar0), .val (.ref ar1), .val (.ref ar2), .val (.ref ar3), .val (.int (0 : Int32)), .unset, .unset, .unset] [(.ref ar0)])) _
      refine XS.astore X16.here hx rfl (hb hby at_89) rfl rfl (l' := #[.val (.int x0), .val (.int x1), .val (.int x2), .val (.int x3), .val (.ref ar0), .val (.ref ar1), .val (.ref ar2), .val (.ref ar3), .val (.int (0 : Int32)), .val (.ref ar0), .unset, .unset]) rfl ?_
      show Steps p.tables e below (T16.setTop (mkF m 91 #[.val (.int x0), .val (.int x1), .val (.int x2), .val (.int x3), .val (.ref ar0), .val (.ref ar1), .val (.ref ar2), .val (.ref ar3), .val (.int (0 : Int32)), .val (.ref ar0), .unset, .unset] [])) _
      refine XS.aload X16.here hx rfl (hb hby at_91) rfl rfl ?_
      show Steps p.tables e below (T16.setTop (mkF m 93 #[.val (.int x0), .val (.int x1), .val (.int x2), .val (.int x3), .val (.ref ar0), .val (.ref ar1), .val (.ref ar2), .val (.ref ar3), .val (.int (0 : Int32)), .val (.ref ar0), .unset, .unset] [(.ref ar0)])) _
      exact kt
    obtain ⟨_, _, ⟨T17, L17, k17, n17⟩, -, X17, ⟨Lc17, hQ17, l17, y17, z17⟩, st17⟩ := Jvm.LawKit.callS X16 hx (y := (⟨"com/example/clearfold/clearfold/trade/EventFeeds$Place", "kept", "([B)Lcom/example/clearfold/clearfold/trade/EventFeeds$Place;"⟩ : MethodName)) hown (mvT hZ (hw _ (List.mem_of_getElem? (i := 1) rfl))) (mvT hZ (hw _ (List.mem_of_getElem? (i := 2) rfl))) (mvT hZ (hw _ (List.mem_of_getElem? (i := 3) rfl))) (mvT hZ (hw _ (List.mem_of_getElem? (i := 4) rfl))) (by decide) (backOf (W := 0) (rm1 l Z a0 hw [] ar0 (0 : Int32) (fun _ => (.int (0 : Int32))) h16 n0 Z16 V_ar0) hZ (hw _ (List.mem_of_getElem? (i := 4) rfl)) (hw _ (List.mem_of_getElem? (i := 3) rfl)) (by decide) (by decide)) (g := (mkF m 93 #[.val (.int x0), .val (.int x1), .val (.int x2), .val (.int x3), .val (.ref ar0), .val (.ref ar1), .val (.ref ar2), .val (.ref ar3), .val (.int (0 : Int32)), .val (.ref ar0), .unset, .unset] [(.ref ar0)])) rfl (by rw [hml]; rfl) (argsL := [(.ref ar0)]) (rest := []) (lenOf pd_2 rfl) rfl (by show 2 * 0 + _ ≤ _; exact Nat.le_of_eq rfl) (hb hby at_93) (fun _ _ => ⟨rfl, e16, (by decide : 4 + 1 ≤ _), (by decide : 6 + 4 ≤ _)⟩)
    dsimp only [Pt.U, Pt.locs, Pt.cells, Pt.slots] at X17 l17 y17 z17 st17 hQ17
    subst l17 y17 z17
    obtain ⟨b, rfl, N17q, gb17, K17, E_b, F_record_b, F_offset_b, F_length_b, F_kept_b⟩ := hQ17
    have N17 := Fr.app N16 N17q
    have Z17 : n0 ≤ T17.heap.size := Nat.le_trans Z16 K17.1
    have V_ar0 := V_ar0.keep K17 nin0
    have V_ar1 := V_ar1.keep K17 nin0
    have V_ar2 := V_ar2.keep K17 nin0
    have V_ar3 := V_ar3.keep K17 nin0
    refine RunsTo.of (T' := T17) (g' := (mkF m 96 #[.val (.int x0), .val (.int x1), .val (.int x2), .val (.int x3), .val (.ref ar0), .val (.ref ar1), .val (.ref ar2), .val (.ref ar3), .val (.int (0 : Int32)), .val (.ref ar0), .unset, .unset] [(.ref b)])) st17 ?_
    refine RunsTo.of (T' := T17) (g' := (mkF m 100 #[.val (.int x0), .val (.int x1), .val (.int x2), .val (.int x3), .val (.ref ar0), .val (.ref ar1), .val (.ref ar2), .val (.ref ar3), .val (.int (0 : Int32)), .val (.ref ar0), .val (.ref b), .unset] [(.ref b)])) (fun t kt => ?_) ?_
    · refine XS.astore X17.here hx rfl (hb hby at_96) rfl rfl (l' := #[.val (.int x0), .val (.int x1), .val (.int x2), .val (.int x3), .val (.ref ar0), .val (.ref ar1), .val (.ref ar2), .val (.ref ar3), .val (.int (0 : Int32)), .val (.ref ar0), .val (.ref b), .unset]) rfl ?_
      show Steps p.tables e below (T17.setTop (mkF m 98 #[.val (.int x0), .val (.int x1), .val (.int x2), .val (.int x3), .val (.ref ar0), .val (.ref ar1), .val (.ref ar2), .val (.ref ar3), .val (.int (0 : Int32)), .val (.ref ar0), .val (.ref b), .unset] [])) _
      refine XS.aload X17.here hx rfl (hb hby at_98) rfl rfl ?_
      show Steps p.tables e below (T17.setTop (mkF m 100 #[.val (.int x0), .val (.int x1), .val (.int x2), .val (.int x3), .val (.ref ar0), .val (.ref ar1), .val (.ref ar2), .val (.ref ar3), .val (.int (0 : Int32)), .val (.ref ar0), .val (.ref b), .unset] [(.ref b)])) _
      exact kt
    obtain ⟨cq18, kq18, q18a, q18b, q18c⟩ := isOf hZ rfl E_b
    obtain ⟨_, _, ⟨T18, L18, k18, n18⟩, -, X18, ⟨Lc18, hQ18, l18, y18, z18⟩, st18⟩ := X17.virtualBack hx (y := (⟨"com/example/clearfold/clearfold/trade/EventFeeds$Place", "record", "()J"⟩ : MethodName)) (z := (⟨"com/example/clearfold/clearfold/trade/EventFeeds$Place", "record", "()J"⟩ : MethodName)) hown (mvT hZ (hw _ (List.mem_of_getElem? (i := 27) rfl))) (mvT hZ (hw _ (List.mem_of_getElem? (i := 28) rfl))) (notFace_of_selects (args := #[]) (mvT hZ (hw _ (List.mem_of_getElem? (i := 30) rfl)))) (mvT hZ (hw _ (List.mem_of_getElem? (i := 30) rfl))) (mvT hZ (hw _ (List.mem_of_getElem? (i := 29) rfl))) (by decide) (backOf (W := 0) (rm5 l Z a0 hw [] b (-1) T17.heap n0 Z17 F_record_b) hZ (hw _ (List.mem_of_getElem? (i := 31) rfl)) (hw _ (List.mem_of_getElem? (i := 3) rfl)) (by decide) (by decide)) q18a q18c (g := (mkF m 100 #[.val (.int x0), .val (.int x1), .val (.int x2), .val (.int x3), .val (.ref ar0), .val (.ref ar1), .val (.ref ar2), .val (.ref ar3), .val (.int (0 : Int32)), .val (.ref ar0), .val (.ref b), .unset] [(.ref b)])) rfl (by rw [hml]; rfl) (Steps.refl _) (argsL := []) (rest := []) (lenOf pd_3 rfl) rfl (by show 2 * 0 + _ ≤ _; exact Nat.le_of_eq rfl) (hb hby at_100) (fun _ _ => ⟨rfl, rfl, (by decide : 5 + 0 ≤ _), (by decide : 10 + 0 ≤ _)⟩)
    dsimp only [Pt.U, Pt.locs, Pt.cells, Pt.slots] at X18 l18 y18 z18 st18 hQ18
    subst l18 y18 z18
    obtain ⟨rfl, N18q, e18⟩ := hQ18
    have N18 := Fr.app N17 N18q
    refine RunsTo.of (T' := T18) (g' := (mkF m 103 #[.val (.int x0), .val (.int x1), .val (.int x2), .val (.int x3), .val (.ref ar0), .val (.ref ar1), .val (.ref ar2), .val (.ref ar3), .val (.int (0 : Int32)), .val (.ref ar0), .val (.ref b), .unset] [(.long (-1 : Int64))])) (fun _ kt => st18.trans kt) ?_
    refine RunsTo.of (T' := T18) (g' := (mkF m 114 #[.val (.int x0), .val (.int x1), .val (.int x2), .val (.int x3), .val (.ref ar0), .val (.ref ar1), .val (.ref ar2), .val (.ref ar3), .val (.int (0 : Int32)), .val (.ref ar0), .val (.ref b), .unset] [(.ref b)])) (fun t kt => ?_) ?_
    · refine X18.ldc2Long hx hown (mvT hZ (hw _ (List.mem_of_getElem? (i := 32) rfl))) (g := (mkF m 103 #[.val (.int x0), .val (.int x1), .val (.int x2), .val (.int x3), .val (.ref ar0), .val (.ref ar1), .val (.ref ar2), .val (.ref ar3), .val (.int (0 : Int32)), .val (.ref ar0), .val (.ref b), .unset] [(.long (-1 : Int64))])) rfl (hb hby at_103) _ ?_
      show Steps p.tables e below (T18.setTop (mkF m 106 #[.val (.int x0), .val (.int x1), .val (.int x2), .val (.int x3), .val (.ref ar0), .val (.ref ar1), .val (.ref ar2), .val (.ref ar3), .val (.int (0 : Int32)), .val (.ref ar0), .val (.ref b), .unset] [(.long (-1 : Int64)), (.long (-1 : Int64))])) _
      refine XS.lcmp X18.here hx rfl (hb hby at_106) rfl ?_
      show Steps p.tables e below (T18.setTop (mkF m 107 #[.val (.int x0), .val (.int x1), .val (.int x2), .val (.int x3), .val (.ref ar0), .val (.ref ar1), .val (.ref ar2), .val (.ref ar3), .val (.int (0 : Int32)), .val (.ref ar0), .val (.ref b), .unset] [(.int (lcmpW (-1 : Int64) (-1 : Int64)))])) _
      refine XS.ifYes X18.here hx rfl (pc0 := 107) (pc' := 112) rfl (hb hby at_107) rfl ((if0 _ _).trans (teq ((lw_eq (-1 : Int64) (-1 : Int64)).mpr rfl)).1) (by decide) (by decide) ?_
      show Steps p.tables e below (T18.setTop (mkF m 112 #[.val (.int x0), .val (.int x1), .val (.int x2), .val (.int x3), .val (.ref ar0), .val (.ref ar1), .val (.ref ar2), .val (.ref ar3), .val (.int (0 : Int32)), .val (.ref ar0), .val (.ref b), .unset] [])) _
      refine XS.aload X18.here hx rfl (hb hby at_112) rfl rfl ?_
      show Steps p.tables e below (T18.setTop (mkF m 114 #[.val (.int x0), .val (.int x1), .val (.int x2), .val (.int x3), .val (.ref ar0), .val (.ref ar1), .val (.ref ar2), .val (.ref ar3), .val (.int (0 : Int32)), .val (.ref ar0), .val (.ref b), .unset] [(.ref b)])) _
      exact kt
    obtain ⟨cq19, kq19, q19a, q19b, q19c⟩ := isOf hZ e18 E_b
    obtain ⟨_, _, ⟨T19, L19, k19, n19⟩, -, X19, ⟨Lc19, hQ19, l19, y19, z19⟩, st19⟩ := X18.virtualBack hx (y := (⟨"com/example/clearfold/clearfold/trade/EventFeeds$Place", "offset", "()I"⟩ : MethodName)) (z := (⟨"com/example/clearfold/clearfold/trade/EventFeeds$Place", "offset", "()I"⟩ : MethodName)) hown (mvT hZ (hw _ (List.mem_of_getElem? (i := 33) rfl))) (mvT hZ (hw _ (List.mem_of_getElem? (i := 34) rfl))) (notFace_of_selects (args := #[]) (mvT hZ (hw _ (List.mem_of_getElem? (i := 36) rfl)))) (mvT hZ (hw _ (List.mem_of_getElem? (i := 36) rfl))) (mvT hZ (hw _ (List.mem_of_getElem? (i := 35) rfl))) (by decide) (backOf (W := 0) (rm6 l Z a0 hw [] b 0 T17.heap n0 Z17 F_offset_b) hZ (hw _ (List.mem_of_getElem? (i := 37) rfl)) (hw _ (List.mem_of_getElem? (i := 3) rfl)) (by decide) (by decide)) q19a q19c (g := (mkF m 114 #[.val (.int x0), .val (.int x1), .val (.int x2), .val (.int x3), .val (.ref ar0), .val (.ref ar1), .val (.ref ar2), .val (.ref ar3), .val (.int (0 : Int32)), .val (.ref ar0), .val (.ref b), .unset] [(.ref b)])) rfl (by rw [hml]; rfl) (Steps.refl _) (argsL := []) (rest := []) (lenOf pd_4 rfl) rfl (by show 2 * 0 + _ ≤ _; exact Nat.le_of_eq rfl) (hb hby at_114) (fun _ _ => ⟨rfl, e18, (by decide : 5 + 0 ≤ _), (by decide : 10 + 0 ≤ _)⟩)
    dsimp only [Pt.U, Pt.locs, Pt.cells, Pt.slots] at X19 l19 y19 z19 st19 hQ19
    subst l19 y19 z19
    obtain ⟨rfl, N19q, e19⟩ := hQ19
    have N19 := Fr.app N18 N19q
    refine RunsTo.of (T' := T19) (g' := (mkF m 117 #[.val (.int x0), .val (.int x1), .val (.int x2), .val (.int x3), .val (.ref ar0), .val (.ref ar1), .val (.ref ar2), .val (.ref ar3), .val (.int (0 : Int32)), .val (.ref ar0), .val (.ref b), .unset] [(.int (0 : Int32))])) (fun _ kt => st19.trans kt) ?_
    refine RunsTo.of (T' := T19) (g' := (mkF m 124 #[.val (.int x0), .val (.int x1), .val (.int x2), .val (.int x3), .val (.ref ar0), .val (.ref ar1), .val (.ref ar2), .val (.ref ar3), .val (.int (0 : Int32)), .val (.ref ar0), .val (.ref b), .unset] [(.ref b)])) (fun t kt => ?_) ?_
    · refine XS.ifYes X19.here hx rfl (pc0 := 117) (pc' := 122) rfl (hb hby at_117) rfl ((if0 _ _).trans (teq rfl).1) (by decide) (by decide) ?_
      show Steps p.tables e below (T19.setTop (mkF m 122 #[.val (.int x0), .val (.int x1), .val (.int x2), .val (.int x3), .val (.ref ar0), .val (.ref ar1), .val (.ref ar2), .val (.ref ar3), .val (.int (0 : Int32)), .val (.ref ar0), .val (.ref b), .unset] [])) _
      refine XS.aload X19.here hx rfl (hb hby at_122) rfl rfl ?_
      show Steps p.tables e below (T19.setTop (mkF m 124 #[.val (.int x0), .val (.int x1), .val (.int x2), .val (.int x3), .val (.ref ar0), .val (.ref ar1), .val (.ref ar2), .val (.ref ar3), .val (.int (0 : Int32)), .val (.ref ar0), .val (.ref b), .unset] [(.ref b)])) _
      exact kt
    obtain ⟨cq20, kq20, q20a, q20b, q20c⟩ := isOf hZ e19 E_b
    obtain ⟨_, _, ⟨T20, L20, k20, n20⟩, -, X20, ⟨Lc20, hQ20, l20, y20, z20⟩, st20⟩ := X19.virtualBack hx (y := (⟨"com/example/clearfold/clearfold/trade/EventFeeds$Place", "length", "()I"⟩ : MethodName)) (z := (⟨"com/example/clearfold/clearfold/trade/EventFeeds$Place", "length", "()I"⟩ : MethodName)) hown (mvT hZ (hw _ (List.mem_of_getElem? (i := 38) rfl))) (mvT hZ (hw _ (List.mem_of_getElem? (i := 39) rfl))) (notFace_of_selects (args := #[]) (mvT hZ (hw _ (List.mem_of_getElem? (i := 41) rfl)))) (mvT hZ (hw _ (List.mem_of_getElem? (i := 41) rfl))) (mvT hZ (hw _ (List.mem_of_getElem? (i := 40) rfl))) (by decide) (backOf (W := 0) (rm7 l Z a0 hw [] b (0 : Int32) T17.heap n0 Z17 F_length_b) hZ (hw _ (List.mem_of_getElem? (i := 42) rfl)) (hw _ (List.mem_of_getElem? (i := 3) rfl)) (by decide) (by decide)) q20a q20c (g := (mkF m 124 #[.val (.int x0), .val (.int x1), .val (.int x2), .val (.int x3), .val (.ref ar0), .val (.ref ar1), .val (.ref ar2), .val (.ref ar3), .val (.int (0 : Int32)), .val (.ref ar0), .val (.ref b), .unset] [(.ref b)])) rfl (by rw [hml]; rfl) (Steps.refl _) (argsL := []) (rest := []) (lenOf pd_4 rfl) rfl (by show 2 * 0 + _ ≤ _; exact Nat.le_of_eq rfl) (hb hby at_124) (fun _ _ => ⟨rfl, e19, (by decide : 5 + 0 ≤ _), (by decide : 10 + 0 ≤ _)⟩)
    dsimp only [Pt.U, Pt.locs, Pt.cells, Pt.slots] at X20 l20 y20 z20 st20 hQ20
    subst l20 y20 z20
    obtain ⟨rfl, N20q, e20⟩ := hQ20
    have N20 := Fr.app N19 N20q
    refine RunsTo.of (T' := T20) (g' := (mkF m 127 #[.val (.int x0), .val (.int x1), .val (.int x2), .val (.int x3), .val (.ref ar0), .val (.ref ar1), .val (.ref ar2), .val (.ref ar3), .val (.int (0 : Int32)), .val (.ref ar0), .val (.ref b), .unset] [(.int (0 : Int32))])) (fun _ kt => st20.trans kt) ?_
    refine RunsTo.of (T' := T20) (g' := (mkF m 136 #[.val (.int x0), .val (.int x1), .val (.int x2), .val (.int x3), .val (.ref ar0), .val (.ref ar1), .val (.ref ar2), .val (.ref ar3), .val (.int (0 : Int32)), .val (.ref ar0), .val (.ref b), .unset] [(.ref b)])) (fun t kt => ?_) ?_
    · refine XS.iload X20.here hx rfl (hb hby at_127) rfl ?_
      show Steps p.tables e below (T20.setTop (mkF m 129 #[.val (.int x0), .val (.int x1), .val (.int x2), .val (.int x3), .val (.ref ar0), .val (.ref ar1), .val (.ref ar2), .val (.ref ar3), .val (.int (0 : Int32)), .val (.ref ar0), .val (.ref b), .unset] [(.int (0 : Int32)), (.int (0 : Int32))])) _
      refine XS.icmpYes X20.here hx rfl (pc0 := 129) (pc' := 134) rfl (hb hby at_129) rfl (teq rfl).1 (by decide) (by decide) ?_
      show Steps p.tables e below (T20.setTop (mkF m 134 #[.val (.int x0), .val (.int x1), .val (.int x2), .val (.int x3), .val (.ref ar0), .val (.ref ar1), .val (.ref ar2), .val (.ref ar3), .val (.int (0 : Int32)), .val (.ref ar0), .val (.ref b), .unset] [])) _
      refine XS.aload X20.here hx rfl (hb hby at_134) rfl rfl ?_
      show Steps p.tables e below (T20.setTop (mkF m 136 #[.val (.int x0), .val (.int x1), .val (.int x2), .val (.int x3), .val (.ref ar0), .val (.ref ar1), .val (.ref ar2), .val (.ref ar3), .val (.int (0 : Int32)), .val (.ref ar0), .val (.ref b), .unset] [(.ref b)])) _
      exact kt
    obtain ⟨cq21, kq21, q21a, q21b, q21c⟩ := isOf hZ e20 E_b
    obtain ⟨_, _, ⟨T21, L21, k21, n21⟩, -, X21, ⟨Lc21, hQ21, l21, y21, z21⟩, st21⟩ := X20.virtualBack hx (y := (⟨"com/example/clearfold/clearfold/trade/EventFeeds$Place", "kept", "()[B"⟩ : MethodName)) (z := (⟨"com/example/clearfold/clearfold/trade/EventFeeds$Place", "kept", "()[B"⟩ : MethodName)) hown (mvT hZ (hw _ (List.mem_of_getElem? (i := 43) rfl))) (mvT hZ (hw _ (List.mem_of_getElem? (i := 44) rfl))) (notFace_of_selects (args := #[]) (mvT hZ (hw _ (List.mem_of_getElem? (i := 46) rfl)))) (mvT hZ (hw _ (List.mem_of_getElem? (i := 46) rfl))) (mvT hZ (hw _ (List.mem_of_getElem? (i := 45) rfl))) (by decide) (backOf (W := 0) (rm8 l Z a0 hw [] b (.ref ar0) rfl T17.heap n0 Z17 F_kept_b) hZ (hw _ (List.mem_of_getElem? (i := 47) rfl)) (hw _ (List.mem_of_getElem? (i := 3) rfl)) (by decide) (by decide)) q21a q21c (g := (mkF m 136 #[.val (.int x0), .val (.int x1), .val (.int x2), .val (.int x3), .val (.ref ar0), .val (.ref ar1), .val (.ref ar2), .val (.ref ar3), .val (.int (0 : Int32)), .val (.ref ar0), .val (.ref b), .unset] [(.ref b)])) rfl (by rw [hml]; rfl) (Steps.refl _) (argsL := []) (rest := []) (lenOf pd_5 rfl) rfl (by show 2 * 0 + _ ≤ _; exact Nat.le_of_eq rfl) (hb hby at_136) (fun _ _ => ⟨rfl, e20, (by decide : 5 + 0 ≤ _), (by decide : 10 + 0 ≤ _)⟩)
    dsimp only [Pt.U, Pt.locs, Pt.cells, Pt.slots] at X21 l21 y21 z21 st21 hQ21
    subst l21 y21 z21
    obtain ⟨rfl, N21q, e21⟩ := hQ21
    have N21 := Fr.app N20 N21q
    refine RunsTo.of (T' := T21) (g' := (mkF m 139 #[.val (.int x0), .val (.int x1), .val (.int x2), .val (.int x3), .val (.ref ar0), .val (.ref ar1), .val (.ref ar2), .val (.ref ar3), .val (.int (0 : Int32)), .val (.ref ar0), .val (.ref b), .unset] [(.ref ar0)])) (fun _ kt => st21.trans kt) ?_
    refine RunsTo.of (T' := T21) (g' := (mkF m 152 #[.val (.int x0), .val (.int x1), .val (.int x2), .val (.int x3), .val (.ref ar0), .val (.ref ar1), .val (.ref ar2), .val (.ref ar3), .val (.int (0 : Int32)), .val (.ref ar0), .val (.ref b), .val (.ref ar0)] [(.ref ar0)])) (fun t kt => ?_) ?_
    · refine XS.astore X21.here hx rfl (hb hby at_139) rfl rfl (l' := #[.val (.int x0), .val (.int x1), .val (.int x2), .val (.int x3), .val (.ref ar0), .val (.ref ar1), .val (.ref ar2), .val (.ref ar3), .val (.int (0 : Int32)), .val (.ref ar0), .val (.ref b), .val (.ref ar0)]) rfl ?_
      show Steps p.tables e below (T21.setTop (mkF m 141 #[.val (.int x0), .val (.int x1), .val (.int x2), .val (.int x3), .val (.ref ar0), .val (.ref ar1), .val (.ref ar2), .val (.ref ar3), .val (.int (0 : Int32)), .val (.ref ar0), .val (.ref b), .val (.ref ar0)] [])) _
      refine XS.aload X21.here hx rfl (hb hby at_141) rfl rfl ?_
      show Steps p.tables e below (T21.setTop (mkF m 143 #[.val (.int x0), .val (.int x1), .val (.int x2), .val (.int x3), .val (.ref ar0), .val (.ref ar1), .val (.ref ar2), .val (.ref ar3), .val (.int (0 : Int32)), .val (.ref ar0), .val (.ref b), .val (.ref ar0)] [(.ref ar0)])) _
      refine XS.aload X21.here hx rfl (hb hby at_143) rfl rfl ?_
      show Steps p.tables e below (T21.setTop (mkF m 145 #[.val (.int x0), .val (.int x1), .val (.int x2), .val (.int x3), .val (.ref ar0), .val (.ref ar1), .val (.ref ar2), .val (.ref ar3), .val (.int (0 : Int32)), .val (.ref ar0), .val (.ref b), .val (.ref ar0)] [(.ref ar0), (.ref ar0)])) _
      refine Jvm.RoadKit.acmp (g := (mkF m 145 #[.val (.int x0), .val (.int x1), .val (.int x2), .val (.int x3), .val (.ref ar0), .val (.ref ar1), .val (.ref ar2), .val (.ref ar3), .val (.int (0 : Int32)), .val (.ref ar0), .val (.ref b), .val (.ref ar0)] [(.ref ar0), (.ref ar0)])) X21 hx rfl rfl rfl (pc0 := 145) (pc' := 150) (same := true) rfl (hb hby at_145) rfl (decide_eq_true (congrArg Value.ref rfl)) (by decide) (by decide) ?_
      show Steps p.tables e below (T21.setTop (mkF m 150 #[.val (.int x0), .val (.int x1), .val (.int x2), .val (.int x3), .val (.ref ar0), .val (.ref ar1), .val (.ref ar2), .val (.ref ar3), .val (.int (0 : Int32)), .val (.ref ar0), .val (.ref b), .val (.ref ar0)] [])) _
      refine XS.aload X21.here hx rfl (hb hby at_150) rfl rfl ?_
      show Steps p.tables e below (T21.setTop (mkF m 152 #[.val (.int x0), .val (.int x1), .val (.int x2), .val (.int x3), .val (.ref ar0), .val (.ref ar1), .val (.ref ar2), .val (.ref ar3), .val (.int (0 : Int32)), .val (.ref ar0), .val (.ref b), .val (.ref ar0)] [(.ref ar0)])) _
      exact kt
    obtain ⟨cl_ar0_22, Ar_ar0_22, S_ar0_22, M_ar0_22, H_ar0_22⟩ := id V_ar0
    refine RunsTo.of (T' := T21) (g' := (mkF m 153 #[.val (.int x0), .val (.int x1), .val (.int x2), .val (.int x3), .val (.ref ar0), .val (.ref ar1), .val (.ref ar2), .val (.ref ar3), .val (.int (0 : Int32)), .val (.ref ar0), .val (.ref b), .val (.ref ar0)] [(.int (0 : Int32))])) (fun t kt => ?_) ?_
    · refine X21.arraylength hx (by rw [e21]; exact Ar_ar0_22.1) (State.isArrayOf_alike hZ.alike Ar_ar0_22.2.1) (g := (mkF m 152 #[.val (.int x0), .val (.int x1), .val (.int x2), .val (.int x3), .val (.ref ar0), .val (.ref ar1), .val (.ref ar2), .val (.ref ar3), .val (.int (0 : Int32)), .val (.ref ar0), .val (.ref b), .val (.ref ar0)] [(.ref ar0)])) rfl rfl (hb hby at_152) _ ?_
      rw [len_of S_ar0_22 M_ar0_22]
      show Steps p.tables e below (T21.setTop (mkF m 153 #[.val (.int x0), .val (.int x1), .val (.int x2), .val (.int x3), .val (.ref ar0), .val (.ref ar1), .val (.ref ar2), .val (.ref ar3), .val (.int (0 : Int32)), .val (.ref ar0), .val (.ref b), .val (.ref ar0)] [(.int (0 : Int32))])) _
      exact kt
    refine RunsTo.of (T' := T21) (g' := (mkF m 212 #[.val (.int x0), .val (.int x1), .val (.int x2), .val (.int x3), .val (.ref ar0), .val (.ref ar1), .val (.ref ar2), .val (.ref ar3), .val (.int (0 : Int32)), .val (.ref ar0), .val (.ref b), .val (.ref ar0)] [(.int (1 : Int32))])) (fun t kt => ?_) ?_
    · refine XS.iload X21.here hx rfl (hb hby at_153) rfl ?_
      show Steps p.tables e below (T21.setTop (mkF m 155 #[.val (.int x0), .val (.int x1), .val (.int x2), .val (.int x3), .val (.ref ar0), .val (.ref ar1), .val (.ref ar2), .val (.ref ar3), .val (.int (0 : Int32)), .val (.ref ar0), .val (.ref b), .val (.ref ar0)] [(.int (0 : Int32)), (.int (0 : Int32))])) _
      refine XS.icmpYes X21.here hx rfl (pc0 := 155) (pc' := 160) rfl (hb hby at_155) rfl (teq rfl).1 (by decide) (by decide) ?_
      show Steps p.tables e below (T21.setTop (mkF m 160 #[.val (.int x0), .val (.int x1), .val (.int x2), .val (.int x3), .val (.ref ar0), .val (.ref ar1), .val (.ref ar2), .val (.ref ar3), .val (.int (0 : Int32)), .val (.ref ar0), .val (.ref b), .val (.ref ar0)] [])) _
      refine XS.iload X21.here hx rfl (hb hby at_160) rfl ?_
      show Steps p.tables e below (T21.setTop (mkF m 162 #[.val (.int x0), .val (.int x1), .val (.int x2), .val (.int x3), .val (.ref ar0), .val (.ref ar1), .val (.ref ar2), .val (.ref ar3), .val (.int (0 : Int32)), .val (.ref ar0), .val (.ref b), .val (.ref ar0)] [(.int (0 : Int32))])) _
      refine XS.iconst X21.here hx rfl (hb hby at_162) ?_
      show Steps p.tables e below (T21.setTop (mkF m 163 #[.val (.int x0), .val (.int x1), .val (.int x2), .val (.int x3), .val (.ref ar0), .val (.ref ar1), .val (.ref ar2), .val (.ref ar3), .val (.int (0 : Int32)), .val (.ref ar0), .val (.ref b), .val (.ref ar0)] [(.int (1 : Int32)), (.int (0 : Int32))])) _
      refine XS.icmpYes X21.here hx rfl (pc0 := 163) (pc' := 177) rfl (hb hby at_163) rfl (tlt (by decide)).1 (by decide) (by decide) ?_
      show Steps p.tables e below (T21.setTop (mkF m 177 #[.val (.int x0), .val (.int x1), .val (.int x2), .val (.int x3), .val (.ref ar0), .val (.ref ar1), .val (.ref ar2), .val (.ref ar3), .val (.int (0 : Int32)), .val (.ref ar0), .val (.ref b), .val (.ref ar0)] [])) _
      refine XS.iload X21.here hx rfl (hb hby at_177) rfl ?_
      show Steps p.tables e below (T21.setTop (mkF m 179 #[.val (.int x0), .val (.int x1), .val (.int x2), .val (.int x3), .val (.ref ar0), .val (.ref ar1), .val (.ref ar2), .val (.ref ar3), .val (.int (0 : Int32)), .val (.ref ar0), .val (.ref b), .val (.ref ar0)] [(.int (0 : Int32))])) _
      refine XS.iconst X21.here hx rfl (hb hby at_179) ?_
      show Steps p.tables e below (T21.setTop (mkF m 180 #[.val (.int x0), .val (.int x1), .val (.int x2), .val (.int x3), .val (.ref ar0), .val (.ref ar1), .val (.ref ar2), .val (.ref ar3), .val (.int (0 : Int32)), .val (.ref ar0), .val (.ref b), .val (.ref ar0)] [(.int (2 : Int32)), (.int (0 : Int32))])) _
      refine XS.icmpYes X21.here hx rfl (pc0 := 180) (pc' := 194) rfl (hb hby at_180) rfl (tlt (by decide)).1 (by decide) (by decide) ?_
      show Steps p.tables e below (T21.setTop (mkF m 194 #[.val (.int x0), .val (.int x1), .val (.int x2), .val (.int x3), .val (.ref ar0), .val (.ref ar1), .val (.ref ar2), .val (.ref ar3), .val (.int (0 : Int32)), .val (.ref ar0), .val (.ref b), .val (.ref ar0)] [])) _
      refine XS.iload X21.here hx rfl (hb hby at_194) rfl ?_
      show Steps p.tables e below (T21.setTop (mkF m 196 #[.val (.int x0), .val (.int x1), .val (.int x2), .val (.int x3), .val (.ref ar0), .val (.ref ar1), .val (.ref ar2), .val (.ref ar3), .val (.int (0 : Int32)), .val (.ref ar0), .val (.ref b), .val (.ref ar0)] [(.int (0 : Int32))])) _
      refine XS.iconst X21.here hx rfl (hb hby at_196) ?_
      show Steps p.tables e below (T21.setTop (mkF m 197 #[.val (.int x0), .val (.int x1), .val (.int x2), .val (.int x3), .val (.ref ar0), .val (.ref ar1), .val (.ref ar2), .val (.ref ar3), .val (.int (0 : Int32)), .val (.ref ar0), .val (.ref b), .val (.ref ar0)] [(.int (3 : Int32)), (.int (0 : Int32))])) _
      refine XS.icmpYes X21.here hx rfl (pc0 := 197) (pc' := 211) rfl (hb hby at_197) rfl (tlt (by decide)).1 (by decide) (by decide) ?_
      show Steps p.tables e below (T21.setTop (mkF m 211 #[.val (.int x0), .val (.int x1), .val (.int x2), .val (.int x3), .val (.ref ar0), .val (.ref ar1), .val (.ref ar2), .val (.ref ar3), .val (.int (0 : Int32)), .val (.ref ar0), .val (.ref b), .val (.ref ar0)] [])) _
      refine XS.iconst X21.here hx rfl (hb hby at_211) ?_
      show Steps p.tables e below (T21.setTop (mkF m 212 #[.val (.int x0), .val (.int x1), .val (.int x2), .val (.int x3), .val (.ref ar0), .val (.ref ar1), .val (.ref ar2), .val (.ref ar3), .val (.int (0 : Int32)), .val (.ref ar0), .val (.ref b), .val (.ref ar0)] [(.int (1 : Int32))])) _
      exact kt
    refine RunsTo.retN X21 hx (t := .boolean) Bd.returns (by simp) Bd.notSynchronized (hb hby at_212) ?_ (by decide) (by decide)
    rw [e21]
    exact ⟨rfl, N21⟩
  · refine RunsTo.of (T' := T16) (g' := (mkF m 93 #[.val (.int x0), .val (.int x1), .val (.int x2), .val (.int x3), .val (.ref ar0), .val (.ref ar1), .val (.ref ar2), .val (.ref ar3), .val (.int (1 : Int32)), .val (.ref ar1), .unset, .unset] [(.ref ar1)])) (fun t kt => ?_) ?_
    · refine XS.iload X16.here hx rfl (hb hby at_55) rfl ?_
      show Steps p.tables e below (T16.setTop (mkF m 57 #[.val (.int x0), .val (.int x1), .val (.int x2), .val (.int x3), .val (.ref ar0), .val (.ref ar1), .val (.ref ar2), .val (.ref ar3), .val (.int (1 : Int32)), .unset, .unset, .unset] [(.int (1 : Int32))])) _
      refine XS.ifYes X16.here hx rfl (pc0 := 57) (pc' := 65) rfl (hb hby at_57) rfl ((if0 _ _).trans (feq (by decide)).2) (by decide) (by decide) ?_
      show Steps p.tables e below (T16.setTop (mkF m 65 #[.val (.int x0), .val (.int x1), .val (.int x2), .val (.int x3), .val (.ref ar0), .val (.ref ar1), .val (.ref ar2), .val (.ref ar3), .val (.int (1 : Int32)), .unset, .unset, .unset] [])) _
      refine XS.iload X16.here hx rfl (hb hby at_65) rfl ?_
      show Steps p.tables e below (T16.setTop (mkF m 67 #[.val (.int x0), .val (.int x1), .val (.int x2), .val (.int x3), .val (.ref ar0), .val (.ref ar1), .val (.ref ar2), .val (.ref ar3), .val (.int (1 : Int32)), .unset, .unset, .unset] [(.int (1 : Int32))])) _
      refine XS.iconst X16.here hx rfl (hb hby at_67) ?_
      show Steps p.tables e below (T16.setTop (mkF m 68 #[.val (.int x0), .val (.int x1), .val (.int x2), .val (.int x3), .val (.ref ar0), .val (.ref ar1), .val (.ref ar2), .val (.ref ar3), .val (.int (1 : Int32)), .unset, .unset, .unset] [(.int (1 : Int32)), (.int (1 : Int32))])) _
      refine XS.icmpNo X16.here hx rfl (hb hby at_68) rfl (teq (by decide)).2 ?_
      show Steps p.tables e below (T16.setTop (mkF m 71 #[.val (.int x0), .val (.int x1), .val (.int x2), .val (.int x3), .val (.ref ar0), .val (.ref ar1), .val (.ref ar2), .val (.ref ar3), .val (.int (1 : Int32)), .unset, .unset, .unset] [])) _
      refine XS.aload X16.here hx rfl (hb hby at_71) rfl rfl ?_
      show Steps p.tables e below (T16.setTop (mkF m 73 #[.val (.int x0), .val (.int x1), .val (.int x2), .val (.int x3), .val (.ref ar0), .val (.ref ar1), .val (.ref ar2), .val (.ref ar3), .val (.int (1 : Int32)), .unset, .unset, .unset] [(.ref ar1)])) _
      refine XS.goto X16.here hx rfl (pc0 := 73) (pc' := 89) rfl (hb hby at_73) (by decide) (by decide) ?_
      show Steps p.tables e below (T16.setTop (mkF m 89 #[.val (.int x0), .val (.int x1), .val (.int x2), .val (.int x3), .val (.ref ar0), .val (.ref ar1), .val (.ref ar2), .val (.ref ar3), .val (.int (1 : Int32)), .unset, .unset, .unset] [(.ref ar1)])) _
      refine XS.astore X16.here hx rfl (hb hby at_89) rfl rfl (l' := #[.val (.int x0), .val (.int x1), .val (.int x2), .val (.int x3), .val (.ref ar0), .val (.ref ar1), .val (.ref ar2), .val (.ref ar3), .val (.int (1 : Int32)), .val (.ref ar1), .unset, .unset]) rfl ?_
      show Steps p.tables e below (T16.setTop (mkF m 91 #[.val (.int x0), .val (.int x1), .val (.int x2), .val (.int x3), .val (.ref ar0), .val (.ref ar1), .val (.ref ar2), .val (.ref ar3), .val (.int (1 : Int32)), .val (.ref ar1), .unset, .unset] [])) _
      refine XS.aload X16.here hx rfl (hb hby at_91) rfl rfl ?_
      show Steps p.tables e below (T16.setTop (mkF m 93 #[.val (.int x0), .val (.int x1), .val (.int x2), .val (.int x3), .val (.ref ar0), .val (.ref ar1), .val (.ref ar2), .val (.ref ar3), .val (.int (1 : Int32)), .val (.ref ar1), .unset, .unset] [(.ref ar1)])) _
      exact kt
    obtain ⟨_, _, ⟨T23, L23, k23, n23⟩, -, X23, ⟨Lc23, hQ23, l23, y23, z23⟩, st23⟩ := Jvm.LawKit.callS X16 hx (y := (⟨"com/example/clearfold/clearfold/trade/EventFeeds$Place", "kept", "([B)Lcom/example/clearfold/clearfold/trade/EventFeeds$Place;"⟩ : MethodName)) hown (mvT hZ (hw _ (List.mem_of_getElem? (i := 1) rfl))) (mvT hZ (hw _ (List.mem_of_getElem? (i := 2) rfl))) (mvT hZ (hw _ (List.mem_of_getElem? (i := 3) rfl))) (mvT hZ (hw _ (List.mem_of_getElem? (i := 4) rfl))) (by decide) (backOf (W := 0) (rm1 l Z a0 hw [] ar1 (1 : Int32) (fun i => if i = ((0 : Int32)).toNatClampNeg then (.int (nar .byte x1.toInt8.toInt32)) else (fun _ => (.int (0 : Int32))) i) h16 n0 Z16 V_ar1) hZ (hw _ (List.mem_of_getElem? (i := 4) rfl)) (hw _ (List.mem_of_getElem? (i := 3) rfl)) (by decide) (by decide)) (g := (mkF m 93 #[.val (.int x0), .val (.int x1), .val (.int x2), .val (.int x3), .val (.ref ar0), .val (.ref ar1), .val (.ref ar2), .val (.ref ar3), .val (.int (1 : Int32)), .val (.ref ar1), .unset, .unset] [(.ref ar1)])) rfl (by rw [hml]; rfl) (argsL := [(.ref ar1)]) (rest := []) (lenOf pd_2 rfl) rfl (by show 2 * 0 + _ ≤ _; exact Nat.le_of_eq rfl) (hb hby at_93) (fun _ _ => ⟨rfl, e16, (by decide : 4 + 1 ≤ _), (by decide : 6 + 4 ≤ _)⟩)
    dsimp only [Pt.U, Pt.locs, Pt.cells, Pt.slots] at X23 l23 y23 z23 st23 hQ23
    subst l23 y23 z23
    obtain ⟨b, rfl, N23q, gb23, K23, E_b, F_record_b, F_offset_b, F_length_b, F_kept_b⟩ := hQ23
    have N23 := Fr.app N16 N23q
    have Z23 : n0 ≤ T23.heap.size := Nat.le_trans Z16 K23.1
    have V_ar0 := V_ar0.keep K23 nin0
    have V_ar1 := V_ar1.keep K23 nin0
    have V_ar2 := V_ar2.keep K23 nin0
    have V_ar3 := V_ar3.keep K23 nin0
    refine RunsTo.of (T' := T23) (g' := (mkF m 96 #[.val (.int x0), .val (.int x1), .val (.int x2), .val (.int x3), .val (.ref ar0), .val (.ref ar1), .val (.ref ar2), .val (.ref ar3), .val (.int (1 : Int32)), .val (.ref ar1), .unset, .unset] [(.ref b)])) st23 ?_
    refine RunsTo.of (T' := T23) (g' := (mkF m 100 #[.val (.int x0), .val (.int x1), .val (.int x2), .val (.int x3), .val (.ref ar0), .val (.ref ar1), .val (.ref ar2), .val (.ref ar3), .val (.int (1 : Int32)), .val (.ref ar1), .val (.ref b), .unset] [(.ref b)])) (fun t kt => ?_) ?_
    · refine XS.astore X23.here hx rfl (hb hby at_96) rfl rfl (l' := #[.val (.int x0), .val (.int x1), .val (.int x2), .val (.int x3), .val (.ref ar0), .val (.ref ar1), .val (.ref ar2), .val (.ref ar3), .val (.int (1 : Int32)), .val (.ref ar1), .val (.ref b), .unset]) rfl ?_
      show Steps p.tables e below (T23.setTop (mkF m 98 #[.val (.int x0), .val (.int x1), .val (.int x2), .val (.int x3), .val (.ref ar0), .val (.ref ar1), .val (.ref ar2), .val (.ref ar3), .val (.int (1 : Int32)), .val (.ref ar1), .val (.ref b), .unset] [])) _
      refine XS.aload X23.here hx rfl (hb hby at_98) rfl rfl ?_
      show Steps p.tables e below (T23.setTop (mkF m 100 #[.val (.int x0), .val (.int x1), .val (.int x2), .val (.int x3), .val (.ref ar0), .val (.ref ar1), .val (.ref ar2), .val (.ref ar3), .val (.int (1 : Int32)), .val (.ref ar1), .val (.ref b), .unset] [(.ref b)])) _
      exact kt
    obtain ⟨cq24, kq24, q24a, q24b, q24c⟩ := isOf hZ rfl E_b
    obtain ⟨_, _, ⟨T24, L24, k24, n24⟩, -, X24, ⟨Lc24, hQ24, l24, y24, z24⟩, st24⟩ := X23.virtualBack hx (y := (⟨"com/example/clearfold/clearfold/trade/EventFeeds$Place", "record", "()J"⟩ : MethodName)) (z := (⟨"com/example/clearfold/clearfold/trade/EventFeeds$Place", "record", "()J"⟩ : MethodName)) hown (mvT hZ (hw _ (List.mem_of_getElem? (i := 27) rfl))) (mvT hZ (hw _ (List.mem_of_getElem? (i := 28) rfl))) (notFace_of_selects (args := #[]) (mvT hZ (hw _ (List.mem_of_getElem? (i := 30) rfl)))) (mvT hZ (hw _ (List.mem_of_getElem? (i := 30) rfl))) (mvT hZ (hw _ (List.mem_of_getElem? (i := 29) rfl))) (by decide) (backOf (W := 0) (rm5 l Z a0 hw [] b (-1) T23.heap n0 Z23 F_record_b) hZ (hw _ (List.mem_of_getElem? (i := 31) rfl)) (hw _ (List.mem_of_getElem? (i := 3) rfl)) (by decide) (by decide)) q24a q24c (g := (mkF m 100 #[.val (.int x0), .val (.int x1), .val (.int x2), .val (.int x3), .val (.ref ar0), .val (.ref ar1), .val (.ref ar2), .val (.ref ar3), .val (.int (1 : Int32)), .val (.ref ar1), .val (.ref b), .unset] [(.ref b)])) rfl (by rw [hml]; rfl) (Steps.refl _) (argsL := []) (rest := []) (lenOf pd_3 rfl) rfl (by show 2 * 0 + _ ≤ _; exact Nat.le_of_eq rfl) (hb hby at_100) (fun _ _ => ⟨rfl, rfl, (by decide : 5 + 0 ≤ _), (by decide : 10 + 0 ≤ _)⟩)
    dsimp only [Pt.U, Pt.locs, Pt.cells, Pt.slots] at X24 l24 y24 z24 st24 hQ24
    subst l24 y24 z24
    obtain ⟨rfl, N24q, e24⟩ := hQ24
    have N24 := Fr.app N23 N24q
    refine RunsTo.of (T' := T24) (g' := (mkF m 103 #[.val (.int x0), .val (.int x1), .val (.int x2), .val (.int x3), .val (.ref ar0), .val (.ref ar1), .val (.ref ar2), .val (.ref ar3), .val (.int (1 : Int32)), .val (.ref ar1), .val (.ref b), .unset] [(.long (-1 : Int64))])) (fun _ kt => st24.trans kt) ?_
    refine RunsTo.of (T' := T24) (g' := (mkF m 114 #[.val (.int x0), .val (.int x1), .val (.int x2), .val (.int x3), .val (.ref ar0), .val (.ref ar1), .val (.ref ar2), .val (.ref ar3), .val (.int (1 : Int32)), .val (.ref ar1), .val (.ref b), .unset] [(.ref b)])) (fun t kt => ?_) ?_
    · refine X24.ldc2Long hx hown (mvT hZ (hw _ (List.mem_of_getElem? (i := 32) rfl))) (g := (mkF m 103 #[.val (.int x0), .val (.int x1), .val (.int x2), .val (.int x3), .val (.ref ar0), .val (.ref ar1), .val (.ref ar2), .val (.ref ar3), .val (.int (1 : Int32)), .val (.ref ar1), .val (.ref b), .unset] [(.long (-1 : Int64))])) rfl (hb hby at_103) _ ?_
      show Steps p.tables e below (T24.setTop (mkF m 106 #[.val (.int x0), .val (.int x1), .val (.int x2), .val (.int x3), .val (.ref ar0), .val (.ref ar1), .val (.ref ar2), .val (.ref ar3), .val (.int (1 : Int32)), .val (.ref ar1), .val (.ref b), .unset] [(.long (-1 : Int64)), (.long (-1 : Int64))])) _
      refine XS.lcmp X24.here hx rfl (hb hby at_106) rfl ?_
      show Steps p.tables e below (T24.setTop (mkF m 107 #[.val (.int x0), .val (.int x1), .val (.int x2), .val (.int x3), .val (.ref ar0), .val (.ref ar1), .val (.ref ar2), .val (.ref ar3), .val (.int (1 : Int32)), .val (.ref ar1), .val (.ref b), .unset] [(.int (lcmpW (-1 : Int64) (-1 : Int64)))])) _
      refine XS.ifYes X24.here hx rfl (pc0 := 107) (pc' := 112) rfl (hb hby at_107) rfl ((if0 _ _).trans (teq ((lw_eq (-1 : Int64) (-1 : Int64)).mpr rfl)).1) (by decide) (by decide) ?_
      show Steps p.tables e below (T24.setTop (mkF m 112 #[.val (.int x0), .val (.int x1), .val (.int x2), .val (.int x3), .val (.ref ar0), .val (.ref ar1), .val (.ref ar2), .val (.ref ar3), .val (.int (1 : Int32)), .val (.ref ar1), .val (.ref b), .unset] [])) _
      refine XS.aload X24.here hx rfl (hb hby at_112) rfl rfl ?_
      show Steps p.tables e below (T24.setTop (mkF m 114 #[.val (.int x0), .val (.int x1), .val (.int x2), .val (.int x3), .val (.ref ar0), .val (.ref ar1), .val (.ref ar2), .val (.ref ar3), .val (.int (1 : Int32)), .val (.ref ar1), .val (.ref b), .unset] [(.ref b)])) _
      exact kt
    obtain ⟨cq25, kq25, q25a, q25b, q25c⟩ := isOf hZ e24 E_b
    obtain ⟨_, _, ⟨T25, L25, k25, n25⟩, -, X25, ⟨Lc25, hQ25, l25, y25, z25⟩, st25⟩ := X24.virtualBack hx (y := (⟨"com/example/clearfold/clearfold/trade/EventFeeds$Place", "offset", "()I"⟩ : MethodName)) (z := (⟨"com/example/clearfold/clearfold/trade/EventFeeds$Place", "offset", "()I"⟩ : MethodName)) hown (mvT hZ (hw _ (List.mem_of_getElem? (i := 33) rfl))) (mvT hZ (hw _ (List.mem_of_getElem? (i := 34) rfl))) (notFace_of_selects (args := #[]) (mvT hZ (hw _ (List.mem_of_getElem? (i := 36) rfl)))) (mvT hZ (hw _ (List.mem_of_getElem? (i := 36) rfl))) (mvT hZ (hw _ (List.mem_of_getElem? (i := 35) rfl))) (by decide) (backOf (W := 0) (rm6 l Z a0 hw [] b 0 T23.heap n0 Z23 F_offset_b) hZ (hw _ (List.mem_of_getElem? (i := 37) rfl)) (hw _ (List.mem_of_getElem? (i := 3) rfl)) (by decide) (by decide)) q25a q25c (g := (mkF m 114 #[.val (.int x0), .val (.int x1), .val (.int x2), .val (.int x3), .val (.ref ar0), .val (.ref ar1), .val (.ref ar2), .val (.ref ar3), .val (.int (1 : Int32)), .val (.ref ar1), .val (.ref b), .unset] [(.ref b)])) rfl (by rw [hml]; rfl) (Steps.refl _) (argsL := []) (rest := []) (lenOf pd_4 rfl) rfl (by show 2 * 0 + _ ≤ _; exact Nat.le_of_eq rfl) (hb hby at_114) (fun _ _ => ⟨rfl, e24, (by decide : 5 + 0 ≤ _), (by decide : 10 + 0 ≤ _)⟩)
    dsimp only [Pt.U, Pt.locs, Pt.cells, Pt.slots] at X25 l25 y25 z25 st25 hQ25
    subst l25 y25 z25
    obtain ⟨rfl, N25q, e25⟩ := hQ25
    have N25 := Fr.app N24 N25q
    refine RunsTo.of (T' := T25) (g' := (mkF m 117 #[.val (.int x0), .val (.int x1), .val (.int x2), .val (.int x3), .val (.ref ar0), .val (.ref ar1), .val (.ref ar2), .val (.ref ar3), .val (.int (1 : Int32)), .val (.ref ar1), .val (.ref b), .unset] [(.int (0 : Int32))])) (fun _ kt => st25.trans kt) ?_
    refine RunsTo.of (T' := T25) (g' := (mkF m 124 #[.val (.int x0), .val (.int x1), .val (.int x2), .val (.int x3), .val (.ref ar0), .val (.ref ar1), .val (.ref ar2), .val (.ref ar3), .val (.int (1 : Int32)), .val (.ref ar1), .val (.ref b), .unset] [(.ref b)])) (fun t kt => ?_) ?_
    · refine XS.ifYes X25.here hx rfl (pc0 := 117) (pc' := 122) rfl (hb hby at_117) rfl ((if0 _ _).trans (teq rfl).1) (by decide) (by decide) ?_
      show Steps p.tables e below (T25.setTop (mkF m 122 #[.val (.int x0), .val (.int x1), .val (.int x2), .val (.int x3), .val (.ref ar0), .val (.ref ar1), .val (.ref ar2), .val (.ref ar3), .val (.int (1 : Int32)), .val (.ref ar1), .val (.ref b), .unset] [])) _
      refine XS.aload X25.here hx rfl (hb hby at_122) rfl rfl ?_
      show Steps p.tables e below (T25.setTop (mkF m 124 #[.val (.int x0), .val (.int x1), .val (.int x2), .val (.int x3), .val (.ref ar0), .val (.ref ar1), .val (.ref ar2), .val (.ref ar3), .val (.int (1 : Int32)), .val (.ref ar1), .val (.ref b), .unset] [(.ref b)])) _
      exact kt
    obtain ⟨cq26, kq26, q26a, q26b, q26c⟩ := isOf hZ e25 E_b
    obtain ⟨_, _, ⟨T26, L26, k26, n26⟩, -, X26, ⟨Lc26, hQ26, l26, y26, z26⟩, st26⟩ := X25.virtualBack hx (y := (⟨"com/example/clearfold/clearfold/trade/EventFeeds$Place", "length", "()I"⟩ : MethodName)) (z := (⟨"com/example/clearfold/clearfold/trade/EventFeeds$Place", "length", "()I"⟩ : MethodName)) hown (mvT hZ (hw _ (List.mem_of_getElem? (i := 38) rfl))) (mvT hZ (hw _ (List.mem_of_getElem? (i := 39) rfl))) (notFace_of_selects (args := #[]) (mvT hZ (hw _ (List.mem_of_getElem? (i := 41) rfl)))) (mvT hZ (hw _ (List.mem_of_getElem? (i := 41) rfl))) (mvT hZ (hw _ (List.mem_of_getElem? (i := 40) rfl))) (by decide) (backOf (W := 0) (rm7 l Z a0 hw [] b (1 : Int32) T23.heap n0 Z23 F_length_b) hZ (hw _ (List.mem_of_getElem? (i := 42) rfl)) (hw _ (List.mem_of_getElem? (i := 3) rfl)) (by decide) (by decide)) q26a q26c (g := (mkF m 124 #[.val (.int x0), .val (.int x1), .val (.int x2), .val (.int x3), .val (.ref ar0), .val (.ref ar1), .val (.ref ar2), .val (.ref ar3), .val (.int (1 : Int32)), .val (.ref ar1), .val (.ref b), .unset] [(.ref b)])) rfl (by rw [hml]; rfl) (Steps.refl _) (argsL := []) (rest := []) (lenOf pd_4 rfl) rfl (by show 2 * 0 + _ ≤ _; exact Nat.le_of_eq rfl) (hb hby at_124) (fun _ _ => ⟨rfl, e25, (by decide : 5 + 0 ≤ _), (by decide : 10 + 0 ≤ _)⟩)
    dsimp only [Pt.U, Pt.locs, Pt.cells, Pt.slots] at X26 l26 y26 z26 st26 hQ26
    subst l26 y26 z26
    obtain ⟨rfl, N26q, e26⟩ := hQ26
    have N26 := Fr.app N25 N26q
    refine RunsTo.of (T' := T26) (g' := (mkF m 127 #[.val (.int x0), .val (.int x1), .val (.int x2), .val (.int x3), .val (.ref ar0), .val (.ref ar1), .val (.ref ar2), .val (.ref ar3), .val (.int (1 : Int32)), .val (.ref ar1), .val (.ref b), .unset] [(.int (1 : Int32))])) (fun _ kt => st26.trans kt) ?_
    refine RunsTo.of (T' := T26) (g' := (mkF m 136 #[.val (.int x0), .val (.int x1), .val (.int x2), .val (.int x3), .val (.ref ar0), .val (.ref ar1), .val (.ref ar2), .val (.ref ar3), .val (.int (1 : Int32)), .val (.ref ar1), .val (.ref b), .unset] [(.ref b)])) (fun t kt => ?_) ?_
    · refine XS.iload X26.here hx rfl (hb hby at_127) rfl ?_
      show Steps p.tables e below (T26.setTop (mkF m 129 #[.val (.int x0), .val (.int x1), .val (.int x2), .val (.int x3), .val (.ref ar0), .val (.ref ar1), .val (.ref ar2), .val (.ref ar3), .val (.int (1 : Int32)), .val (.ref ar1), .val (.ref b), .unset] [(.int (1 : Int32)), (.int (1 : Int32))])) _
      refine XS.icmpYes X26.here hx rfl (pc0 := 129) (pc' := 134) rfl (hb hby at_129) rfl (teq rfl).1 (by decide) (by decide) ?_
      show Steps p.tables e below (T26.setTop (mkF m 134 #[.val (.int x0), .val (.int x1), .val (.int x2), .val (.int x3), .val (.ref ar0), .val (.ref ar1), .val (.ref ar2), .val (.ref ar3), .val (.int (1 : Int32)), .val (.ref ar1), .val (.ref b), .unset] [])) _
      refine XS.aload X26.here hx rfl (hb hby at_134) rfl rfl ?_
      show Steps p.tables e below (T26.setTop (mkF m 136 #[.val (.int x0), .val (.int x1), .val (.int x2), .val (.int x3), .val (.ref ar0), .val (.ref ar1), .val (.ref ar2), .val (.ref ar3), .val (.int (1 : Int32)), .val (.ref ar1), .val (.ref b), .unset] [(.ref b)])) _
      exact kt
    obtain ⟨cq27, kq27, q27a, q27b, q27c⟩ := isOf hZ e26 E_b
    obtain ⟨_, _, ⟨T27, L27, k27, n27⟩, -, X27, ⟨Lc27, hQ27, l27, y27, z27⟩, st27⟩ := X26.virtualBack hx (y := (⟨"com/example/clearfold/clearfold/trade/EventFeeds$Place", "kept", "()[B"⟩ : MethodName)) (z := (⟨"com/example/clearfold/clearfold/trade/EventFeeds$Place", "kept", "()[B"⟩ : MethodName)) hown (mvT hZ (hw _ (List.mem_of_getElem? (i := 43) rfl))) (mvT hZ (hw _ (List.mem_of_getElem? (i := 44) rfl))) (notFace_of_selects (args := #[]) (mvT hZ (hw _ (List.mem_of_getElem? (i := 46) rfl)))) (mvT hZ (hw _ (List.mem_of_getElem? (i := 46) rfl))) (mvT hZ (hw _ (List.mem_of_getElem? (i := 45) rfl))) (by decide) (backOf (W := 0) (rm8 l Z a0 hw [] b (.ref ar1) rfl T23.heap n0 Z23 F_kept_b) hZ (hw _ (List.mem_of_getElem? (i := 47) rfl)) (hw _ (List.mem_of_getElem? (i := 3) rfl)) (by decide) (by decide)) q27a q27c (g := (mkF m 136 #[.val (.int x0), .val (.int x1), .val (.int x2), .val (.int x3), .val (.ref ar0), .val (.ref ar1), .val (.ref ar2), .val (.ref ar3), .val (.int (1 : Int32)), .val (.ref ar1), .val (.ref b), .unset] [(.ref b)])) rfl (by rw [hml]; rfl) (Steps.refl _) (argsL := []) (rest := []) (lenOf pd_5 rfl) rfl (by show 2 * 0 + _ ≤ _; exact Nat.le_of_eq rfl) (hb hby at_136) (fun _ _ => ⟨rfl, e26, (by decide : 5 + 0 ≤ _), (by decide : 10 + 0 ≤ _)⟩)
    dsimp only [Pt.U, Pt.locs, Pt.cells, Pt.slots] at X27 l27 y27 z27 st27 hQ27
    subst l27 y27 z27
    obtain ⟨rfl, N27q, e27⟩ := hQ27
    have N27 := Fr.app N26 N27q
    refine RunsTo.of (T' := T27) (g' := (mkF m 139 #[.val (.int x0), .val (.int x1), .val (.int x2), .val (.int x3), .val (.ref ar0), .val (.ref ar1), .val (.ref ar2), .val (.ref ar3), .val (.int (1 : Int32)), .val (.ref ar1), .val (.ref b), .unset] [(.ref ar1)])) (fun _ kt => st27.trans kt) ?_
    refine RunsTo.of (T' := T27) (g' := (mkF m 152 #[.val (.int x0), .val (.int x1), .val (.int x2), .val (.int x3), .val (.ref ar0), .val (.ref ar1), .val (.ref ar2), .val (.ref ar3), .val (.int (1 : Int32)), .val (.ref ar1), .val (.ref b), .val (.ref ar1)] [(.ref ar1)])) (fun t kt => ?_) ?_
    · refine XS.astore X27.here hx rfl (hb hby at_139) rfl rfl (l' := #[.val (.int x0), .val (.int x1), .val (.int x2), .val (.int x3), .val (.ref ar0), .val (.ref ar1), .val (.ref ar2), .val (.ref ar3), .val (.int (1 : Int32)), .val (.ref ar1), .val (.ref b), .val (.ref ar1)]) rfl ?_
      show Steps p.tables e below (T27.setTop (mkF m 141 #[.val (.int x0), .val (.int x1), .val (.int x2), .val (.int x3), .val (.ref ar0), .val (.ref ar1), .val (.ref ar2), .val (.ref ar3), .val (.int (1 : Int32)), .val (.ref ar1), .val (.ref b), .val (.ref ar1)] [])) _
      refine XS.aload X27.here hx rfl (hb hby at_141) rfl rfl ?_
      show Steps p.tables e below (T27.setTop (mkF m 143 #[.val (.int x0), .val (.int x1), .val (.int x2), .val (.int x3), .val (.ref ar0), .val (.ref ar1), .val (.ref ar2), .val (.ref ar3), .val (.int (1 : Int32)), .val (.ref ar1), .val (.ref b), .val (.ref ar1)] [(.ref ar1)])) _
      refine XS.aload X27.here hx rfl (hb hby at_143) rfl rfl ?_
      show Steps p.tables e below (T27.setTop (mkF m 145 #[.val (.int x0), .val (.int x1), .val (.int x2), .val (.int x3), .val (.ref ar0), .val (.ref ar1), .val (.ref ar2), .val (.ref ar3), .val (.int (1 : Int32)), .val (.ref ar1), .val (.ref b), .val (.ref ar1)] [(.ref ar1), (.ref ar1)])) _
      refine Jvm.RoadKit.acmp (g := (mkF m 145 #[.val (.int x0), .val (.int x1), .val (.int x2), .val (.int x3), .val (.ref ar0), .val (.ref ar1), .val (.ref ar2), .val (.ref ar3), .val (.int (1 : Int32)), .val (.ref ar1), .val (.ref b), .val (.ref ar1)] [(.ref ar1), (.ref ar1)])) X27 hx rfl rfl rfl (pc0 := 145) (pc' := 150) (same := true) rfl (hb hby at_145) rfl (decide_eq_true (congrArg Value.ref rfl)) (by decide) (by decide) ?_
      show Steps p.tables e below (T27.setTop (mkF m 150 #[.val (.int x0), .val (.int x1), .val (.int x2), .val (.int x3), .val (.ref ar0), .val (.ref ar1), .val (.ref ar2), .val (.ref ar3), .val (.int (1 : Int32)), .val (.ref ar1), .val (.ref b), .val (.ref ar1)] [])) _
      refine XS.aload X27.here hx rfl (hb hby at_150) rfl rfl ?_
      show Steps p.tables e below (T27.setTop (mkF m 152 #[.val (.int x0), .val (.int x1), .val (.int x2), .val (.int x3), .val (.ref ar0), .val (.ref ar1), .val (.ref ar2), .val (.ref ar3), .val (.int (1 : Int32)), .val (.ref ar1), .val (.ref b), .val (.ref ar1)] [(.ref ar1)])) _
      exact kt
    obtain ⟨cl_ar1_28, Ar_ar1_28, S_ar1_28, M_ar1_28, H_ar1_28⟩ := id V_ar1
    refine RunsTo.of (T' := T27) (g' := (mkF m 153 #[.val (.int x0), .val (.int x1), .val (.int x2), .val (.int x3), .val (.ref ar0), .val (.ref ar1), .val (.ref ar2), .val (.ref ar3), .val (.int (1 : Int32)), .val (.ref ar1), .val (.ref b), .val (.ref ar1)] [(.int (1 : Int32))])) (fun t kt => ?_) ?_
    · refine X27.arraylength hx (by rw [e27]; exact Ar_ar1_28.1) (State.isArrayOf_alike hZ.alike Ar_ar1_28.2.1) (g := (mkF m 152 #[.val (.int x0), .val (.int x1), .val (.int x2), .val (.int x3), .val (.ref ar0), .val (.ref ar1), .val (.ref ar2), .val (.ref ar3), .val (.int (1 : Int32)), .val (.ref ar1), .val (.ref b), .val (.ref ar1)] [(.ref ar1)])) rfl rfl (hb hby at_152) _ ?_
      rw [len_of S_ar1_28 M_ar1_28]
      show Steps p.tables e below (T27.setTop (mkF m 153 #[.val (.int x0), .val (.int x1), .val (.int x2), .val (.int x3), .val (.ref ar0), .val (.ref ar1), .val (.ref ar2), .val (.ref ar3), .val (.int (1 : Int32)), .val (.ref ar1), .val (.ref b), .val (.ref ar1)] [(.int (1 : Int32))])) _
      exact kt
    refine RunsTo.of (T' := T27) (g' := (mkF m 169 #[.val (.int x0), .val (.int x1), .val (.int x2), .val (.int x3), .val (.ref ar0), .val (.ref ar1), .val (.ref ar2), .val (.ref ar3), .val (.int (1 : Int32)), .val (.ref ar1), .val (.ref b), .val (.ref ar1)] [(.int (0 : Int32)), (.ref ar1)])) (fun t kt => ?_) ?_
    · refine XS.iload X27.here hx rfl (hb hby at_153) rfl ?_
      show Steps p.tables e below (T27.setTop (mkF m 155 #[.val (.int x0), .val (.int x1), .val (.int x2), .val (.int x3), .val (.ref ar0), .val (.ref ar1), .val (.ref ar2), .val (.ref ar3), .val (.int (1 : Int32)), .val (.ref ar1), .val (.ref b), .val (.ref ar1)] [(.int (1 : Int32)), (.int (1 : Int32))])) _
      refine XS.icmpYes X27.here hx rfl (pc0 := 155) (pc' := 160) rfl (hb hby at_155) rfl (teq rfl).1 (by decide) (by decide) ?_
      show Steps p.tables e below (T27.setTop (mkF m 160 #[.val (.int x0), .val (.int x1), .val (.int x2), .val (.int x3), .val (.ref ar0), .val (.ref ar1), .val (.ref ar2), .val (.ref ar3), .val (.int (1 : Int32)), .val (.ref ar1), .val (.ref b), .val (.ref ar1)] [])) _
      refine XS.iload X27.here hx rfl (hb hby at_160) rfl ?_
      show Steps p.tables e below (T27.setTop (mkF m 162 #[.val (.int x0), .val (.int x1), .val (.int x2), .val (.int x3), .val (.ref ar0), .val (.ref ar1), .val (.ref ar2), .val (.ref ar3), .val (.int (1 : Int32)), .val (.ref ar1), .val (.ref b), .val (.ref ar1)] [(.int (1 : Int32))])) _
      refine XS.iconst X27.here hx rfl (hb hby at_162) ?_
      show Steps p.tables e below (T27.setTop (mkF m 163 #[.val (.int x0), .val (.int x1), .val (.int x2), .val (.int x3), .val (.ref ar0), .val (.ref ar1), .val (.ref ar2), .val (.ref ar3), .val (.int (1 : Int32)), .val (.ref ar1), .val (.ref b), .val (.ref ar1)] [(.int (1 : Int32)), (.int (1 : Int32))])) _
      refine XS.icmpNo X27.here hx rfl (hb hby at_163) rfl (flt (by decide)).1 ?_
      show Steps p.tables e below (T27.setTop (mkF m 166 #[.val (.int x0), .val (.int x1), .val (.int x2), .val (.int x3), .val (.ref ar0), .val (.ref ar1), .val (.ref ar2), .val (.ref ar3), .val (.int (1 : Int32)), .val (.ref ar1), .val (.ref b), .val (.ref ar1)] [])) _
      refine XS.aload X27.here hx rfl (hb hby at_166) rfl rfl ?_
      show Steps p.tables e below (T27.setTop (mkF m 168 #[.val (.int x0), .val (.int x1), .val (.int x2), .val (.int x3), .val (.ref ar0), .val (.ref ar1), .val (.ref ar2), .val (.ref ar3), .val (.int (1 : Int32)), .val (.ref ar1), .val (.ref b), .val (.ref ar1)] [(.ref ar1)])) _
      refine XS.iconst X27.here hx rfl (hb hby at_168) ?_
      show Steps p.tables e below (T27.setTop (mkF m 169 #[.val (.int x0), .val (.int x1), .val (.int x2), .val (.int x3), .val (.ref ar0), .val (.ref ar1), .val (.ref ar2), .val (.ref ar3), .val (.int (1 : Int32)), .val (.ref ar1), .val (.ref b), .val (.ref ar1)] [(.int (0 : Int32)), (.ref ar1)])) _
      exact kt
    obtain ⟨cl_ar1_29, Ar_ar1_29, S_ar1_29, M_ar1_29, H_ar1_29⟩ := id V_ar1
    have hin_ar1_29 : ¬ ((0 : Int32) < 0 ∨ cl_ar1_29.slots.size ≤ ((0 : Int32)).toNatClampNeg) := inb_of S_ar1_29 ⟨by decide, by decide⟩
    have hat_ar1_29 : cl_ar1_29.slots[((0 : Int32)).toNatClampNeg]? = some (.int (nar .byte x1.toInt8.toInt32)) := (H_ar1_29 _ (Nat.lt_of_not_le fun y => hin_ar1_29 (Or.inr y))).trans (congrArg some rfl)
    refine RunsTo.of (T' := T27) (g' := (mkF m 170 #[.val (.int x0), .val (.int x1), .val (.int x2), .val (.int x3), .val (.ref ar0), .val (.ref ar1), .val (.ref ar2), .val (.ref ar3), .val (.int (1 : Int32)), .val (.ref ar1), .val (.ref b), .val (.ref ar1)] [(.int (nar .byte x1.toInt8.toInt32))])) (fun t kt => ?_) ?_
    · refine X27.baloadBytes hx (j := (0 : Int32)) (v := (.int (nar .byte x1.toInt8.toInt32))) (by rw [e27]; exact Ar_ar1_29.1) (State.isArrayOf_alike hZ.alike Ar_ar1_29.2.1) Ar_ar1_29.2.2 hin_ar1_29 hat_ar1_29 (g := (mkF m 169 #[.val (.int x0), .val (.int x1), .val (.int x2), .val (.int x3), .val (.ref ar0), .val (.ref ar1), .val (.ref ar2), .val (.ref ar3), .val (.int (1 : Int32)), .val (.ref ar1), .val (.ref b), .val (.ref ar1)] [(.int (0 : Int32)), (.ref ar1)])) rfl rfl (hb hby at_169) _ ?_
      show Steps p.tables e below (T27.setTop (mkF m 170 #[.val (.int x0), .val (.int x1), .val (.int x2), .val (.int x3), .val (.ref ar0), .val (.ref ar1), .val (.ref ar2), .val (.ref ar3), .val (.int (1 : Int32)), .val (.ref ar1), .val (.ref b), .val (.ref ar1)] [(.int (nar .byte x1.toInt8.toInt32))])) _
      exact kt
    refine RunsTo.of (T' := T27) (g' := (mkF m 212 #[.val (.int x0), .val (.int x1), .val (.int x2), .val (.int x3), .val (.ref ar0), .val (.ref ar1), .val (.ref ar2), .val (.ref ar3), .val (.int (1 : Int32)), .val (.ref ar1), .val (.ref b), .val (.ref ar1)] [(.int (1 : Int32))])) (fun t kt => ?_) ?_
    · refine XS.iloadN X27.here hx rfl (hb hby at_170) rfl ?_
      show Steps p.tables e below (T27.setTop (mkF m 171 #[.val (.int x0), .val (.int x1), .val (.int x2), .val (.int x3), .val (.ref ar0), .val (.ref ar1), .val (.ref ar2), .val (.ref ar3), .val (.int (1 : Int32)), .val (.ref ar1), .val (.ref b), .val (.ref ar1)] [(.int x1), (.int (nar .byte x1.toInt8.toInt32))])) _
      refine XS.i2b X27.here hx rfl (hb hby at_171) rfl ?_
      show Steps p.tables e below (T27.setTop (mkF m 172 #[.val (.int x0), .val (.int x1), .val (.int x2), .val (.int x3), .val (.ref ar0), .val (.ref ar1), .val (.ref ar2), .val (.ref ar3), .val (.int (1 : Int32)), .val (.ref ar1), .val (.ref b), .val (.ref ar1)] [(.int x1.toInt8.toInt32), (.int (nar .byte x1.toInt8.toInt32))])) _
      refine XS.icmpYes X27.here hx rfl (pc0 := 172) (pc' := 177) rfl (hb hby at_172) rfl (teq (own_i2b x1)).1 (by decide) (by decide) ?_
      show Steps p.tables e below (T27.setTop (mkF m 177 #[.val (.int x0), .val (.int x1), .val (.int x2), .val (.int x3), .val (.ref ar0), .val (.ref ar1), .val (.ref ar2), .val (.ref ar3), .val (.int (1 : Int32)), .val (.ref ar1), .val (.ref b), .val (.ref ar1)] [])) _
      refine XS.iload X27.here hx rfl (hb hby at_177) rfl ?_
      show Steps p.tables e below (T27.setTop (mkF m 179 #[.val (.int x0), .val (.int x1), .val (.int x2), .val (.int x3), .val (.ref ar0), .val (.ref ar1), .val (.ref ar2), .val (.ref ar3), .val (.int (1 : Int32)), .val (.ref ar1), .val (.ref b), .val (.ref ar1)] [(.int (1 : Int32))])) _
      refine XS.iconst X27.here hx rfl (hb hby at_179) ?_
      show Steps p.tables e below (T27.setTop (mkF m 180 #[.val (.int x0), .val (.int x1), .val (.int x2), .val (.int x3), .val (.ref ar0), .val (.ref ar1), .val (.ref ar2), .val (.ref ar3), .val (.int (1 : Int32)), .val (.ref ar1), .val (.ref b), .val (.ref ar1)] [(.int (2 : Int32)), (.int (1 : Int32))])) _
      refine XS.icmpYes X27.here hx rfl (pc0 := 180) (pc' := 194) rfl (hb hby at_180) rfl (tlt (by decide)).1 (by decide) (by decide) ?_
      show Steps p.tables e below (T27.setTop (mkF m 194 #[.val (.int x0), .val (.int x1), .val (.int x2), .val (.int x3), .val (.ref ar0), .val (.ref ar1), .val (.ref ar2), .val (.ref ar3), .val (.int (1 : Int32)), .val (.ref ar1), .val (.ref b), .val (.ref ar1)] [])) _
      refine XS.iload X27.here hx rfl (hb hby at_194) rfl ?_
      show Steps p.tables e below (T27.setTop (mkF m 196 #[.val (.int x0), .val (.int x1), .val (.int x2), .val (.int x3), .val (.ref ar0), .val (.ref ar1), .val (.ref ar2), .val (.ref ar3), .val (.int (1 : Int32)), .val (.ref ar1), .val (.ref b), .val (.ref ar1)] [(.int (1 : Int32))])) _
      refine XS.iconst X27.here hx rfl (hb hby at_196) ?_
      show Steps p.tables e below (T27.setTop (mkF m 197 #[.val (.int x0), .val (.int x1), .val (.int x2), .val (.int x3), .val (.ref ar0), .val (.ref ar1), .val (.ref ar2), .val (.ref ar3), .val (.int (1 : Int32)), .val (.ref ar1), .val (.ref b), .val (.ref ar1)] [(.int (3 : Int32)), (.int (1 : Int32))])) _
      refine XS.icmpYes X27.here hx rfl (pc0 := 197) (pc' := 211) rfl (hb hby at_197) rfl (tlt (by decide)).1 (by decide) (by decide) ?_
      show Steps p.tables e below (T27.setTop (mkF m 211 #[.val (.int x0), .val (.int x1), .val (.int x2), .val (.int x3), .val (.ref ar0), .val (.ref ar1), .val (.ref ar2), .val (.ref ar3), .val (.int (1 : Int32)), .val (.ref ar1), .val (.ref b), .val (.ref ar1)] [])) _
      refine XS.iconst X27.here hx rfl (hb hby at_211) ?_
      show Steps p.tables e below (T27.setTop (mkF m 212 #[.val (.int x0), .val (.int x1), .val (.int x2), .val (.int x3), .val (.ref ar0), .val (.ref ar1), .val (.ref ar2), .val (.ref ar3), .val (.int (1 : Int32)), .val (.ref ar1), .val (.ref b), .val (.ref ar1)] [(.int (1 : Int32))])) _
      exact kt
    refine RunsTo.retN X27 hx (t := .boolean) Bd.returns (by simp) Bd.notSynchronized (hb hby at_212) ?_ (by decide) (by decide)
    rw [e27]
    exact ⟨rfl, N27⟩
  · refine RunsTo.of (T' := T16) (g' := (mkF m 93 #[.val (.int x0), .val (.int x1), .val (.int x2), .val (.int x3), .val (.ref ar0), .val (.ref ar1), .val (.ref ar2), .val (.ref ar3), .val (.int (2 : Int32)), .val (.ref ar2), .unset, .unset] [(.ref ar2)])) (fun t kt => ?_) ?_
    · refine XS.iload X16.here hx rfl (hb hby at_55) rfl ?_
      show Steps p.tables e below (T16.setTop (mkF m 57 #[.val (.int x0), .val (.int x1), .val (.int x2), .val (.int x3), .val (.ref ar0), .val (.ref ar1), .val (.ref ar2), .val (.ref ar3), .val (.int (2 : Int32)), .unset, .unset, .unset] [(.int (2 : Int32))])) _
      refine XS.ifYes X16.here hx rfl (pc0 := 57) (pc' := 65) rfl (hb hby at_57) rfl ((if0 _ _).trans (feq (by decide)).2) (by decide) (by decide) ?_
      show Steps p.tables e below (T16.setTop (mkF m 65 #[.val (.int x0), .val (.int x1), .val (.int x2), .val (.int x3), .val (.ref ar0), .val (.ref ar1), .val (.ref ar2), .val (.ref ar3), .val (.int (2 : Int32)), .unset, .unset, .unset] [])) _
      refine XS.iload X16.here hx rfl (hb hby at_65) rfl ?_
      show Steps p.tables e below (T16.setTop (mkF m 67 #[.val (.int x0), .val (.int x1), .val (.int x2), .val (.int x3), .val (.ref ar0), .val (.ref ar1), .val (.ref ar2), .val (.ref ar3), .val (.int (2 : Int32)), .unset, .unset, .unset] [(.int (2 : Int32))])) _
      refine XS.iconst X16.here hx rfl (hb hby at_67) ?_
      show Steps p.tables e below (T16.setTop (mkF m 68 #[.val (.int x0), .val (.int x1), .val (.int x2), .val (.int x3), .val (.ref ar0), .val (.ref ar1), .val (.ref ar2), .val (.ref ar3), .val (.int (2 : Int32)), .unset, .unset, .unset] [(.int (1 : Int32)), (.int (2 : Int32))])) _
      refine XS.icmpYes X16.here hx rfl (pc0 := 68) (pc' := 76) rfl (hb hby at_68) rfl (feq (by decide)).2 (by decide) (by decide) ?_
      show Steps p.tables e below (T16.setTop (mkF m 76 #[.val (.int x0), .val (.int x1), .val (.int x2), .val (.int x3), .val (.ref ar0), .val (.ref ar1), .val (.ref ar2), .val (.ref ar3), .val (.int (2 : Int32)), .unset, .unset, .unset] [])) _
      refine XS.iload X16.here hx rfl (hb hby at_76) rfl ?_
      show Steps p.tables e below (T16.setTop (mkF m 78 #[.val (.int x0), .val (.int x1), .val (.int x2), .val (.int x3), .val (.ref ar0), .val (.ref ar1), .val (.ref ar2), .val (.ref ar3), .val (.int (2 : Int32)), .unset, .unset, .unset] [(.int (2 : Int32))])) _
      refine XS.iconst X16.here hx rfl (hb hby at_78) ?_
      show Steps p.tables e below (T16.setTop (mkF m 79 #[.val (.int x0), .val (.int x1), .val (.int x2), .val (.int x3), .val (.ref ar0), .val (.ref ar1), .val (.ref ar2), .val (.ref ar3), .val (.int (2 : Int32)), .unset, .unset, .unset] [(.int (2 : Int32)), (.int (2 : Int32))])) _
      refine XS.icmpNo X16.here hx rfl (hb hby at_79) rfl (teq (by decide)).2 ?_
      show Steps p.tables e below (T16.setTop (mkF m 82 #[.val (.int x0), .val (.int x1), .val (.int x2), .val (.int x3), .val (.ref ar0), .val (.ref ar1), .val (.ref ar2), .val (.ref ar3), .val (.int (2 : Int32)), .unset, .unset, .unset] [])) _
      refine XS.aload X16.here hx rfl (hb hby at_82) rfl rfl ?_
      show Steps p.tables e below (T16.setTop (mkF m 84 #[.val (.int x0), .val (.int x1), .val (.int x2), .val (.int x3), .val (.ref ar0), .val (.ref ar1), .val (.ref ar2), .val (.ref ar3), .val (.int (2 : Int32)), .unset, .unset, .unset] [(.ref ar2)])) _
      refine XS.goto X16.here hx rfl (pc0 := 84) (pc' := 89) rfl (hb hby at_84) (by decide) (by decide) ?_
      show Steps p.tables e below (T16.setTop (mkF m 89 #[.val (.int x0), .val (.int x1), .val (.int x2), .val (.int x3), .val (.ref ar0), .val (.ref ar1), .val (.ref ar2), .val (.ref ar3), .val (.int (2 : Int32)), .unset, .unset, .unset] [(.ref ar2)])) _
      refine XS.astore X16.here hx rfl (hb hby at_89) rfl rfl (l' := #[.val (.int x0), .val (.int x1), .val (.int x2), .val (.int x3), .val (.ref ar0), .val (.ref ar1), .val (.ref ar2), .val (.ref ar3), .val (.int (2 : Int32)), .val (.ref ar2), .unset, .unset]) rfl ?_
      show Steps p.tables e below (T16.setTop (mkF m 91 #[.val (.int x0), .val (.int x1), .val (.int x2), .val (.int x3), .val (.ref ar0), .val (.ref ar1), .val (.ref ar2), .val (.ref ar3), .val (.int (2 : Int32)), .val (.ref ar2), .unset, .unset] [])) _
      refine XS.aload X16.here hx rfl (hb hby at_91) rfl rfl ?_
      show Steps p.tables e below (T16.setTop (mkF m 93 #[.val (.int x0), .val (.int x1), .val (.int x2), .val (.int x3), .val (.ref ar0), .val (.ref ar1), .val (.ref ar2), .val (.ref ar3), .val (.int (2 : Int32)), .val (.ref ar2), .unset, .unset] [(.ref ar2)])) _
      exact kt
    obtain ⟨_, _, ⟨T30, L30, k30, n30⟩, -, X30, ⟨Lc30, hQ30, l30, y30, z30⟩, st30⟩ := Jvm.LawKit.callS X16 hx (y := (⟨"com/example/clearfold/clearfold/trade/EventFeeds$Place", "kept", "([B)Lcom/example/clearfold/clearfold/trade/EventFeeds$Place;"⟩ : MethodName)) hown (mvT hZ (hw _ (List.mem_of_getElem? (i := 1) rfl))) (mvT hZ (hw _ (List.mem_of_getElem? (i := 2) rfl))) (mvT hZ (hw _ (List.mem_of_getElem? (i := 3) rfl))) (mvT hZ (hw _ (List.mem_of_getElem? (i := 4) rfl))) (by decide) (backOf (W := 0) (rm1 l Z a0 hw [] ar2 (2 : Int32) (fun i => if i = ((1 : Int32)).toNatClampNeg then (.int (nar .byte x2.toInt8.toInt32)) else (fun i => if i = ((0 : Int32)).toNatClampNeg then (.int (nar .byte x1.toInt8.toInt32)) else (fun _ => (.int (0 : Int32))) i) i) h16 n0 Z16 V_ar2) hZ (hw _ (List.mem_of_getElem? (i := 4) rfl)) (hw _ (List.mem_of_getElem? (i := 3) rfl)) (by decide) (by decide)) (g := (mkF m 93 #[.val (.int x0), .val (.int x1), .val (.int x2), .val (.int x3), .val (.ref ar0), .val (.ref ar1), .val (.ref ar2), .val (.ref ar3), .val (.int (2 : Int32)), .val (.ref ar2), .unset, .unset] [(.ref ar2)])) rfl (by rw [hml]; rfl) (argsL := [(.ref ar2)]) (rest := []) (lenOf pd_2 rfl) rfl (by show 2 * 0 + _ ≤ _; exact Nat.le_of_eq rfl) (hb hby at_93) (fun _ _ => ⟨rfl, e16, (by decide : 4 + 1 ≤ _), (by decide : 6 + 4 ≤ _)⟩)
    dsimp only [Pt.U, Pt.locs, Pt.cells, Pt.slots] at X30 l30 y30 z30 st30 hQ30
    subst l30 y30 z30
    obtain ⟨b, rfl, N30q, gb30, K30, E_b, F_record_b, F_offset_b, F_length_b, F_kept_b⟩ := hQ30
    have N30 := Fr.app N16 N30q
    have Z30 : n0 ≤ T30.heap.size := Nat.le_trans Z16 K30.1
    have V_ar0 := V_ar0.keep K30 nin0
    have V_ar1 := V_ar1.keep K30 nin0
    have V_ar2 := V_ar2.keep K30 nin0
    have V_ar3 := V_ar3.keep K30 nin0
    refine RunsTo.of (T' := T30) (g' := (mkF m 96 #[.val (.int x0), .val (.int x1), .val (.int x2), .val (.int x3), .val (.ref ar0), .val (.ref ar1), .val (.ref ar2), .val (.ref ar3), .val (.int (2 : Int32)), .val (.ref ar2), .unset, .unset] [(.ref b)])) st30 ?_
    refine RunsTo.of (T' := T30) (g' := (mkF m 100 #[.val (.int x0), .val (.int x1), .val (.int x2), .val (.int x3), .val (.ref ar0), .val (.ref ar1), .val (.ref ar2), .val (.ref ar3), .val (.int (2 : Int32)), .val (.ref ar2), .val (.ref b), .unset] [(.ref b)])) (fun t kt => ?_) ?_
    · refine XS.astore X30.here hx rfl (hb hby at_96) rfl rfl (l' := #[.val (.int x0), .val (.int x1), .val (.int x2), .val (.int x3), .val (.ref ar0), .val (.ref ar1), .val (.ref ar2), .val (.ref ar3), .val (.int (2 : Int32)), .val (.ref ar2), .val (.ref b), .unset]) rfl ?_
      show Steps p.tables e below (T30.setTop (mkF m 98 #[.val (.int x0), .val (.int x1), .val (.int x2), .val (.int x3), .val (.ref ar0), .val (.ref ar1), .val (.ref ar2), .val (.ref ar3), .val (.int (2 : Int32)), .val (.ref ar2), .val (.ref b), .unset] [])) _
      refine XS.aload X30.here hx rfl (hb hby at_98) rfl rfl ?_
      show Steps p.tables e below (T30.setTop (mkF m 100 #[.val (.int x0), .val (.int x1), .val (.int x2), .val (.int x3), .val (.ref ar0), .val (.ref ar1), .val (.ref ar2), .val (.ref ar3), .val (.int (2 : Int32)), .val (.ref ar2), .val (.ref b), .unset] [(.ref b)])) _
      exact kt
    obtain ⟨cq31, kq31, q31a, q31b, q31c⟩ := isOf hZ rfl E_b
    obtain ⟨_, _, ⟨T31, L31, k31, n31⟩, -, X31, ⟨Lc31, hQ31, l31, y31, z31⟩, st31⟩ := X30.virtualBack hx (y := (⟨"com/example/clearfold/clearfold/trade/EventFeeds$Place", "record", "()J"⟩ : MethodName)) (z := (⟨"com/example/clearfold/clearfold/trade/EventFeeds$Place", "record", "()J"⟩ : MethodName)) hown (mvT hZ (hw _ (List.mem_of_getElem? (i := 27) rfl))) (mvT hZ (hw _ (List.mem_of_getElem? (i := 28) rfl))) (notFace_of_selects (args := #[]) (mvT hZ (hw _ (List.mem_of_getElem? (i := 30) rfl)))) (mvT hZ (hw _ (List.mem_of_getElem? (i := 30) rfl))) (mvT hZ (hw _ (List.mem_of_getElem? (i := 29) rfl))) (by decide) (backOf (W := 0) (rm5 l Z a0 hw [] b (-1) T30.heap n0 Z30 F_record_b) hZ (hw _ (List.mem_of_getElem? (i := 31) rfl)) (hw _ (List.mem_of_getElem? (i := 3) rfl)) (by decide) (by decide)) q31a q31c (g := (mkF m 100 #[.val (.int x0), .val (.int x1), .val (.int x2), .val (.int x3), .val (.ref ar0), .val (.ref ar1), .val (.ref ar2), .val (.ref ar3), .val (.int (2 : Int32)), .val (.ref ar2), .val (.ref b), .unset] [(.ref b)])) rfl (by rw [hml]; rfl) (Steps.refl _) (argsL := []) (rest := []) (lenOf pd_3 rfl) rfl (by show 2 * 0 + _ ≤ _; exact Nat.le_of_eq rfl) (hb hby at_100) (fun _ _ => ⟨rfl, rfl, (by decide : 5 + 0 ≤ _), (by decide : 10 + 0 ≤ _)⟩)
    dsimp only [Pt.U, Pt.locs, Pt.cells, Pt.slots] at X31 l31 y31 z31 st31 hQ31
    subst l31 y31 z31
    obtain ⟨rfl, N31q, e31⟩ := hQ31
    have N31 := Fr.app N30 N31q
    refine RunsTo.of (T' := T31) (g' := (mkF m 103 #[.val (.int x0), .val (.int x1), .val (.int x2), .val (.int x3), .val (.ref ar0), .val (.ref ar1), .val (.ref ar2), .val (.ref ar3), .val (.int (2 : Int32)), .val (.ref ar2), .val (.ref b), .unset] [(.long (-1 : Int64))])) (fun _ kt => st31.trans kt) ?_
    refine RunsTo.of (T' := T31) (g' := (mkF m 114 #[.val (.int x0), .val (.int x1), .val (.int x2), .val (.int x3), .val (.ref ar0), .val (.ref ar1), .val (.ref ar2), .val (.ref ar3), .val (.int (2 : Int32)), .val (.ref ar2), .val (.ref b), .unset] [(.ref b)])) (fun t kt => ?_) ?_
    · refine X31.ldc2Long hx hown (mvT hZ (hw _ (List.mem_of_getElem? (i := 32) rfl))) (g := (mkF m 103 #[.val (.int x0), .val (.int x1), .val (.int x2), .val (.int x3), .val (.ref ar0), .val (.ref ar1), .val (.ref ar2), .val (.ref ar3), .val (.int (2 : Int32)), .val (.ref ar2), .val (.ref b), .unset] [(.long (-1 : Int64))])) rfl (hb hby at_103) _ ?_
      show Steps p.tables e below (T31.setTop (mkF m 106 #[.val (.int x0), .val (.int x1), .val (.int x2), .val (.int x3), .val (.ref ar0), .val (.ref ar1), .val (.ref ar2), .val (.ref ar3), .val (.int (2 : Int32)), .val (.ref ar2), .val (.ref b), .unset] [(.long (-1 : Int64)), (.long (-1 : Int64))])) _
      refine XS.lcmp X31.here hx rfl (hb hby at_106) rfl ?_
      show Steps p.tables e below (T31.setTop (mkF m 107 #[.val (.int x0), .val (.int x1), .val (.int x2), .val (.int x3), .val (.ref ar0), .val (.ref ar1), .val (.ref ar2), .val (.ref ar3), .val (.int (2 : Int32)), .val (.ref ar2), .val (.ref b), .unset] [(.int (lcmpW (-1 : Int64) (-1 : Int64)))])) _
      refine XS.ifYes X31.here hx rfl (pc0 := 107) (pc' := 112) rfl (hb hby at_107) rfl ((if0 _ _).trans (teq ((lw_eq (-1 : Int64) (-1 : Int64)).mpr rfl)).1) (by decide) (by decide) ?_
      show Steps p.tables e below (T31.setTop (mkF m 112 #[.val (.int x0), .val (.int x1), .val (.int x2), .val (.int x3), .val (.ref ar0), .val (.ref ar1), .val (.ref ar2), .val (.ref ar3), .val (.int (2 : Int32)), .val (.ref ar2), .val (.ref b), .unset] [])) _
      refine XS.aload X31.here hx rfl (hb hby at_112) rfl rfl ?_
      show Steps p.tables e below (T31.setTop (mkF m 114 #[.val (.int x0), .val (.int x1), .val (.int x2), .val (.int x3), .val (.ref ar0), .val (.ref ar1), .val (.ref ar2), .val (.ref ar3), .val (.int (2 : Int32)), .val (.ref ar2), .val (.ref b), .unset] [(.ref b)])) _
      exact kt
    obtain ⟨cq32, kq32, q32a, q32b, q32c⟩ := isOf hZ e31 E_b
    obtain ⟨_, _, ⟨T32, L32, k32, n32⟩, -, X32, ⟨Lc32, hQ32, l32, y32, z32⟩, st32⟩ := X31.virtualBack hx (y := (⟨"com/example/clearfold/clearfold/trade/EventFeeds$Place", "offset", "()I"⟩ : MethodName)) (z := (⟨"com/example/clearfold/clearfold/trade/EventFeeds$Place", "offset", "()I"⟩ : MethodName)) hown (mvT hZ (hw _ (List.mem_of_getElem? (i := 33) rfl))) (mvT hZ (hw _ (List.mem_of_getElem? (i := 34) rfl))) (notFace_of_selects (args := #[]) (mvT hZ (hw _ (List.mem_of_getElem? (i := 36) rfl)))) (mvT hZ (hw _ (List.mem_of_getElem? (i := 36) rfl))) (mvT hZ (hw _ (List.mem_of_getElem? (i := 35) rfl))) (by decide) (backOf (W := 0) (rm6 l Z a0 hw [] b 0 T30.heap n0 Z30 F_offset_b) hZ (hw _ (List.mem_of_getElem? (i := 37) rfl)) (hw _ (List.mem_of_getElem? (i := 3) rfl)) (by decide) (by decide)) q32a q32c (g := (mkF m 114 #[.val (.int x0), .val (.int x1), .val (.int x2), .val (.int x3), .val (.ref ar0), .val (.ref ar1), .val (.ref ar2), .val (.ref ar3), .val (.int (2 : Int32)), .val (.ref ar2), .val (.ref b), .unset] [(.ref b)])) rfl (by rw [hml]; rfl) (Steps.refl _) (argsL := []) (rest := []) (lenOf pd_4 rfl) rfl (by show 2 * 0 + _ ≤ _; exact Nat.le_of_eq rfl) (hb hby at_114) (fun _ _ => ⟨rfl, e31, (by decide : 5 + 0 ≤ _), (by decide : 10 + 0 ≤ _)⟩)
    dsimp only [Pt.U, Pt.locs, Pt.cells, Pt.slots] at X32 l32 y32 z32 st32 hQ32
    subst l32 y32 z32
    obtain ⟨rfl, N32q, e32⟩ := hQ32
    have N32 := Fr.app N31 N32q
    refine RunsTo.of (T' := T32) (g' := (mkF m 117 #[.val (.int x0), .val (.int x1), .val (.int x2), .val (.int x3), .val (.ref ar0), .val (.ref ar1), .val (.ref ar2), .val (.ref ar3), .val (.int (2 : Int32)), .val (.ref ar2), .val (.ref b), .unset] [(.int (0 : Int32))])) (fun _ kt => st32.trans kt) ?_
    refine RunsTo.of (T' := T32) (g' := (mkF m 124 #[.val (.int x0), .val (.int x1), .val (.int x2), .val (.int x3), .val (.ref ar0), .val (.ref ar1), .val (.ref ar2), .val (.ref ar3), .val (.int (2 : Int32)), .val (.ref ar2), .val (.ref b), .unset] [(.ref b)])) (fun t kt => ?_) ?_
    · refine XS.ifYes X32.here hx rfl (pc0 := 117) (pc' := 122) rfl (hb hby at_117) rfl ((if0 _ _).trans (teq rfl).1) (by decide) (by decide) ?_
      show Steps p.tables e below (T32.setTop (mkF m 122 #[.val (.int x0), .val (.int x1), .val (.int x2), .val (.int x3), .val (.ref ar0), .val (.ref ar1), .val (.ref ar2), .val (.ref ar3), .val (.int (2 : Int32)), .val (.ref ar2), .val (.ref b), .unset] [])) _
      refine XS.aload X32.here hx rfl (hb hby at_122) rfl rfl ?_
      show Steps p.tables e below (T32.setTop (mkF m 124 #[.val (.int x0), .val (.int x1), .val (.int x2), .val (.int x3), .val (.ref ar0), .val (.ref ar1), .val (.ref ar2), .val (.ref ar3), .val (.int (2 : Int32)), .val (.ref ar2), .val (.ref b), .unset] [(.ref b)])) _
      exact kt
    obtain ⟨cq33, kq33, q33a, q33b, q33c⟩ := isOf hZ e32 E_b
    obtain ⟨_, _, ⟨T33, L33, k33, n33⟩, -, X33, ⟨Lc33, hQ33, l33, y33, z33⟩, st33⟩ := X32.virtualBack hx (y := (⟨"com/example/clearfold/clearfold/trade/EventFeeds$Place", "length", "()I"⟩ : MethodName)) (z := (⟨"com/example/clearfold/clearfold/trade/EventFeeds$Place", "length", "()I"⟩ : MethodName)) hown (mvT hZ (hw _ (List.mem_of_getElem? (i := 38) rfl))) (mvT hZ (hw _ (List.mem_of_getElem? (i := 39) rfl))) (notFace_of_selects (args := #[]) (mvT hZ (hw _ (List.mem_of_getElem? (i := 41) rfl)))) (mvT hZ (hw _ (List.mem_of_getElem? (i := 41) rfl))) (mvT hZ (hw _ (List.mem_of_getElem? (i := 40) rfl))) (by decide) (backOf (W := 0) (rm7 l Z a0 hw [] b (2 : Int32) T30.heap n0 Z30 F_length_b) hZ (hw _ (List.mem_of_getElem? (i := 42) rfl)) (hw _ (List.mem_of_getElem? (i := 3) rfl)) (by decide) (by decide)) q33a q33c (g := (mkF m 124 #[.val (.int x0), .val (.int x1), .val (.int x2), .val (.int x3), .val (.ref ar0), .val (.ref ar1), .val (.ref ar2), .val (.ref ar3), .val (.int (2 : Int32)), .val (.ref ar2), .val (.ref b), .unset] [(.ref b)])) rfl (by rw [hml]; rfl) (Steps.refl _) (argsL := []) (rest := []) (lenOf pd_4 rfl) rfl (by show 2 * 0 + _ ≤ _; exact Nat.le_of_eq rfl) (hb hby at_124) (fun _ _ => ⟨rfl, e32, (by decide : 5 + 0 ≤ _), (by decide : 10 + 0 ≤ _)⟩)
    dsimp only [Pt.U, Pt.locs, Pt.cells, Pt.slots] at X33 l33 y33 z33 st33 hQ33
    subst l33 y33 z33
    obtain ⟨rfl, N33q, e33⟩ := hQ33
    have N33 := Fr.app N32 N33q
    refine RunsTo.of (T' := T33) (g' := (mkF m 127 #[.val (.int x0), .val (.int x1), .val (.int x2), .val (.int x3), .val (.ref ar0), .val (.ref ar1), .val (.ref ar2), .val (.ref ar3), .val (.int (2 : Int32)), .val (.ref ar2), .val (.ref b), .unset] [(.int (2 : Int32))])) (fun _ kt => st33.trans kt) ?_
    refine RunsTo.of (T' := T33) (g' := (mkF m 136 #[.val (.int x0), .val (.int x1), .val (.int x2), .val (.int x3), .val (.ref ar0), .val (.ref ar1), .val (.ref ar2), .val (.ref ar3), .val (.int (2 : Int32)), .val (.ref ar2), .val (.ref b), .unset] [(.ref b)])) (fun t kt => ?_) ?_
    · refine XS.iload X33.here hx rfl (hb hby at_127) rfl ?_
      show Steps p.tables e below (T33.setTop (mkF m 129 #[.val (.int x0), .val (.int x1), .val (.int x2), .val (.int x3), .val (.ref ar0), .val (.ref ar1), .val (.ref ar2), .val (.ref ar3), .val (.int (2 : Int32)), .val (.ref ar2), .val (.ref b), .unset] [(.int (2 : Int32)), (.int (2 : Int32))])) _
      refine XS.icmpYes X33.here hx rfl (pc0 := 129) (pc' := 134) rfl (hb hby at_129) rfl (teq rfl).1 (by decide) (by decide) ?_
      show Steps p.tables e below (T33.setTop (mkF m 134 #[.val (.int x0), .val (.int x1), .val (.int x2), .val (.int x3), .val (.ref ar0), .val (.ref ar1), .val (.ref ar2), .val (.ref ar3), .val (.int (2 : Int32)), .val (.ref ar2), .val (.ref b), .unset] [])) _
      refine XS.aload X33.here hx rfl (hb hby at_134) rfl rfl ?_
      show Steps p.tables e below (T33.setTop (mkF m 136 #[.val (.int x0), .val (.int x1), .val (.int x2), .val (.int x3), .val (.ref ar0), .val (.ref ar1), .val (.ref ar2), .val (.ref ar3), .val (.int (2 : Int32)), .val (.ref ar2), .val (.ref b), .unset] [(.ref b)])) _
      exact kt
    obtain ⟨cq34, kq34, q34a, q34b, q34c⟩ := isOf hZ e33 E_b
    obtain ⟨_, _, ⟨T34, L34, k34, n34⟩, -, X34, ⟨Lc34, hQ34, l34, y34, z34⟩, st34⟩ := X33.virtualBack hx (y := (⟨"com/example/clearfold/clearfold/trade/EventFeeds$Place", "kept", "()[B"⟩ : MethodName)) (z := (⟨"com/example/clearfold/clearfold/trade/EventFeeds$Place", "kept", "()[B"⟩ : MethodName)) hown (mvT hZ (hw _ (List.mem_of_getElem? (i := 43) rfl))) (mvT hZ (hw _ (List.mem_of_getElem? (i := 44) rfl))) (notFace_of_selects (args := #[]) (mvT hZ (hw _ (List.mem_of_getElem? (i := 46) rfl)))) (mvT hZ (hw _ (List.mem_of_getElem? (i := 46) rfl))) (mvT hZ (hw _ (List.mem_of_getElem? (i := 45) rfl))) (by decide) (backOf (W := 0) (rm8 l Z a0 hw [] b (.ref ar2) rfl T30.heap n0 Z30 F_kept_b) hZ (hw _ (List.mem_of_getElem? (i := 47) rfl)) (hw _ (List.mem_of_getElem? (i := 3) rfl)) (by decide) (by decide)) q34a q34c (g := (mkF m 136 #[.val (.int x0), .val (.int x1), .val (.int x2), .val (.int x3), .val (.ref ar0), .val (.ref ar1), .val (.ref ar2), .val (.ref ar3), .val (.int (2 : Int32)), .val (.ref ar2), .val (.ref b), .unset] [(.ref b)])) rfl (by rw [hml]; rfl) (Steps.refl _) (argsL := []) (rest := []) (lenOf pd_5 rfl) rfl (by show 2 * 0 + _ ≤ _; exact Nat.le_of_eq rfl) (hb hby at_136) (fun _ _ => ⟨rfl, e33, (by decide : 5 + 0 ≤ _), (by decide : 10 + 0 ≤ _)⟩)
    dsimp only [Pt.U, Pt.locs, Pt.cells, Pt.slots] at X34 l34 y34 z34 st34 hQ34
    subst l34 y34 z34
    obtain ⟨rfl, N34q, e34⟩ := hQ34
    have N34 := Fr.app N33 N34q
    refine RunsTo.of (T' := T34) (g' := (mkF m 139 #[.val (.int x0), .val (.int x1), .val (.int x2), .val (.int x3), .val (.ref ar0), .val (.ref ar1), .val (.ref ar2), .val (.ref ar3), .val (.int (2 : Int32)), .val (.ref ar2), .val (.ref b), .unset] [(.ref ar2)])) (fun _ kt => st34.trans kt) ?_
    refine RunsTo.of (T' := T34) (g' := (mkF m 152 #[.val (.int x0), .val (.int x1), .val (.int x2), .val (.int x3), .val (.ref ar0), .val (.ref ar1), .val (.ref ar2), .val (.ref ar3), .val (.int (2 : Int32)), .val (.ref ar2), .val (.ref b), .val (.ref ar2)] [(.ref ar2)])) (fun t kt => ?_) ?_
    · refine XS.astore X34.here hx rfl (hb hby at_139) rfl rfl (l' := #[.val (.int x0), .val (.int x1), .val (.int x2), .val (.int x3), .val (.ref ar0), .val (.ref ar1), .val (.ref ar2), .val (.ref ar3), .val (.int (2 : Int32)), .val (.ref ar2), .val (.ref b), .val (.ref ar2)]) rfl ?_
      show Steps p.tables e below (T34.setTop (mkF m 141 #[.val (.int x0), .val (.int x1), .val (.int x2), .val (.int x3), .val (.ref ar0), .val (.ref ar1), .val (.ref ar2), .val (.ref ar3), .val (.int (2 : Int32)), .val (.ref ar2), .val (.ref b), .val (.ref ar2)] [])) _
      refine XS.aload X34.here hx rfl (hb hby at_141) rfl rfl ?_
      show Steps p.tables e below (T34.setTop (mkF m 143 #[.val (.int x0), .val (.int x1), .val (.int x2), .val (.int x3), .val (.ref ar0), .val (.ref ar1), .val (.ref ar2), .val (.ref ar3), .val (.int (2 : Int32)), .val (.ref ar2), .val (.ref b), .val (.ref ar2)] [(.ref ar2)])) _
      refine XS.aload X34.here hx rfl (hb hby at_143) rfl rfl ?_
      show Steps p.tables e below (T34.setTop (mkF m 145 #[.val (.int x0), .val (.int x1), .val (.int x2), .val (.int x3), .val (.ref ar0), .val (.ref ar1), .val (.ref ar2), .val (.ref ar3), .val (.int (2 : Int32)), .val (.ref ar2), .val (.ref b), .val (.ref ar2)] [(.ref ar2), (.ref ar2)])) _
      refine Jvm.RoadKit.acmp (g := (mkF m 145 #[.val (.int x0), .val (.int x1), .val (.int x2), .val (.int x3), .val (.ref ar0), .val (.ref ar1), .val (.ref ar2), .val (.ref ar3), .val (.int (2 : Int32)), .val (.ref ar2), .val (.ref b), .val (.ref ar2)] [(.ref ar2), (.ref ar2)])) X34 hx rfl rfl rfl (pc0 := 145) (pc' := 150) (same := true) rfl (hb hby at_145) rfl (decide_eq_true (congrArg Value.ref rfl)) (by decide) (by decide) ?_
      show Steps p.tables e below (T34.setTop (mkF m 150 #[.val (.int x0), .val (.int x1), .val (.int x2), .val (.int x3), .val (.ref ar0), .val (.ref ar1), .val (.ref ar2), .val (.ref ar3), .val (.int (2 : Int32)), .val (.ref ar2), .val (.ref b), .val (.ref ar2)] [])) _
      refine XS.aload X34.here hx rfl (hb hby at_150) rfl rfl ?_
      show Steps p.tables e below (T34.setTop (mkF m 152 #[.val (.int x0), .val (.int x1), .val (.int x2), .val (.int x3), .val (.ref ar0), .val (.ref ar1), .val (.ref ar2), .val (.ref ar3), .val (.int (2 : Int32)), .val (.ref ar2), .val (.ref b), .val (.ref ar2)] [(.ref ar2)])) _
      exact kt
    obtain ⟨cl_ar2_35, Ar_ar2_35, S_ar2_35, M_ar2_35, H_ar2_35⟩ := id V_ar2
    refine RunsTo.of (T' := T34) (g' := (mkF m 153 #[.val (.int x0), .val (.int x1), .val (.int x2), .val (.int x3), .val (.ref ar0), .val (.ref ar1), .val (.ref ar2), .val (.ref ar3), .val (.int (2 : Int32)), .val (.ref ar2), .val (.ref b), .val (.ref ar2)] [(.int (2 : Int32))])) (fun t kt => ?_) ?_
    · refine X34.arraylength hx (by rw [e34]; exact Ar_ar2_35.1) (State.isArrayOf_alike hZ.alike Ar_ar2_35.2.1) (g := (mkF m 152 #[.val (.int x0), .val (.int x1), .val (.int x2), .val (.int x3), .val (.ref ar0), .val (.ref ar1), .val (.ref ar2), .val (.ref ar3), .val (.int (2 : Int32)), .val (.ref ar2), .val (.ref b), .val (.ref ar2)] [(.ref ar2)])) rfl rfl (hb hby at_152) _ ?_
      rw [len_of S_ar2_35 M_ar2_35]
      show Steps p.tables e below (T34.setTop (mkF m 153 #[.val (.int x0), .val (.int x1), .val (.int x2), .val (.int x3), .val (.ref ar0), .val (.ref ar1), .val (.ref ar2), .val (.ref ar3), .val (.int (2 : Int32)), .val (.ref ar2), .val (.ref b), .val (.ref ar2)] [(.int (2 : Int32))])) _
      exact kt
    refine RunsTo.of (T' := T34) (g' := (mkF m 169 #[.val (.int x0), .val (.int x1), .val (.int x2), .val (.int x3), .val (.ref ar0), .val (.ref ar1), .val (.ref ar2), .val (.ref ar3), .val (.int (2 : Int32)), .val (.ref ar2), .val (.ref b), .val (.ref ar2)] [(.int (0 : Int32)), (.ref ar2)])) (fun t kt => ?_) ?_
    · refine XS.iload X34.here hx rfl (hb hby at_153) rfl ?_
      show Steps p.tables e below (T34.setTop (mkF m 155 #[.val (.int x0), .val (.int x1), .val (.int x2), .val (.int x3), .val (.ref ar0), .val (.ref ar1), .val (.ref ar2), .val (.ref ar3), .val (.int (2 : Int32)), .val (.ref ar2), .val (.ref b), .val (.ref ar2)] [(.int (2 : Int32)), (.int (2 : Int32))])) _
      refine XS.icmpYes X34.here hx rfl (pc0 := 155) (pc' := 160) rfl (hb hby at_155) rfl (teq rfl).1 (by decide) (by decide) ?_
      show Steps p.tables e below (T34.setTop (mkF m 160 #[.val (.int x0), .val (.int x1), .val (.int x2), .val (.int x3), .val (.ref ar0), .val (.ref ar1), .val (.ref ar2), .val (.ref ar3), .val (.int (2 : Int32)), .val (.ref ar2), .val (.ref b), .val (.ref ar2)] [])) _
      refine XS.iload X34.here hx rfl (hb hby at_160) rfl ?_
      show Steps p.tables e below (T34.setTop (mkF m 162 #[.val (.int x0), .val (.int x1), .val (.int x2), .val (.int x3), .val (.ref ar0), .val (.ref ar1), .val (.ref ar2), .val (.ref ar3), .val (.int (2 : Int32)), .val (.ref ar2), .val (.ref b), .val (.ref ar2)] [(.int (2 : Int32))])) _
      refine XS.iconst X34.here hx rfl (hb hby at_162) ?_
      show Steps p.tables e below (T34.setTop (mkF m 163 #[.val (.int x0), .val (.int x1), .val (.int x2), .val (.int x3), .val (.ref ar0), .val (.ref ar1), .val (.ref ar2), .val (.ref ar3), .val (.int (2 : Int32)), .val (.ref ar2), .val (.ref b), .val (.ref ar2)] [(.int (1 : Int32)), (.int (2 : Int32))])) _
      refine XS.icmpNo X34.here hx rfl (hb hby at_163) rfl (flt (by decide)).1 ?_
      show Steps p.tables e below (T34.setTop (mkF m 166 #[.val (.int x0), .val (.int x1), .val (.int x2), .val (.int x3), .val (.ref ar0), .val (.ref ar1), .val (.ref ar2), .val (.ref ar3), .val (.int (2 : Int32)), .val (.ref ar2), .val (.ref b), .val (.ref ar2)] [])) _
      refine XS.aload X34.here hx rfl (hb hby at_166) rfl rfl ?_
      show Steps p.tables e below (T34.setTop (mkF m 168 #[.val (.int x0), .val (.int x1), .val (.int x2), .val (.int x3), .val (.ref ar0), .val (.ref ar1), .val (.ref ar2), .val (.ref ar3), .val (.int (2 : Int32)), .val (.ref ar2), .val (.ref b), .val (.ref ar2)] [(.ref ar2)])) _
      refine XS.iconst X34.here hx rfl (hb hby at_168) ?_
      show Steps p.tables e below (T34.setTop (mkF m 169 #[.val (.int x0), .val (.int x1), .val (.int x2), .val (.int x3), .val (.ref ar0), .val (.ref ar1), .val (.ref ar2), .val (.ref ar3), .val (.int (2 : Int32)), .val (.ref ar2), .val (.ref b), .val (.ref ar2)] [(.int (0 : Int32)), (.ref ar2)])) _
      exact kt
    obtain ⟨cl_ar2_36, Ar_ar2_36, S_ar2_36, M_ar2_36, H_ar2_36⟩ := id V_ar2
    have hin_ar2_36 : ¬ ((0 : Int32) < 0 ∨ cl_ar2_36.slots.size ≤ ((0 : Int32)).toNatClampNeg) := inb_of S_ar2_36 ⟨by decide, by decide⟩
    have hat_ar2_36 : cl_ar2_36.slots[((0 : Int32)).toNatClampNeg]? = some (.int (nar .byte x1.toInt8.toInt32)) := (H_ar2_36 _ (Nat.lt_of_not_le fun y => hin_ar2_36 (Or.inr y))).trans (congrArg some rfl)
    refine RunsTo.of (T' := T34) (g' := (mkF m 170 #[.val (.int x0), .val (.int x1), .val (.int x2), .val (.int x3), .val (.ref ar0), .val (.ref ar1), .val (.ref ar2), .val (.ref ar3), .val (.int (2 : Int32)), .val (.ref ar2), .val (.ref b), .val (.ref ar2)] [(.int (nar .byte x1.toInt8.toInt32))])) (fun t kt => ?_) ?_
    · refine X34.baloadBytes hx (j := (0 : Int32)) (v := (.int (nar .byte x1.toInt8.toInt32))) (by rw [e34]; exact Ar_ar2_36.1) (State.isArrayOf_alike hZ.alike Ar_ar2_36.2.1) Ar_ar2_36.2.2 hin_ar2_36 hat_ar2_36 (g := (mkF m 169 #[.val (.int x0), .val (.int x1), .val (.int x2), .val (.int x3), .val (.ref ar0), .val (.ref ar1), .val (.ref ar2), .val (.ref ar3), .val (.int (2 : Int32)), .val (.ref ar2), .val (.ref b), .val (.ref ar2)] [(.int (0 : Int32)), (.ref ar2)])) rfl rfl (hb hby at_169) _ ?_
      show Steps p.tables e below (T34.setTop (mkF m 170 #[.val (.int x0), .val (.int x1), .val (.int x2), .val (.int x3), .val (.ref ar0), .val (.ref ar1), .val (.ref ar2), .val (.ref ar3), .val (.int (2 : Int32)), .val (.ref ar2), .val (.ref b), .val (.ref ar2)] [(.int (nar .byte x1.toInt8.toInt32))])) _
      exact kt
    refine RunsTo.of (T' := T34) (g' := (mkF m 186 #[.val (.int x0), .val (.int x1), .val (.int x2), .val (.int x3), .val (.ref ar0), .val (.ref ar1), .val (.ref ar2), .val (.ref ar3), .val (.int (2 : Int32)), .val (.ref ar2), .val (.ref b), .val (.ref ar2)] [(.int (1 : Int32)), (.ref ar2)])) (fun t kt => ?_) ?_
    · refine XS.iloadN X34.here hx rfl (hb hby at_170) rfl ?_
      show Steps p.tables e below (T34.setTop (mkF m 171 #[.val (.int x0), .val (.int x1), .val (.int x2), .val (.int x3), .val (.ref ar0), .val (.ref ar1), .val (.ref ar2), .val (.ref ar3), .val (.int (2 : Int32)), .val (.ref ar2), .val (.ref b), .val (.ref ar2)] [(.int x1), (.int (nar .byte x1.toInt8.toInt32))])) _
      refine XS.i2b X34.here hx rfl (hb hby at_171) rfl ?_
      show Steps p.tables e below (T34.setTop (mkF m 172 #[.val (.int x0), .val (.int x1), .val (.int x2), .val (.int x3), .val (.ref ar0), .val (.ref ar1), .val (.ref ar2), .val (.ref ar3), .val (.int (2 : Int32)), .val (.ref ar2), .val (.ref b), .val (.ref ar2)] [(.int x1.toInt8.toInt32), (.int (nar .byte x1.toInt8.toInt32))])) _
      refine XS.icmpYes X34.here hx rfl (pc0 := 172) (pc' := 177) rfl (hb hby at_172) rfl (teq (own_i2b x1)).1 (by decide) (by decide) ?_
      show Steps p.tables e below (T34.setTop (mkF m 177 #[.val (.int x0), .val (.int x1), .val (.int x2), .val (.int x3), .val (.ref ar0), .val (.ref ar1), .val (.ref ar2), .val (.ref ar3), .val (.int (2 : Int32)), .val (.ref ar2), .val (.ref b), .val (.ref ar2)] [])) _
      refine XS.iload X34.here hx rfl (hb hby at_177) rfl ?_
      show Steps p.tables e below (T34.setTop (mkF m 179 #[.val (.int x0), .val (.int x1), .val (.int x2), .val (.int x3), .val (.ref ar0), .val (.ref ar1), .val (.ref ar2), .val (.ref ar3), .val (.int (2 : Int32)), .val (.ref ar2), .val (.ref b), .val (.ref ar2)] [(.int (2 : Int32))])) _
      refine XS.iconst X34.here hx rfl (hb hby at_179) ?_
      show Steps p.tables e below (T34.setTop (mkF m 180 #[.val (.int x0), .val (.int x1), .val (.int x2), .val (.int x3), .val (.ref ar0), .val (.ref ar1), .val (.ref ar2), .val (.ref ar3), .val (.int (2 : Int32)), .val (.ref ar2), .val (.ref b), .val (.ref ar2)] [(.int (2 : Int32)), (.int (2 : Int32))])) _
      refine XS.icmpNo X34.here hx rfl (hb hby at_180) rfl (flt (by decide)).1 ?_
      show Steps p.tables e below (T34.setTop (mkF m 183 #[.val (.int x0), .val (.int x1), .val (.int x2), .val (.int x3), .val (.ref ar0), .val (.ref ar1), .val (.ref ar2), .val (.ref ar3), .val (.int (2 : Int32)), .val (.ref ar2), .val (.ref b), .val (.ref ar2)] [])) _
      refine XS.aload X34.here hx rfl (hb hby at_183) rfl rfl ?_
      show Steps p.tables e below (T34.setTop (mkF m 185 #[.val (.int x0), .val (.int x1), .val (.int x2), .val (.int x3), .val (.ref ar0), .val (.ref ar1), .val (.ref ar2), .val (.ref ar3), .val (.int (2 : Int32)), .val (.ref ar2), .val (.ref b), .val (.ref ar2)] [(.ref ar2)])) _
      refine XS.iconst X34.here hx rfl (hb hby at_185) ?_
      show Steps p.tables e below (T34.setTop (mkF m 186 #[.val (.int x0), .val (.int x1), .val (.int x2), .val (.int x3), .val (.ref ar0), .val (.ref ar1), .val (.ref ar2), .val (.ref ar3), .val (.int (2 : Int32)), .val (.ref ar2), .val (.ref b), .val (.ref ar2)] [(.int (1 : Int32)), (.ref ar2)])) _
      exact kt
    obtain ⟨cl_ar2_37, Ar_ar2_37, S_ar2_37, M_ar2_37, H_ar2_37⟩ := id V_ar2
    have hin_ar2_37 : ¬ ((1 : Int32) < 0 ∨ cl_ar2_37.slots.size ≤ ((1 : Int32)).toNatClampNeg) := inb_of S_ar2_37 ⟨by decide, by decide⟩
    have hat_ar2_37 : cl_ar2_37.slots[((1 : Int32)).toNatClampNeg]? = some (.int (nar .byte x2.toInt8.toInt32)) := (H_ar2_37 _ (Nat.lt_of_not_le fun y => hin_ar2_37 (Or.inr y))).trans (congrArg some rfl)
    refine RunsTo.of (T' := T34) (g' := (mkF m 187 #[.val (.int x0), .val (.int x1), .val (.int x2), .val (.int x3), .val (.ref ar0), .val (.ref ar1), .val (.ref ar2), .val (.ref ar3), .val (.int (2 : Int32)), .val (.ref ar2), .val (.ref b), .val (.ref ar2)] [(.int (nar .byte x2.toInt8.toInt32))])) (fun t kt => ?_) ?_
    · refine X34.baloadBytes hx (j := (1 : Int32)) (v := (.int (nar .byte x2.toInt8.toInt32))) (by rw [e34]; exact Ar_ar2_37.1) (State.isArrayOf_alike hZ.alike Ar_ar2_37.2.1) Ar_ar2_37.2.2 hin_ar2_37 hat_ar2_37 (g := (mkF m 186 #[.val (.int x0), .val (.int x1), .val (.int x2), .val (.int x3), .val (.ref ar0), .val (.ref ar1), .val (.ref ar2), .val (.ref ar3), .val (.int (2 : Int32)), .val (.ref ar2), .val (.ref b), .val (.ref ar2)] [(.int (1 : Int32)), (.ref ar2)])) rfl rfl (hb hby at_186) _ ?_
      show Steps p.tables e below (T34.setTop (mkF m 187 #[.val (.int x0), .val (.int x1), .val (.int x2), .val (.int x3), .val (.ref ar0), .val (.ref ar1), .val (.ref ar2), .val (.ref ar3), .val (.int (2 : Int32)), .val (.ref ar2), .val (.ref b), .val (.ref ar2)] [(.int (nar .byte x2.toInt8.toInt32))])) _
      exact kt
    refine RunsTo.of (T' := T34) (g' := (mkF m 212 #[.val (.int x0), .val (.int x1), .val (.int x2), .val (.int x3), .val (.ref ar0), .val (.ref ar1), .val (.ref ar2), .val (.ref ar3), .val (.int (2 : Int32)), .val (.ref ar2), .val (.ref b), .val (.ref ar2)] [(.int (1 : Int32))])) (fun t kt => ?_) ?_
    · refine XS.iloadN X34.here hx rfl (hb hby at_187) rfl ?_
      show Steps p.tables e below (T34.setTop (mkF m 188 #[.val (.int x0), .val (.int x1), .val (.int x2), .val (.int x3), .val (.ref ar0), .val (.ref ar1), .val (.ref ar2), .val (.ref ar3), .val (.int (2 : Int32)), .val (.ref ar2), .val (.ref b), .val (.ref ar2)] [(.int x2), (.int (nar .byte x2.toInt8.toInt32))])) _
      refine XS.i2b X34.here hx rfl (hb hby at_188) rfl ?_
      show Steps p.tables e below (T34.setTop (mkF m 189 #[.val (.int x0), .val (.int x1), .val (.int x2), .val (.int x3), .val (.ref ar0), .val (.ref ar1), .val (.ref ar2), .val (.ref ar3), .val (.int (2 : Int32)), .val (.ref ar2), .val (.ref b), .val (.ref ar2)] [(.int x2.toInt8.toInt32), (.int (nar .byte x2.toInt8.toInt32))])) _
      refine XS.icmpYes X34.here hx rfl (pc0 := 189) (pc' := 194) rfl (hb hby at_189) rfl (teq (own_i2b x2)).1 (by decide) (by decide) ?_
      show Steps p.tables e below (T34.setTop (mkF m 194 #[.val (.int x0), .val (.int x1), .val (.int x2), .val (.int x3), .val (.ref ar0), .val (.ref ar1), .val (.ref ar2), .val (.ref ar3), .val (.int (2 : Int32)), .val (.ref ar2), .val (.ref b), .val (.ref ar2)] [])) _
      refine XS.iload X34.here hx rfl (hb hby at_194) rfl ?_
      show Steps p.tables e below (T34.setTop (mkF m 196 #[.val (.int x0), .val (.int x1), .val (.int x2), .val (.int x3), .val (.ref ar0), .val (.ref ar1), .val (.ref ar2), .val (.ref ar3), .val (.int (2 : Int32)), .val (.ref ar2), .val (.ref b), .val (.ref ar2)] [(.int (2 : Int32))])) _
      refine XS.iconst X34.here hx rfl (hb hby at_196) ?_
      show Steps p.tables e below (T34.setTop (mkF m 197 #[.val (.int x0), .val (.int x1), .val (.int x2), .val (.int x3), .val (.ref ar0), .val (.ref ar1), .val (.ref ar2), .val (.ref ar3), .val (.int (2 : Int32)), .val (.ref ar2), .val (.ref b), .val (.ref ar2)] [(.int (3 : Int32)), (.int (2 : Int32))])) _
      refine XS.icmpYes X34.here hx rfl (pc0 := 197) (pc' := 211) rfl (hb hby at_197) rfl (tlt (by decide)).1 (by decide) (by decide) ?_
      show Steps p.tables e below (T34.setTop (mkF m 211 #[.val (.int x0), .val (.int x1), .val (.int x2), .val (.int x3), .val (.ref ar0), .val (.ref ar1), .val (.ref ar2), .val (.ref ar3), .val (.int (2 : Int32)), .val (.ref ar2), .val (.ref b), .val (.ref ar2)] [])) _
      refine XS.iconst X34.here hx rfl (hb hby at_211) ?_
      show Steps p.tables e below (T34.setTop (mkF m 212 #[.val (.int x0), .val (.int x1), .val (.int x2), .val (.int x3), .val (.ref ar0), .val (.ref ar1), .val (.ref ar2), .val (.ref ar3), .val (.int (2 : Int32)), .val (.ref ar2), .val (.ref b), .val (.ref ar2)] [(.int (1 : Int32))])) _
      exact kt
    refine RunsTo.retN X34 hx (t := .boolean) Bd.returns (by simp) Bd.notSynchronized (hb hby at_212) ?_ (by decide) (by decide)
    rw [e34]
    exact ⟨rfl, N34⟩
  · refine RunsTo.of (T' := T16) (g' := (mkF m 93 #[.val (.int x0), .val (.int x1), .val (.int x2), .val (.int x3), .val (.ref ar0), .val (.ref ar1), .val (.ref ar2), .val (.ref ar3), .val (.int (3 : Int32)), .val (.ref ar3), .unset, .unset] [(.ref ar3)])) (fun t kt => ?_) ?_
    · refine XS.iload X16.here hx rfl (hb hby at_55) rfl ?_
      show Steps p.tables e below (T16.setTop (mkF m 57 #[.val (.int x0), .val (.int x1), .val (.int x2), .val (.int x3), .val (.ref ar0), .val (.ref ar1), .val (.ref ar2), .val (.ref ar3), .val (.int (3 : Int32)), .unset, .unset, .unset] [(.int (3 : Int32))])) _
      refine XS.ifYes X16.here hx rfl (pc0 := 57) (pc' := 65) rfl (hb hby at_57) rfl ((if0 _ _).trans (feq (by decide)).2) (by decide) (by decide) ?_
      show Steps p.tables e below (T16.setTop (mkF m 65 #[.val (.int x0), .val (.int x1), .val (.int x2), .val (.int x3), .val (.ref ar0), .val (.ref ar1), .val (.ref ar2), .val (.ref ar3), .val (.int (3 : Int32)), .unset, .unset, .unset] [])) _
      refine XS.iload X16.here hx rfl (hb hby at_65) rfl ?_
      show Steps p.tables e below (T16.setTop (mkF m 67 #[.val (.int x0), .val (.int x1), .val (.int x2), .val (.int x3), .val (.ref ar0), .val (.ref ar1), .val (.ref ar2), .val (.ref ar3), .val (.int (3 : Int32)), .unset, .unset, .unset] [(.int (3 : Int32))])) _
      refine XS.iconst X16.here hx rfl (hb hby at_67) ?_
      show Steps p.tables e below (T16.setTop (mkF m 68 #[.val (.int x0), .val (.int x1), .val (.int x2), .val (.int x3), .val (.ref ar0), .val (.ref ar1), .val (.ref ar2), .val (.ref ar3), .val (.int (3 : Int32)), .unset, .unset, .unset] [(.int (1 : Int32)), (.int (3 : Int32))])) _
      refine XS.icmpYes X16.here hx rfl (pc0 := 68) (pc' := 76) rfl (hb hby at_68) rfl (feq (by decide)).2 (by decide) (by decide) ?_
      show Steps p.tables e below (T16.setTop (mkF m 76 #[.val (.int x0), .val (.int x1), .val (.int x2), .val (.int x3), .val (.ref ar0), .val (.ref ar1), .val (.ref ar2), .val (.ref ar3), .val (.int (3 : Int32)), .unset, .unset, .unset] [])) _
      refine XS.iload X16.here hx rfl (hb hby at_76) rfl ?_
      show Steps p.tables e below (T16.setTop (mkF m 78 #[.val (.int x0), .val (.int x1), .val (.int x2), .val (.int x3), .val (.ref ar0), .val (.ref ar1), .val (.ref ar2), .val (.ref ar3), .val (.int (3 : Int32)), .unset, .unset, .unset] [(.int (3 : Int32))])) _
      refine XS.iconst X16.here hx rfl (hb hby at_78) ?_
      show Steps p.tables e below (T16.setTop (mkF m 79 #[.val (.int x0), .val (.int x1), .val (.int x2), .val (.int x3), .val (.ref ar0), .val (.ref ar1), .val (.ref ar2), .val (.ref ar3), .val (.int (3 : Int32)), .unset, .unset, .unset] [(.int (2 : Int32)), (.int (3 : Int32))])) _
      refine XS.icmpYes X16.here hx rfl (pc0 := 79) (pc' := 87) rfl (hb hby at_79) rfl (feq (by decide)).2 (by decide) (by decide) ?_
      show Steps p.tables e below (T16.setTop (mkF m 87 #[.val (.int x0), .val (.int x1), .val (.int x2), .val (.int x3), .val (.ref ar0), .val (.ref ar1), .val (.ref ar2), .val (.ref ar3), .val (.int (3 : Int32)), .unset, .unset, .unset] [])) _
      refine XS.aload X16.here hx rfl (hb hby at_87) rfl rfl ?_
      show Steps p.tables e below (T16.setTop (mkF m 89 #[.val (.int x0), .val (.int x1), .val (.int x2), .val (.int x3), .val (.ref ar0), .val (.ref ar1), .val (.ref ar2), .val (.ref ar3), .val (.int (3 : Int32)), .unset, .unset, .unset] [(.ref ar3)])) _
      refine XS.astore X16.here hx rfl (hb hby at_89) rfl rfl (l' := #[.val (.int x0), .val (.int x1), .val (.int x2), .val (.int x3), .val (.ref ar0), .val (.ref ar1), .val (.ref ar2), .val (.ref ar3), .val (.int (3 : Int32)), .val (.ref ar3), .unset, .unset]) rfl ?_
      show Steps p.tables e below (T16.setTop (mkF m 91 #[.val (.int x0), .val (.int x1), .val (.int x2), .val (.int x3), .val (.ref ar0), .val (.ref ar1), .val (.ref ar2), .val (.ref ar3), .val (.int (3 : Int32)), .val (.ref ar3), .unset, .unset] [])) _
      refine XS.aload X16.here hx rfl (hb hby at_91) rfl rfl ?_
      show Steps p.tables e below (T16.setTop (mkF m 93 #[.val (.int x0), .val (.int x1), .val (.int x2), .val (.int x3), .val (.ref ar0), .val (.ref ar1), .val (.ref ar2), .val (.ref ar3), .val (.int (3 : Int32)), .val (.ref ar3), .unset, .unset] [(.ref ar3)])) _
      exact kt
    obtain ⟨_, _, ⟨T38, L38, k38, n38⟩, -, X38, ⟨Lc38, hQ38, l38, y38, z38⟩, st38⟩ := Jvm.LawKit.callS X16 hx (y := (⟨"com/example/clearfold/clearfold/trade/EventFeeds$Place", "kept", "([B)Lcom/example/clearfold/clearfold/trade/EventFeeds$Place;"⟩ : MethodName)) hown (mvT hZ (hw _ (List.mem_of_getElem? (i := 1) rfl))) (mvT hZ (hw _ (List.mem_of_getElem? (i := 2) rfl))) (mvT hZ (hw _ (List.mem_of_getElem? (i := 3) rfl))) (mvT hZ (hw _ (List.mem_of_getElem? (i := 4) rfl))) (by decide) (backOf (W := 0) (rm1 l Z a0 hw [] ar3 (3 : Int32) (fun i => if i = ((2 : Int32)).toNatClampNeg then (.int (nar .byte x3.toInt8.toInt32)) else (fun i => if i = ((1 : Int32)).toNatClampNeg then (.int (nar .byte x2.toInt8.toInt32)) else (fun i => if i = ((0 : Int32)).toNatClampNeg then (.int (nar .byte x1.toInt8.toInt32)) else (fun _ => (.int (0 : Int32))) i) i) i) h16 n0 Z16 V_ar3) hZ (hw _ (List.mem_of_getElem? (i := 4) rfl)) (hw _ (List.mem_of_getElem? (i := 3) rfl)) (by decide) (by decide)) (g := (mkF m 93 #[.val (.int x0), .val (.int x1), .val (.int x2), .val (.int x3), .val (.ref ar0), .val (.ref ar1), .val (.ref ar2), .val (.ref ar3), .val (.int (3 : Int32)), .val (.ref ar3), .unset, .unset] [(.ref ar3)])) rfl (by rw [hml]; rfl) (argsL := [(.ref ar3)]) (rest := []) (lenOf pd_2 rfl) rfl (by show 2 * 0 + _ ≤ _; exact Nat.le_of_eq rfl) (hb hby at_93) (fun _ _ => ⟨rfl, e16, (by decide : 4 + 1 ≤ _), (by decide : 6 + 4 ≤ _)⟩)
    dsimp only [Pt.U, Pt.locs, Pt.cells, Pt.slots] at X38 l38 y38 z38 st38 hQ38
    subst l38 y38 z38
    obtain ⟨b, rfl, N38q, gb38, K38, E_b, F_record_b, F_offset_b, F_length_b, F_kept_b⟩ := hQ38
    have N38 := Fr.app N16 N38q
    have Z38 : n0 ≤ T38.heap.size := Nat.le_trans Z16 K38.1
    have V_ar0 := V_ar0.keep K38 nin0
    have V_ar1 := V_ar1.keep K38 nin0
    have V_ar2 := V_ar2.keep K38 nin0
    have V_ar3 := V_ar3.keep K38 nin0
    refine RunsTo.of (T' := T38) (g' := (mkF m 96 #[.val (.int x0), .val (.int x1), .val (.int x2), .val (.int x3), .val (.ref ar0), .val (.ref ar1), .val (.ref ar2), .val (.ref ar3), .val (.int (3 : Int32)), .val (.ref ar3), .unset, .unset] [(.ref b)])) st38 ?_
    refine RunsTo.of (T' := T38) (g' := (mkF m 100 #[.val (.int x0), .val (.int x1), .val (.int x2), .val (.int x3), .val (.ref ar0), .val (.ref ar1), .val (.ref ar2), .val (.ref ar3), .val (.int (3 : Int32)), .val (.ref ar3), .val (.ref b), .unset] [(.ref b)])) (fun t kt => ?_) ?_
    · refine XS.astore X38.here hx rfl (hb hby at_96) rfl rfl (l' := #[.val (.int x0), .val (.int x1), .val (.int x2), .val (.int x3), .val (.ref ar0), .val (.ref ar1), .val (.ref ar2), .val (.ref ar3), .val (.int (3 : Int32)), .val (.ref ar3), .val (.ref b), .unset]) rfl ?_
      show Steps p.tables e below (T38.setTop (mkF m 98 #[.val (.int x0), .val (.int x1), .val (.int x2), .val (.int x3), .val (.ref ar0), .val (.ref ar1), .val (.ref ar2), .val (.ref ar3), .val (.int (3 : Int32)), .val (.ref ar3), .val (.ref b), .unset] [])) _
      refine XS.aload X38.here hx rfl (hb hby at_98) rfl rfl ?_
      show Steps p.tables e below (T38.setTop (mkF m 100 #[.val (.int x0), .val (.int x1), .val (.int x2), .val (.int x3), .val (.ref ar0), .val (.ref ar1), .val (.ref ar2), .val (.ref ar3), .val (.int (3 : Int32)), .val (.ref ar3), .val (.ref b), .unset] [(.ref b)])) _
      exact kt
    obtain ⟨cq39, kq39, q39a, q39b, q39c⟩ := isOf hZ rfl E_b
    obtain ⟨_, _, ⟨T39, L39, k39, n39⟩, -, X39, ⟨Lc39, hQ39, l39, y39, z39⟩, st39⟩ := X38.virtualBack hx (y := (⟨"com/example/clearfold/clearfold/trade/EventFeeds$Place", "record", "()J"⟩ : MethodName)) (z := (⟨"com/example/clearfold/clearfold/trade/EventFeeds$Place", "record", "()J"⟩ : MethodName)) hown (mvT hZ (hw _ (List.mem_of_getElem? (i := 27) rfl))) (mvT hZ (hw _ (List.mem_of_getElem? (i := 28) rfl))) (notFace_of_selects (args := #[]) (mvT hZ (hw _ (List.mem_of_getElem? (i := 30) rfl)))) (mvT hZ (hw _ (List.mem_of_getElem? (i := 30) rfl))) (mvT hZ (hw _ (List.mem_of_getElem? (i := 29) rfl))) (by decide) (backOf (W := 0) (rm5 l Z a0 hw [] b (-1) T38.heap n0 Z38 F_record_b) hZ (hw _ (List.mem_of_getElem? (i := 31) rfl)) (hw _ (List.mem_of_getElem? (i := 3) rfl)) (by decide) (by decide)) q39a q39c (g := (mkF m 100 #[.val (.int x0), .val (.int x1), .val (.int x2), .val (.int x3), .val (.ref ar0), .val (.ref ar1), .val (.ref ar2), .val (.ref ar3), .val (.int (3 : Int32)), .val (.ref ar3), .val (.ref b), .unset] [(.ref b)])) rfl (by rw [hml]; rfl) (Steps.refl _) (argsL := []) (rest := []) (lenOf pd_3 rfl) rfl (by show 2 * 0 + _ ≤ _; exact Nat.le_of_eq rfl) (hb hby at_100) (fun _ _ => ⟨rfl, rfl, (by decide : 5 + 0 ≤ _), (by decide : 10 + 0 ≤ _)⟩)
    dsimp only [Pt.U, Pt.locs, Pt.cells, Pt.slots] at X39 l39 y39 z39 st39 hQ39
    subst l39 y39 z39
    obtain ⟨rfl, N39q, e39⟩ := hQ39
    have N39 := Fr.app N38 N39q
    refine RunsTo.of (T' := T39) (g' := (mkF m 103 #[.val (.int x0), .val (.int x1), .val (.int x2), .val (.int x3), .val (.ref ar0), .val (.ref ar1), .val (.ref ar2), .val (.ref ar3), .val (.int (3 : Int32)), .val (.ref ar3), .val (.ref b), .unset] [(.long (-1 : Int64))])) (fun _ kt => st39.trans kt) ?_
    refine RunsTo.of (T' := T39) (g' := (mkF m 114 #[.val (.int x0), .val (.int x1), .val (.int x2), .val (.int x3), .val (.ref ar0), .val (.ref ar1), .val (.ref ar2), .val (.ref ar3), .val (.int (3 : Int32)), .val (.ref ar3), .val (.ref b), .unset] [(.ref b)])) (fun t kt => ?_) ?_
    · refine X39.ldc2Long hx hown (mvT hZ (hw _ (List.mem_of_getElem? (i := 32) rfl))) (g := (mkF m 103 #[.val (.int x0), .val (.int x1), .val (.int x2), .val (.int x3), .val (.ref ar0), .val (.ref ar1), .val (.ref ar2), .val (.ref ar3), .val (.int (3 : Int32)), .val (.ref ar3), .val (.ref b), .unset] [(.long (-1 : Int64))])) rfl (hb hby at_103) _ ?_
      show Steps p.tables e below (T39.setTop (mkF m 106 #[.val (.int x0), .val (.int x1), .val (.int x2), .val (.int x3), .val (.ref ar0), .val (.ref ar1), .val (.ref ar2), .val (.ref ar3), .val (.int (3 : Int32)), .val (.ref ar3), .val (.ref b), .unset] [(.long (-1 : Int64)), (.long (-1 : Int64))])) _
      refine XS.lcmp X39.here hx rfl (hb hby at_106) rfl ?_
      show Steps p.tables e below (T39.setTop (mkF m 107 #[.val (.int x0), .val (.int x1), .val (.int x2), .val (.int x3), .val (.ref ar0), .val (.ref ar1), .val (.ref ar2), .val (.ref ar3), .val (.int (3 : Int32)), .val (.ref ar3), .val (.ref b), .unset] [(.int (lcmpW (-1 : Int64) (-1 : Int64)))])) _
      refine XS.ifYes X39.here hx rfl (pc0 := 107) (pc' := 112) rfl (hb hby at_107) rfl ((if0 _ _).trans (teq ((lw_eq (-1 : Int64) (-1 : Int64)).mpr rfl)).1) (by decide) (by decide) ?_
      show Steps p.tables e below (T39.setTop (mkF m 112 #[.val (.int x0), .val (.int x1), .val (.int x2), .val (.int x3), .val (.ref ar0), .val (.ref ar1), .val (.ref ar2), .val (.ref ar3), .val (.int (3 : Int32)), .val (.ref ar3), .val (.ref b), .unset] [])) _
      refine XS.aload X39.here hx rfl (hb hby at_112) rfl rfl ?_
      show Steps p.tables e below (T39.setTop (mkF m 114 #[.val (.int x0), .val (.int x1), .val (.int x2), .val (.int x3), .val (.ref ar0), .val (.ref ar1), .val (.ref ar2), .val (.ref ar3), .val (.int (3 : Int32)), .val (.ref ar3), .val (.ref b), .unset] [(.ref b)])) _
      exact kt
    obtain ⟨cq40, kq40, q40a, q40b, q40c⟩ := isOf hZ e39 E_b
    obtain ⟨_, _, ⟨T40, L40, k40, n40⟩, -, X40, ⟨Lc40, hQ40, l40, y40, z40⟩, st40⟩ := X39.virtualBack hx (y := (⟨"com/example/clearfold/clearfold/trade/EventFeeds$Place", "offset", "()I"⟩ : MethodName)) (z := (⟨"com/example/clearfold/clearfold/trade/EventFeeds$Place", "offset", "()I"⟩ : MethodName)) hown (mvT hZ (hw _ (List.mem_of_getElem? (i := 33) rfl))) (mvT hZ (hw _ (List.mem_of_getElem? (i := 34) rfl))) (notFace_of_selects (args := #[]) (mvT hZ (hw _ (List.mem_of_getElem? (i := 36) rfl)))) (mvT hZ (hw _ (List.mem_of_getElem? (i := 36) rfl))) (mvT hZ (hw _ (List.mem_of_getElem? (i := 35) rfl))) (by decide) (backOf (W := 0) (rm6 l Z a0 hw [] b 0 T38.heap n0 Z38 F_offset_b) hZ (hw _ (List.mem_of_getElem? (i := 37) rfl)) (hw _ (List.mem_of_getElem? (i := 3) rfl)) (by decide) (by decide)) q40a q40c (g := (mkF m 114 #[.val (.int x0), .val (.int x1), .val (.int x2), .val (.int x3), .val (.ref ar0), .val (.ref ar1), .val (.ref ar2), .val (.ref ar3), .val (.int (3 : Int32)), .val (.ref ar3), .val (.ref b), .unset] [(.ref b)])) rfl (by rw [hml]; rfl) (Steps.refl _) (argsL := []) (rest := []) (lenOf pd_4 rfl) rfl (by show 2 * 0 + _ ≤ _; exact Nat.le_of_eq rfl) (hb hby at_114) (fun _ _ => ⟨rfl, e39, (by decide : 5 + 0 ≤ _), (by decide : 10 + 0 ≤ _)⟩)
    dsimp only [Pt.U, Pt.locs, Pt.cells, Pt.slots] at X40 l40 y40 z40 st40 hQ40
    subst l40 y40 z40
    obtain ⟨rfl, N40q, e40⟩ := hQ40
    have N40 := Fr.app N39 N40q
    refine RunsTo.of (T' := T40) (g' := (mkF m 117 #[.val (.int x0), .val (.int x1), .val (.int x2), .val (.int x3), .val (.ref ar0), .val (.ref ar1), .val (.ref ar2), .val (.ref ar3), .val (.int (3 : Int32)), .val (.ref ar3), .val (.ref b), .unset] [(.int (0 : Int32))])) (fun _ kt => st40.trans kt) ?_
    refine RunsTo.of (T' := T40) (g' := (mkF m 124 #[.val (.int x0), .val (.int x1), .val (.int x2), .val (.int x3), .val (.ref ar0), .val (.ref ar1), .val (.ref ar2), .val (.ref ar3), .val (.int (3 : Int32)), .val (.ref ar3), .val (.ref b), .unset] [(.ref b)])) (fun t kt => ?_) ?_
    · refine XS.ifYes X40.here hx rfl (pc0 := 117) (pc' := 122) rfl (hb hby at_117) rfl ((if0 _ _).trans (teq rfl).1) (by decide) (by decide) ?_
      show Steps p.tables e below (T40.setTop (mkF m 122 #[.val (.int x0), .val (.int x1), .val (.int x2), .val (.int x3), .val (.ref ar0), .val (.ref ar1), .val (.ref ar2), .val (.ref ar3), .val (.int (3 : Int32)), .val (.ref ar3), .val (.ref b), .unset] [])) _
      refine XS.aload X40.here hx rfl (hb hby at_122) rfl rfl ?_
      show Steps p.tables e below (T40.setTop (mkF m 124 #[.val (.int x0), .val (.int x1), .val (.int x2), .val (.int x3), .val (.ref ar0), .val (.ref ar1), .val (.ref ar2), .val (.ref ar3), .val (.int (3 : Int32)), .val (.ref ar3), .val (.ref b), .unset] [(.ref b)])) _
      exact kt
    obtain ⟨cq41, kq41, q41a, q41b, q41c⟩ := isOf hZ e40 E_b
    obtain ⟨_, _, ⟨T41, L41, k41, n41⟩, -, X41, ⟨Lc41, hQ41, l41, y41, z41⟩, st41⟩ := X40.virtualBack hx (y := (⟨"com/example/clearfold/clearfold/trade/EventFeeds$Place", "length", "()I"⟩ : MethodName)) (z := (⟨"com/example/clearfold/clearfold/trade/EventFeeds$Place", "length", "()I"⟩ : MethodName)) hown (mvT hZ (hw _ (List.mem_of_getElem? (i := 38) rfl))) (mvT hZ (hw _ (List.mem_of_getElem? (i := 39) rfl))) (notFace_of_selects (args := #[]) (mvT hZ (hw _ (List.mem_of_getElem? (i := 41) rfl)))) (mvT hZ (hw _ (List.mem_of_getElem? (i := 41) rfl))) (mvT hZ (hw _ (List.mem_of_getElem? (i := 40) rfl))) (by decide) (backOf (W := 0) (rm7 l Z a0 hw [] b (3 : Int32) T38.heap n0 Z38 F_length_b) hZ (hw _ (List.mem_of_getElem? (i := 42) rfl)) (hw _ (List.mem_of_getElem? (i := 3) rfl)) (by decide) (by decide)) q41a q41c (g := (mkF m 124 #[.val (.int x0), .val (.int x1), .val (.int x2), .val (.int x3), .val (.ref ar0), .val (.ref ar1), .val (.ref ar2), .val (.ref ar3), .val (.int (3 : Int32)), .val (.ref ar3), .val (.ref b), .unset] [(.ref b)])) rfl (by rw [hml]; rfl) (Steps.refl _) (argsL := []) (rest := []) (lenOf pd_4 rfl) rfl (by show 2 * 0 + _ ≤ _; exact Nat.le_of_eq rfl) (hb hby at_124) (fun _ _ => ⟨rfl, e40, (by decide : 5 + 0 ≤ _), (by decide : 10 + 0 ≤ _)⟩)
    dsimp only [Pt.U, Pt.locs, Pt.cells, Pt.slots] at X41 l41 y41 z41 st41 hQ41
    subst l41 y41 z41
    obtain ⟨rfl, N41q, e41⟩ := hQ41
    have N41 := Fr.app N40 N41q
    refine RunsTo.of (T' := T41) (g' := (mkF m 127 #[.val (.int x0), .val (.int x1), .val (.int x2), .val (.int x3), .val (.ref ar0), .val (.ref ar1), .val (.ref ar2), .val (.ref ar3), .val (.int (3 : Int32)), .val (.ref ar3), .val (.ref b), .unset] [(.int (3 : Int32))])) (fun _ kt => st41.trans kt) ?_
    refine RunsTo.of (T' := T41) (g' := (mkF m 136 #[.val (.int x0), .val (.int x1), .val (.int x2), .val (.int x3), .val (.ref ar0), .val (.ref ar1), .val (.ref ar2), .val (.ref ar3), .val (.int (3 : Int32)), .val (.ref ar3), .val (.ref b), .unset] [(.ref b)])) (fun t kt => ?_) ?_
    · refine XS.iload X41.here hx rfl (hb hby at_127) rfl ?_
      show Steps p.tables e below (T41.setTop (mkF m 129 #[.val (.int x0), .val (.int x1), .val (.int x2), .val (.int x3), .val (.ref ar0), .val (.ref ar1), .val (.ref ar2), .val (.ref ar3), .val (.int (3 : Int32)), .val (.ref ar3), .val (.ref b), .unset] [(.int (3 : Int32)), (.int (3 : Int32))])) _
      refine XS.icmpYes X41.here hx rfl (pc0 := 129) (pc' := 134) rfl (hb hby at_129) rfl (teq rfl).1 (by decide) (by decide) ?_
      show Steps p.tables e below (T41.setTop (mkF m 134 #[.val (.int x0), .val (.int x1), .val (.int x2), .val (.int x3), .val (.ref ar0), .val (.ref ar1), .val (.ref ar2), .val (.ref ar3), .val (.int (3 : Int32)), .val (.ref ar3), .val (.ref b), .unset] [])) _
      refine XS.aload X41.here hx rfl (hb hby at_134) rfl rfl ?_
      show Steps p.tables e below (T41.setTop (mkF m 136 #[.val (.int x0), .val (.int x1), .val (.int x2), .val (.int x3), .val (.ref ar0), .val (.ref ar1), .val (.ref ar2), .val (.ref ar3), .val (.int (3 : Int32)), .val (.ref ar3), .val (.ref b), .unset] [(.ref b)])) _
      exact kt
    obtain ⟨cq42, kq42, q42a, q42b, q42c⟩ := isOf hZ e41 E_b
    obtain ⟨_, _, ⟨T42, L42, k42, n42⟩, -, X42, ⟨Lc42, hQ42, l42, y42, z42⟩, st42⟩ := X41.virtualBack hx (y := (⟨"com/example/clearfold/clearfold/trade/EventFeeds$Place", "kept", "()[B"⟩ : MethodName)) (z := (⟨"com/example/clearfold/clearfold/trade/EventFeeds$Place", "kept", "()[B"⟩ : MethodName)) hown (mvT hZ (hw _ (List.mem_of_getElem? (i := 43) rfl))) (mvT hZ (hw _ (List.mem_of_getElem? (i := 44) rfl))) (notFace_of_selects (args := #[]) (mvT hZ (hw _ (List.mem_of_getElem? (i := 46) rfl)))) (mvT hZ (hw _ (List.mem_of_getElem? (i := 46) rfl))) (mvT hZ (hw _ (List.mem_of_getElem? (i := 45) rfl))) (by decide) (backOf (W := 0) (rm8 l Z a0 hw [] b (.ref ar3) rfl T38.heap n0 Z38 F_kept_b) hZ (hw _ (List.mem_of_getElem? (i := 47) rfl)) (hw _ (List.mem_of_getElem? (i := 3) rfl)) (by decide) (by decide)) q42a q42c (g := (mkF m 136 #[.val (.int x0), .val (.int x1), .val (.int x2), .val (.int x3), .val (.ref ar0), .val (.ref ar1), .val (.ref ar2), .val (.ref ar3), .val (.int (3 : Int32)), .val (.ref ar3), .val (.ref b), .unset] [(.ref b)])) rfl (by rw [hml]; rfl) (Steps.refl _) (argsL := []) (rest := []) (lenOf pd_5 rfl) rfl (by show 2 * 0 + _ ≤ _; exact Nat.le_of_eq rfl) (hb hby at_136) (fun _ _ => ⟨rfl, e41, (by decide : 5 + 0 ≤ _), (by decide : 10 + 0 ≤ _)⟩)
    dsimp only [Pt.U, Pt.locs, Pt.cells, Pt.slots] at X42 l42 y42 z42 st42 hQ42
    subst l42 y42 z42
    obtain ⟨rfl, N42q, e42⟩ := hQ42
    have N42 := Fr.app N41 N42q
    refine RunsTo.of (T' := T42) (g' := (mkF m 139 #[.val (.int x0), .val (.int x1), .val (.int x2), .val (.int x3), .val (.ref ar0), .val (.ref ar1), .val (.ref ar2), .val (.ref ar3), .val (.int (3 : Int32)), .val (.ref ar3), .val (.ref b), .unset] [(.ref ar3)])) (fun _ kt => st42.trans kt) ?_
    refine RunsTo.of (T' := T42) (g' := (mkF m 152 #[.val (.int x0), .val (.int x1), .val (.int x2), .val (.int x3), .val (.ref ar0), .val (.ref ar1), .val (.ref ar2), .val (.ref ar3), .val (.int (3 : Int32)), .val (.ref ar3), .val (.ref b), .val (.ref ar3)] [(.ref ar3)])) (fun t kt => ?_) ?_
    · refine XS.astore X42.here hx rfl (hb hby at_139) rfl rfl (l' := #[.val (.int x0), .val (.int x1), .val (.int x2), .val (.int x3), .val (.ref ar0), .val (.ref ar1), .val (.ref ar2), .val (.ref ar3), .val (.int (3 : Int32)), .val (.ref ar3), .val (.ref b), .val (.ref ar3)]) rfl ?_
      show Steps p.tables e below (T42.setTop (mkF m 141 #[.val (.int x0), .val (.int x1), .val (.int x2), .val (.int x3), .val (.ref ar0), .val (.ref ar1), .val (.ref ar2), .val (.ref ar3), .val (.int (3 : Int32)), .val (.ref ar3), .val (.ref b), .val (.ref ar3)] [])) _
      refine XS.aload X42.here hx rfl (hb hby at_141) rfl rfl ?_
      show Steps p.tables e below (T42.setTop (mkF m 143 #[.val (.int x0), .val (.int x1), .val (.int x2), .val (.int x3), .val (.ref ar0), .val (.ref ar1), .val (.ref ar2), .val (.ref ar3), .val (.int (3 : Int32)), .val (.ref ar3), .val (.ref b), .val (.ref ar3)] [(.ref ar3)])) _
      refine XS.aload X42.here hx rfl (hb hby at_143) rfl rfl ?_
      show Steps p.tables e below (T42.setTop (mkF m 145 #[.val (.int x0), .val (.int x1), .val (.int x2), .val (.int x3), .val (.ref ar0), .val (.ref ar1), .val (.ref ar2), .val (.ref ar3), .val (.int (3 : Int32)), .val (.ref ar3), .val (.ref b), .val (.ref ar3)] [(.ref ar3), (.ref ar3)])) _
      refine Jvm.RoadKit.acmp (g := (mkF m 145 #[.val (.int x0), .val (.int x1), .val (.int x2), .val (.int x3), .val (.ref ar0), .val (.ref ar1), .val (.ref ar2), .val (.ref ar3), .val (.int (3 : Int32)), .val (.ref ar3), .val (.ref b), .val (.ref ar3)] [(.ref ar3), (.ref ar3)])) X42 hx rfl rfl rfl (pc0 := 145) (pc' := 150) (same := true) rfl (hb hby at_145) rfl (decide_eq_true (congrArg Value.ref rfl)) (by decide) (by decide) ?_
      show Steps p.tables e below (T42.setTop (mkF m 150 #[.val (.int x0), .val (.int x1), .val (.int x2), .val (.int x3), .val (.ref ar0), .val (.ref ar1), .val (.ref ar2), .val (.ref ar3), .val (.int (3 : Int32)), .val (.ref ar3), .val (.ref b), .val (.ref ar3)] [])) _
      refine XS.aload X42.here hx rfl (hb hby at_150) rfl rfl ?_
      show Steps p.tables e below (T42.setTop (mkF m 152 #[.val (.int x0), .val (.int x1), .val (.int x2), .val (.int x3), .val (.ref ar0), .val (.ref ar1), .val (.ref ar2), .val (.ref ar3), .val (.int (3 : Int32)), .val (.ref ar3), .val (.ref b), .val (.ref ar3)] [(.ref ar3)])) _
      exact kt
    obtain ⟨cl_ar3_43, Ar_ar3_43, S_ar3_43, M_ar3_43, H_ar3_43⟩ := id V_ar3
    refine RunsTo.of (T' := T42) (g' := (mkF m 153 #[.val (.int x0), .val (.int x1), .val (.int x2), .val (.int x3), .val (.ref ar0), .val (.ref ar1), .val (.ref ar2), .val (.ref ar3), .val (.int (3 : Int32)), .val (.ref ar3), .val (.ref b), .val (.ref ar3)] [(.int (3 : Int32))])) (fun t kt => ?_) ?_
    · refine X42.arraylength hx (by rw [e42]; exact Ar_ar3_43.1) (State.isArrayOf_alike hZ.alike Ar_ar3_43.2.1) (g := (mkF m 152 #[.val (.int x0), .val (.int x1), .val (.int x2), .val (.int x3), .val (.ref ar0), .val (.ref ar1), .val (.ref ar2), .val (.ref ar3), .val (.int (3 : Int32)), .val (.ref ar3), .val (.ref b), .val (.ref ar3)] [(.ref ar3)])) rfl rfl (hb hby at_152) _ ?_
      rw [len_of S_ar3_43 M_ar3_43]
      show Steps p.tables e below (T42.setTop (mkF m 153 #[.val (.int x0), .val (.int x1), .val (.int x2), .val (.int x3), .val (.ref ar0), .val (.ref ar1), .val (.ref ar2), .val (.ref ar3), .val (.int (3 : Int32)), .val (.ref ar3), .val (.ref b), .val (.ref ar3)] [(.int (3 : Int32))])) _
      exact kt
    refine RunsTo.of (T' := T42) (g' := (mkF m 169 #[.val (.int x0), .val (.int x1), .val (.int x2), .val (.int x3), .val (.ref ar0), .val (.ref ar1), .val (.ref ar2), .val (.ref ar3), .val (.int (3 : Int32)), .val (.ref ar3), .val (.ref b), .val (.ref ar3)] [(.int (0 : Int32)), (.ref ar3)])) (fun t kt => ?_) ?_
    · refine XS.iload X42.here hx rfl (hb hby at_153) rfl ?_
      show Steps p.tables e below (T42.setTop (mkF m 155 #[.val (.int x0), .val (.int x1), .val (.int x2), .val (.int x3), .val (.ref ar0), .val (.ref ar1), .val (.ref ar2), .val (.ref ar3), .val (.int (3 : Int32)), .val (.ref ar3), .val (.ref b), .val (.ref ar3)] [(.int (3 : Int32)), (.int (3 : Int32))])) _
      refine XS.icmpYes X42.here hx rfl (pc0 := 155) (pc' := 160) rfl (hb hby at_155) rfl (teq rfl).1 (by decide) (by decide) ?_
      show Steps p.tables e below (T42.setTop (mkF m 160 #[.val (.int x0), .val (.int x1), .val (.int x2), .val (.int x3), .val (.ref ar0), .val (.ref ar1), .val (.ref ar2), .val (.ref ar3), .val (.int (3 : Int32)), .val (.ref ar3), .val (.ref b), .val (.ref ar3)] [])) _
      refine XS.iload X42.here hx rfl (hb hby at_160) rfl ?_
      show Steps p.tables e below (T42.setTop (mkF m 162 #[.val (.int x0), .val (.int x1), .val (.int x2), .val (.int x3), .val (.ref ar0), .val (.ref ar1), .val (.ref ar2), .val (.ref ar3), .val (.int (3 : Int32)), .val (.ref ar3), .val (.ref b), .val (.ref ar3)] [(.int (3 : Int32))])) _
      refine XS.iconst X42.here hx rfl (hb hby at_162) ?_
      show Steps p.tables e below (T42.setTop (mkF m 163 #[.val (.int x0), .val (.int x1), .val (.int x2), .val (.int x3), .val (.ref ar0), .val (.ref ar1), .val (.ref ar2), .val (.ref ar3), .val (.int (3 : Int32)), .val (.ref ar3), .val (.ref b), .val (.ref ar3)] [(.int (1 : Int32)), (.int (3 : Int32))])) _
      refine XS.icmpNo X42.here hx rfl (hb hby at_163) rfl (flt (by decide)).1 ?_
      show Steps p.tables e below (T42.setTop (mkF m 166 #[.val (.int x0), .val (.int x1), .val (.int x2), .val (.int x3), .val (.ref ar0), .val (.ref ar1), .val (.ref ar2), .val (.ref ar3), .val (.int (3 : Int32)), .val (.ref ar3), .val (.ref b), .val (.ref ar3)] [])) _
      refine XS.aload X42.here hx rfl (hb hby at_166) rfl rfl ?_
      show Steps p.tables e below (T42.setTop (mkF m 168 #[.val (.int x0), .val (.int x1), .val (.int x2), .val (.int x3), .val (.ref ar0), .val (.ref ar1), .val (.ref ar2), .val (.ref ar3), .val (.int (3 : Int32)), .val (.ref ar3), .val (.ref b), .val (.ref ar3)] [(.ref ar3)])) _
      refine XS.iconst X42.here hx rfl (hb hby at_168) ?_
      show Steps p.tables e below (T42.setTop (mkF m 169 #[.val (.int x0), .val (.int x1), .val (.int x2), .val (.int x3), .val (.ref ar0), .val (.ref ar1), .val (.ref ar2), .val (.ref ar3), .val (.int (3 : Int32)), .val (.ref ar3), .val (.ref b), .val (.ref ar3)] [(.int (0 : Int32)), (.ref ar3)])) _
      exact kt
    obtain ⟨cl_ar3_44, Ar_ar3_44, S_ar3_44, M_ar3_44, H_ar3_44⟩ := id V_ar3
    have hin_ar3_44 : ¬ ((0 : Int32) < 0 ∨ cl_ar3_44.slots.size ≤ ((0 : Int32)).toNatClampNeg) := inb_of S_ar3_44 ⟨by decide, by decide⟩
    have hat_ar3_44 : cl_ar3_44.slots[((0 : Int32)).toNatClampNeg]? = some (.int (nar .byte x1.toInt8.toInt32)) := (H_ar3_44 _ (Nat.lt_of_not_le fun y => hin_ar3_44 (Or.inr y))).trans (congrArg some rfl)
    refine RunsTo.of (T' := T42) (g' := (mkF m 170 #[.val (.int x0), .val (.int x1), .val (.int x2), .val (.int x3), .val (.ref ar0), .val (.ref ar1), .val (.ref ar2), .val (.ref ar3), .val (.int (3 : Int32)), .val (.ref ar3), .val (.ref b), .val (.ref ar3)] [(.int (nar .byte x1.toInt8.toInt32))])) (fun t kt => ?_) ?_
    · refine X42.baloadBytes hx (j := (0 : Int32)) (v := (.int (nar .byte x1.toInt8.toInt32))) (by rw [e42]; exact Ar_ar3_44.1) (State.isArrayOf_alike hZ.alike Ar_ar3_44.2.1) Ar_ar3_44.2.2 hin_ar3_44 hat_ar3_44 (g := (mkF m 169 #[.val (.int x0), .val (.int x1), .val (.int x2), .val (.int x3), .val (.ref ar0), .val (.ref ar1), .val (.ref ar2), .val (.ref ar3), .val (.int (3 : Int32)), .val (.ref ar3), .val (.ref b), .val (.ref ar3)] [(.int (0 : Int32)), (.ref ar3)])) rfl rfl (hb hby at_169) _ ?_
      show Steps p.tables e below (T42.setTop (mkF m 170 #[.val (.int x0), .val (.int x1), .val (.int x2), .val (.int x3), .val (.ref ar0), .val (.ref ar1), .val (.ref ar2), .val (.ref ar3), .val (.int (3 : Int32)), .val (.ref ar3), .val (.ref b), .val (.ref ar3)] [(.int (nar .byte x1.toInt8.toInt32))])) _
      exact kt
    refine RunsTo.of (T' := T42) (g' := (mkF m 186 #[.val (.int x0), .val (.int x1), .val (.int x2), .val (.int x3), .val (.ref ar0), .val (.ref ar1), .val (.ref ar2), .val (.ref ar3), .val (.int (3 : Int32)), .val (.ref ar3), .val (.ref b), .val (.ref ar3)] [(.int (1 : Int32)), (.ref ar3)])) (fun t kt => ?_) ?_
    · refine XS.iloadN X42.here hx rfl (hb hby at_170) rfl ?_
      show Steps p.tables e below (T42.setTop (mkF m 171 #[.val (.int x0), .val (.int x1), .val (.int x2), .val (.int x3), .val (.ref ar0), .val (.ref ar1), .val (.ref ar2), .val (.ref ar3), .val (.int (3 : Int32)), .val (.ref ar3), .val (.ref b), .val (.ref ar3)] [(.int x1), (.int (nar .byte x1.toInt8.toInt32))])) _
      refine XS.i2b X42.here hx rfl (hb hby at_171) rfl ?_
      show Steps p.tables e below (T42.setTop (mkF m 172 #[.val (.int x0), .val (.int x1), .val (.int x2), .val (.int x3), .val (.ref ar0), .val (.ref ar1), .val (.ref ar2), .val (.ref ar3), .val (.int (3 : Int32)), .val (.ref ar3), .val (.ref b), .val (.ref ar3)] [(.int x1.toInt8.toInt32), (.int (nar .byte x1.toInt8.toInt32))])) _
      refine XS.icmpYes X42.here hx rfl (pc0 := 172) (pc' := 177) rfl (hb hby at_172) rfl (teq (own_i2b x1)).1 (by decide) (by decide) ?_
      show Steps p.tables e below (T42.setTop (mkF m 177 #[.val (.int x0), .val (.int x1), .val (.int x2), .val (.int x3), .val (.ref ar0), .val (.ref ar1), .val (.ref ar2), .val (.ref ar3), .val (.int (3 : Int32)), .val (.ref ar3), .val (.ref b), .val (.ref ar3)] [])) _
      refine XS.iload X42.here hx rfl (hb hby at_177) rfl ?_
      show Steps p.tables e below (T42.setTop (mkF m 179 #[.val (.int x0), .val (.int x1), .val (.int x2), .val (.int x3), .val (.ref ar0), .val (.ref ar1), .val (.ref ar2), .val (.ref ar3), .val (.int (3 : Int32)), .val (.ref ar3), .val (.ref b), .val (.ref ar3)] [(.int (3 : Int32))])) _
      refine XS.iconst X42.here hx rfl (hb hby at_179) ?_
      show Steps p.tables e below (T42.setTop (mkF m 180 #[.val (.int x0), .val (.int x1), .val (.int x2), .val (.int x3), .val (.ref ar0), .val (.ref ar1), .val (.ref ar2), .val (.ref ar3), .val (.int (3 : Int32)), .val (.ref ar3), .val (.ref b), .val (.ref ar3)] [(.int (2 : Int32)), (.int (3 : Int32))])) _
      refine XS.icmpNo X42.here hx rfl (hb hby at_180) rfl (flt (by decide)).1 ?_
      show Steps p.tables e below (T42.setTop (mkF m 183 #[.val (.int x0), .val (.int x1), .val (.int x2), .val (.int x3), .val (.ref ar0), .val (.ref ar1), .val (.ref ar2), .val (.ref ar3), .val (.int (3 : Int32)), .val (.ref ar3), .val (.ref b), .val (.ref ar3)] [])) _
      refine XS.aload X42.here hx rfl (hb hby at_183) rfl rfl ?_
      show Steps p.tables e below (T42.setTop (mkF m 185 #[.val (.int x0), .val (.int x1), .val (.int x2), .val (.int x3), .val (.ref ar0), .val (.ref ar1), .val (.ref ar2), .val (.ref ar3), .val (.int (3 : Int32)), .val (.ref ar3), .val (.ref b), .val (.ref ar3)] [(.ref ar3)])) _
      refine XS.iconst X42.here hx rfl (hb hby at_185) ?_
      show Steps p.tables e below (T42.setTop (mkF m 186 #[.val (.int x0), .val (.int x1), .val (.int x2), .val (.int x3), .val (.ref ar0), .val (.ref ar1), .val (.ref ar2), .val (.ref ar3), .val (.int (3 : Int32)), .val (.ref ar3), .val (.ref b), .val (.ref ar3)] [(.int (1 : Int32)), (.ref ar3)])) _
      exact kt
    obtain ⟨cl_ar3_45, Ar_ar3_45, S_ar3_45, M_ar3_45, H_ar3_45⟩ := id V_ar3
    have hin_ar3_45 : ¬ ((1 : Int32) < 0 ∨ cl_ar3_45.slots.size ≤ ((1 : Int32)).toNatClampNeg) := inb_of S_ar3_45 ⟨by decide, by decide⟩
    have hat_ar3_45 : cl_ar3_45.slots[((1 : Int32)).toNatClampNeg]? = some (.int (nar .byte x2.toInt8.toInt32)) := (H_ar3_45 _ (Nat.lt_of_not_le fun y => hin_ar3_45 (Or.inr y))).trans (congrArg some rfl)
    refine RunsTo.of (T' := T42) (g' := (mkF m 187 #[.val (.int x0), .val (.int x1), .val (.int x2), .val (.int x3), .val (.ref ar0), .val (.ref ar1), .val (.ref ar2), .val (.ref ar3), .val (.int (3 : Int32)), .val (.ref ar3), .val (.ref b), .val (.ref ar3)] [(.int (nar .byte x2.toInt8.toInt32))])) (fun t kt => ?_) ?_
    · refine X42.baloadBytes hx (j := (1 : Int32)) (v := (.int (nar .byte x2.toInt8.toInt32))) (by rw [e42]; exact Ar_ar3_45.1) (State.isArrayOf_alike hZ.alike Ar_ar3_45.2.1) Ar_ar3_45.2.2 hin_ar3_45 hat_ar3_45 (g := (mkF m 186 #[.val (.int x0), .val (.int x1), .val (.int x2), .val (.int x3), .val (.ref ar0), .val (.ref ar1), .val (.ref ar2), .val (.ref ar3), .val (.int (3 : Int32)), .val (.ref ar3), .val (.ref b), .val (.ref ar3)] [(.int (1 : Int32)), (.ref ar3)])) rfl rfl (hb hby at_186) _ ?_
      show Steps p.tables e below (T42.setTop (mkF m 187 #[.val (.int x0), .val (.int x1), .val (.int x2), .val (.int x3), .val (.ref ar0), .val (.ref ar1), .val (.ref ar2), .val (.ref ar3), .val (.int (3 : Int32)), .val (.ref ar3), .val (.ref b), .val (.ref ar3)] [(.int (nar .byte x2.toInt8.toInt32))])) _
      exact kt
    refine RunsTo.of (T' := T42) (g' := (mkF m 203 #[.val (.int x0), .val (.int x1), .val (.int x2), .val (.int x3), .val (.ref ar0), .val (.ref ar1), .val (.ref ar2), .val (.ref ar3), .val (.int (3 : Int32)), .val (.ref ar3), .val (.ref b), .val (.ref ar3)] [(.int (2 : Int32)), (.ref ar3)])) (fun t kt => ?_) ?_
    · refine XS.iloadN X42.here hx rfl (hb hby at_187) rfl ?_
      show Steps p.tables e below (T42.setTop (mkF m 188 #[.val (.int x0), .val (.int x1), .val (.int x2), .val (.int x3), .val (.ref ar0), .val (.ref ar1), .val (.ref ar2), .val (.ref ar3), .val (.int (3 : Int32)), .val (.ref ar3), .val (.ref b), .val (.ref ar3)] [(.int x2), (.int (nar .byte x2.toInt8.toInt32))])) _
      refine XS.i2b X42.here hx rfl (hb hby at_188) rfl ?_
      show Steps p.tables e below (T42.setTop (mkF m 189 #[.val (.int x0), .val (.int x1), .val (.int x2), .val (.int x3), .val (.ref ar0), .val (.ref ar1), .val (.ref ar2), .val (.ref ar3), .val (.int (3 : Int32)), .val (.ref ar3), .val (.ref b), .val (.ref ar3)] [(.int x2.toInt8.toInt32), (.int (nar .byte x2.toInt8.toInt32))])) _
      refine XS.icmpYes X42.here hx rfl (pc0 := 189) (pc' := 194) rfl (hb hby at_189) rfl (teq (own_i2b x2)).1 (by decide) (by decide) ?_
      show Steps p.tables e below (T42.setTop (mkF m 194 #[.val (.int x0), .val (.int x1), .val (.int x2), .val (.int x3), .val (.ref ar0), .val (.ref ar1), .val (.ref ar2), .val (.ref ar3), .val (.int (3 : Int32)), .val (.ref ar3), .val (.ref b), .val (.ref ar3)] [])) _
      refine XS.iload X42.here hx rfl (hb hby at_194) rfl ?_
      show Steps p.tables e below (T42.setTop (mkF m 196 #[.val (.int x0), .val (.int x1), .val (.int x2), .val (.int x3), .val (.ref ar0), .val (.ref ar1), .val (.ref ar2), .val (.ref ar3), .val (.int (3 : Int32)), .val (.ref ar3), .val (.ref b), .val (.ref ar3)] [(.int (3 : Int32))])) _
      refine XS.iconst X42.here hx rfl (hb hby at_196) ?_
      show Steps p.tables e below (T42.setTop (mkF m 197 #[.val (.int x0), .val (.int x1), .val (.int x2), .val (.int x3), .val (.ref ar0), .val (.ref ar1), .val (.ref ar2), .val (.ref ar3), .val (.int (3 : Int32)), .val (.ref ar3), .val (.ref b), .val (.ref ar3)] [(.int (3 : Int32)), (.int (3 : Int32))])) _
      refine XS.icmpNo X42.here hx rfl (hb hby at_197) rfl (flt (by decide)).1 ?_
      show Steps p.tables e below (T42.setTop (mkF m 200 #[.val (.int x0), .val (.int x1), .val (.int x2), .val (.int x3), .val (.ref ar0), .val (.ref ar1), .val (.ref ar2), .val (.ref ar3), .val (.int (3 : Int32)), .val (.ref ar3), .val (.ref b), .val (.ref ar3)] [])) _
      refine XS.aload X42.here hx rfl (hb hby at_200) rfl rfl ?_
      show Steps p.tables e below (T42.setTop (mkF m 202 #[.val (.int x0), .val (.int x1), .val (.int x2), .val (.int x3), .val (.ref ar0), .val (.ref ar1), .val (.ref ar2), .val (.ref ar3), .val (.int (3 : Int32)), .val (.ref ar3), .val (.ref b), .val (.ref ar3)] [(.ref ar3)])) _
      refine XS.iconst X42.here hx rfl (hb hby at_202) ?_
      show Steps p.tables e below (T42.setTop (mkF m 203 #[.val (.int x0), .val (.int x1), .val (.int x2), .val (.int x3), .val (.ref ar0), .val (.ref ar1), .val (.ref ar2), .val (.ref ar3), .val (.int (3 : Int32)), .val (.ref ar3), .val (.ref b), .val (.ref ar3)] [(.int (2 : Int32)), (.ref ar3)])) _
      exact kt
    obtain ⟨cl_ar3_46, Ar_ar3_46, S_ar3_46, M_ar3_46, H_ar3_46⟩ := id V_ar3
    have hin_ar3_46 : ¬ ((2 : Int32) < 0 ∨ cl_ar3_46.slots.size ≤ ((2 : Int32)).toNatClampNeg) := inb_of S_ar3_46 ⟨by decide, by decide⟩
    have hat_ar3_46 : cl_ar3_46.slots[((2 : Int32)).toNatClampNeg]? = some (.int (nar .byte x3.toInt8.toInt32)) := (H_ar3_46 _ (Nat.lt_of_not_le fun y => hin_ar3_46 (Or.inr y))).trans (congrArg some rfl)
    refine RunsTo.of (T' := T42) (g' := (mkF m 204 #[.val (.int x0), .val (.int x1), .val (.int x2), .val (.int x3), .val (.ref ar0), .val (.ref ar1), .val (.ref ar2), .val (.ref ar3), .val (.int (3 : Int32)), .val (.ref ar3), .val (.ref b), .val (.ref ar3)] [(.int (nar .byte x3.toInt8.toInt32))])) (fun t kt => ?_) ?_
    · refine X42.baloadBytes hx (j := (2 : Int32)) (v := (.int (nar .byte x3.toInt8.toInt32))) (by rw [e42]; exact Ar_ar3_46.1) (State.isArrayOf_alike hZ.alike Ar_ar3_46.2.1) Ar_ar3_46.2.2 hin_ar3_46 hat_ar3_46 (g := (mkF m 203 #[.val (.int x0), .val (.int x1), .val (.int x2), .val (.int x3), .val (.ref ar0), .val (.ref ar1), .val (.ref ar2), .val (.ref ar3), .val (.int (3 : Int32)), .val (.ref ar3), .val (.ref b), .val (.ref ar3)] [(.int (2 : Int32)), (.ref ar3)])) rfl rfl (hb hby at_203) _ ?_
      show Steps p.tables e below (T42.setTop (mkF m 204 #[.val (.int x0), .val (.int x1), .val (.int x2), .val (.int x3), .val (.ref ar0), .val (.ref ar1), .val (.ref ar2), .val (.ref ar3), .val (.int (3 : Int32)), .val (.ref ar3), .val (.ref b), .val (.ref ar3)] [(.int (nar .byte x3.toInt8.toInt32))])) _
      exact kt
    refine RunsTo.of (T' := T42) (g' := (mkF m 212 #[.val (.int x0), .val (.int x1), .val (.int x2), .val (.int x3), .val (.ref ar0), .val (.ref ar1), .val (.ref ar2), .val (.ref ar3), .val (.int (3 : Int32)), .val (.ref ar3), .val (.ref b), .val (.ref ar3)] [(.int (1 : Int32))])) (fun t kt => ?_) ?_
    · refine XS.iloadN X42.here hx rfl (hb hby at_204) rfl ?_
      show Steps p.tables e below (T42.setTop (mkF m 205 #[.val (.int x0), .val (.int x1), .val (.int x2), .val (.int x3), .val (.ref ar0), .val (.ref ar1), .val (.ref ar2), .val (.ref ar3), .val (.int (3 : Int32)), .val (.ref ar3), .val (.ref b), .val (.ref ar3)] [(.int x3), (.int (nar .byte x3.toInt8.toInt32))])) _
      refine XS.i2b X42.here hx rfl (hb hby at_205) rfl ?_
      show Steps p.tables e below (T42.setTop (mkF m 206 #[.val (.int x0), .val (.int x1), .val (.int x2), .val (.int x3), .val (.ref ar0), .val (.ref ar1), .val (.ref ar2), .val (.ref ar3), .val (.int (3 : Int32)), .val (.ref ar3), .val (.ref b), .val (.ref ar3)] [(.int x3.toInt8.toInt32), (.int (nar .byte x3.toInt8.toInt32))])) _
      refine XS.icmpYes X42.here hx rfl (pc0 := 206) (pc' := 211) rfl (hb hby at_206) rfl (teq (own_i2b x3)).1 (by decide) (by decide) ?_
      show Steps p.tables e below (T42.setTop (mkF m 211 #[.val (.int x0), .val (.int x1), .val (.int x2), .val (.int x3), .val (.ref ar0), .val (.ref ar1), .val (.ref ar2), .val (.ref ar3), .val (.int (3 : Int32)), .val (.ref ar3), .val (.ref b), .val (.ref ar3)] [])) _
      refine XS.iconst X42.here hx rfl (hb hby at_211) ?_
      show Steps p.tables e below (T42.setTop (mkF m 212 #[.val (.int x0), .val (.int x1), .val (.int x2), .val (.int x3), .val (.ref ar0), .val (.ref ar1), .val (.ref ar2), .val (.ref ar3), .val (.int (3 : Int32)), .val (.ref ar3), .val (.ref b), .val (.ref ar3)] [(.int (1 : Int32))])) _
      exact kt
    refine RunsTo.retN X42 hx (t := .boolean) Bd.returns (by simp) Bd.notSynchronized (hb hby at_212) ?_ (by decide) (by decide)
    rw [e42]
    exact ⟨rfl, N42⟩
set_option maxRecDepth 65536 in
set_option maxHeartbeats 40000000 in
theorem comes_1 {Post : Tables → Env → Array Value → State → Outcome → State → Prop} (hpost : ∀ tb e args s v u, (limb_1_1.after args s (.returned v) u = true ∧ limb_1_2.after args s (.returned v) u = true ∧ True) → FrameEnd s (.returned v) u (Jvm.fieldLocs frame_1_writes args s ++ Jvm.arrayLocs frame_1_arrays args s ++ Jvm.staticLocs frame_1_statics s) 24 128 → Post tb e args s (.returned v) u) :
    ArmFor flags0 classFile x code maxLocals ret World_1 tables_1 room_1 Calls_1 rest_1 Pre_1 Post := by
  intro l hfl _ _ p e ha hc hk s m args below hf hA hF happ hP
  obtain ⟨hcalls, hrest, hpre⟩ := hP
  obtain ⟨-, -, -, hnamed, -, -, -, hat⟩ := (Spec.applies_iff hf).mp happ
  obtain ⟨hg, hn⟩ := and_e (Cond.before_iff.mp (show (Jvm.Cond.and given_1 narrow_1).before args s = true from hpre))
  obtain ⟨hcnt, hg0⟩ := and_e hg
  obtain ⟨ha0, hg1⟩ := and_e hg0
  obtain ⟨ha1, hg2⟩ := and_e hg1
  obtain ⟨ha2, hg3⟩ := and_e hg2
  have ha3 := hg3
  obtain ⟨w0, w1, w2, w3, rfl⟩ : ∃ w0 w1 w2 w3 : Value, args = #[w0, w1, w2, w3] := by
    have hs : args.size = 4 := by simpa [Cond.value, given_1] using hcnt
    obtain ⟨L⟩ := args
    match L, hs with
    | [w0, w1, w2, w3], _ => exact ⟨w0, w1, w2, w3, rfl⟩
  have hw := fun d (hd : d ∈ tables_1) => atoms_spec (ws := Jvm.Cond.code x code maxLocals ret :: tables_1) hat d (List.mem_cons_of_mem _ hd)
  have hfit : Fit s := fun {y c} hc i hi => by
    obtain ⟨ha, rfl⟩ := Array.getElem?_eq_some_iff.mp hc
    have q := List.all_eq_true.mp ((Array.all_eq_true_iff_forall_mem.mp hF) _ (Array.getElem_mem ha)) i (List.mem_range.mpr hi)
    simpa [Array.getElem?_eq_getElem hi] using q
  obtain ⟨i0, ei0⟩ := is_v ha0
  obtain rfl : w0 = (.int i0) := Option.some.inj ei0
  obtain ⟨i1, ei1⟩ := is_v ha1
  obtain rfl : w1 = (.int i1) := Option.some.inj ei1
  obtain ⟨i2, ei2⟩ := is_v ha2
  obtain rfl : w2 = (.int i2) := Option.some.inj ei2
  obtain ⟨i3, ei3⟩ := is_v ha3
  obtain rfl : w3 = (.int i3) := Option.some.inj ei3
  obtain ⟨n, o, h1, h2, h3, _, L, rfl, ⟨rfl, N⟩, hq⟩ := rm0 l s _ hw tables_1 i0 i1 i2 i3 s.heap s.heap.size (Nat.le_refl _)  p e ha hc hk s m _ below hf ((Spec.applies_iff_loose hf).mp happ).1 ⟨rfl, State.Warmed39.refl s, rfl⟩ trivial
  refine ⟨n, _, h1, h2, h3, hpost _ _ _ _ _ _ ⟨Cond.after_iff.mpr rfl, Cond.after_iff.mpr (eq_i res_at (Term.int_eval (1)) rfl), trivial⟩ ⟨hq.1, hq.2.1, (hq.2.2.sift fun y hy => Or.inr (N y hy)).mono (by decide) (by decide)⟩⟩
theorem main_1_1 : Claimed_1_1 := comes_1 fun _ _ _ _ _ _ h hF => ⟨h.1, hF⟩
theorem main_1_2 : Claimed_1_2 := comes_1 fun _ _ _ _ _ _ h hF => ⟨h.2.1, hF⟩
end Jvm.Pilot.@@N@@
namespace Jvm.Pilot.@@N@@
open Jvm Jvm.ClassFile Sem Op Lib Jvm.Free Jvm.Stand Jvm.Pilot.@@N@@.Jvm.D
/-! MADE BY PROGRAM (witnessworld.py) out of the Statement's table words and the real class files: 10 classes; the members and pool entries that the words name. The judged class is class 1, her method 1. -/
namespace start1
open Jvm.ClassFile
def u (s : String) : CpInfo := .utf8 (stringToUtf16 s)
/-- a pool by its gaps: so many unusable entries, then the entry; so many at the end -/
def gap : Nat → List CpInfo → List CpInfo
  | 0, r => r
  | n + 1, r => .unusable :: gap n r
def poolList (es : List (Nat × CpInfo)) (last : Nat) : List CpInfo := es.foldr (fun e r => gap e.1 (e.2 :: r)) (gap last [])
def pool (es : List (Nat × CpInfo)) (last : Nat) : Array CpInfo := ⟨poolList es last⟩
def fileOf (pool : Array CpInfo) (this : Nat) (attrs : Array Attribute := #[]) (ms : Array MethodInfo := #[]) (fl : Nat := 33) (sup : Nat := 0) (ifs : Array Nat := #[]) (fds : Array FieldInfo := #[]) : ClassFile where
  minorVersion := 0
  majorVersion := 65
  constantPool := pool
  accessFlags := fl
  thisClass := this
  superClass := sup
  interfaces := ifs
  fields := fds
  methods := ms
  attributes := attrs
def plain (name : String) (sup : Option ClassId) : Class where
  name := name
  kind := .ordinary
  loader := none
  accessFlags := 33
  super := sup
  interfaces := #[]
  cf := none
  fields := #[]
  methods := #[]
  instanceTypes := #[]
  staticTypes := #[]
  resolved := #[]
  callSites := []
  init := .initialized
  statics := none
  mirror := none

def pool0 : Array CpInfo := pool [(5, u "<init>"), (0, u "()V"), (1, .class_ 10), (1, u "java/lang/Object")] 113

def k0c0 : Code := { maxStack := 0, maxLocals := 1, code := object_method_1_code, exceptionTable := #[], attributes := #[] }
def k0m0 : Method := { name := "<init>", desc := "()V", sig := { parameters := [], returnType := none }, accessFlags := 1, code := some k0c0 }
/-- java/lang/Object -/
def k0 : Class := { plain "java/lang/Object" none with
  accessFlags := 33
  interfaces := #[]
  cf := some (fileOf pool0 8 #[] #[{ accessFlags := 1, nameIndex := 5, descriptorIndex := 6, attributes := #[] }] 33 0 #[] #[])
  fields := #[]
  methods := #[k0m0]
  instanceTypes := #[]
  staticTypes := #[]
  resolved := Array.replicate 124 none
  statics := none }

def pool1 : Array CpInfo := pool [(2, .class_ 4), (1, u "java/lang/Object"), (0, u "<init>"), (0, u "()V"), (0, .methodref 8 9), (0, .class_ 10), (0, .nameAndType 11 12), (0, u "com/example/clearfold/clearfold/trade/EventFeeds$Place"), (0, u "kept"), (0, u "([B)Lcom/example/clearfold/clearfold/trade/EventFeeds$Place;"), (0, .methodref 8 14), (0, .nameAndType 15 16), (0, u "record"), (0, u "()J"), (0, .long 18446744073709551615), (1, .methodref 8 20), (0, .nameAndType 21 22), (0, u "offset"), (0, u "()I"), (0, .methodref 8 24), (0, .nameAndType 25 22), (0, u "length"), (0, .methodref 8 27), (0, .nameAndType 11 28), (0, u "()[B"), (0, .class_ 30), (0, u "com/example/clearfold/clearfold/trade/PlaceKeptPinLaw"), (2, u "law"), (0, u "(IIII)Z")] 9

def k1m0 : Method := { name := "<init>", desc := "()V", sig := { parameters := [], returnType := none }, accessFlags := 1, code := none }
def k1c1 : Code := { maxStack := 4, maxLocals := 12, code := code, exceptionTable := #[], attributes := #[] }
def k1m1 : Method := { name := "law", desc := "(IIII)Z", sig := { parameters := [.int, .int, .int, .int], returnType := some .boolean }, accessFlags := 9, code := some k1c1 }
/-- com/example/clearfold/clearfold/trade/PlaceKeptPinLaw -/
def k1 : Class := { plain "com/example/clearfold/clearfold/trade/PlaceKeptPinLaw" (some 0) with
  accessFlags := 49
  interfaces := #[]
  cf := some (fileOf pool1 29 #[] #[{ accessFlags := 1, nameIndex := 5, descriptorIndex := 6, attributes := #[] }, { accessFlags := 9, nameIndex := 33, descriptorIndex := 34, attributes := #[] }] 49 2 #[] #[])
  fields := #[]
  methods := #[k1m0, k1m1]
  instanceTypes := #[]
  staticTypes := #[]
  resolved := Array.replicate 44 none
  statics := none }

def pool2 : Array CpInfo := pool [(1, .methodref 2 3), (0, .class_ 4), (0, .nameAndType 5 6), (0, u "java/lang/Object"), (0, u "<init>"), (0, u "()V"), (0, .class_ 8), (0, u "java/lang/Record")] 13

def k2c0 : Code := { maxStack := 1, maxLocals := 1, code := jdk_30_method_1_code, exceptionTable := #[], attributes := #[] }
def k2m0 : Method := { name := "<init>", desc := "()V", sig := { parameters := [], returnType := none }, accessFlags := 4, code := some k2c0 }
/-- java/lang/Record -/
def k2 : Class := { plain "java/lang/Record" (some 0) with
  accessFlags := 1057
  interfaces := #[]
  cf := some (fileOf pool2 7 #[] #[{ accessFlags := 4, nameIndex := 5, descriptorIndex := 6, attributes := #[] }] 1057 2 #[] #[])
  fields := #[]
  methods := #[k2m0]
  instanceTypes := #[]
  staticTypes := #[]
  resolved := Array.replicate 22 none
  statics := none }

def pool3 : Array CpInfo := pool [(1, .methodref 2 3), (0, .class_ 4), (0, .nameAndType 5 6), (0, u "java/lang/Record"), (0, u "<init>"), (0, u "()V"), (0, .fieldref 8 9), (0, .class_ 10), (0, .nameAndType 11 12), (0, u "com/example/clearfold/clearfold/trade/EventFeeds$Place"), (0, u "record"), (0, u "J"), (0, .fieldref 8 14), (0, .nameAndType 15 16), (0, u "offset"), (0, u "I"), (0, .fieldref 8 18), (0, .nameAndType 19 16), (0, u "length"), (0, .fieldref 8 21), (0, .nameAndType 22 23), (0, u "kept"), (0, u "[B"), (0, .methodref 8 25), (0, .nameAndType 5 26), (0, u "(JII[B)V"), (0, .long 18446744073709551615), (18, u "([B)Lcom/example/clearfold/clearfold/trade/EventFeeds$Place;"), (1, u "()I"), (1, u "()J"), (0, u "()[B"), (3, .class_ 56), (0, u "com/example/clearfold/clearfold/trade/EventFeeds")] 22

def k3c0 : Code := { maxStack := 3, maxLocals := 6, code := prog_66_method_1_code, exceptionTable := #[], attributes := #[] }
def k3m0 : Method := { name := "<init>", desc := "(JII[B)V", sig := { parameters := [.long, .int, .int, (.array .byte)], returnType := none }, accessFlags := 0, code := some k3c0 }
def k3c1 : Code := { maxStack := 7, maxLocals := 1, code := prog_66_method_3_code, exceptionTable := #[], attributes := #[] }
def k3m1 : Method := { name := "kept", desc := "([B)Lcom/example/clearfold/clearfold/trade/EventFeeds$Place;", sig := { parameters := [(.array .byte)], returnType := some (.object "com/example/clearfold/clearfold/trade/EventFeeds$Place") }, accessFlags := 8, code := some k3c1 }
def k3c2 : Code := { maxStack := 2, maxLocals := 1, code := prog_66_method_7_code, exceptionTable := #[], attributes := #[] }
def k3m2 : Method := { name := "record", desc := "()J", sig := { parameters := [], returnType := some .long }, accessFlags := 1, code := some k3c2 }
def k3c3 : Code := { maxStack := 1, maxLocals := 1, code := prog_66_method_8_code, exceptionTable := #[], attributes := #[] }
def k3m3 : Method := { name := "offset", desc := "()I", sig := { parameters := [], returnType := some .int }, accessFlags := 1, code := some k3c3 }
def k3c4 : Code := { maxStack := 1, maxLocals := 1, code := prog_66_method_9_code, exceptionTable := #[], attributes := #[] }
def k3m4 : Method := { name := "length", desc := "()I", sig := { parameters := [], returnType := some .int }, accessFlags := 1, code := some k3c4 }
def k3c5 : Code := { maxStack := 1, maxLocals := 1, code := prog_66_method_10_code, exceptionTable := #[], attributes := #[] }
def k3m5 : Method := { name := "kept", desc := "()[B", sig := { parameters := [], returnType := some (.array .byte) }, accessFlags := 1, code := some k3c5 }
/-- com/example/clearfold/clearfold/trade/EventFeeds$Place -/
def k3 : Class := { plain "com/example/clearfold/clearfold/trade/EventFeeds$Place" (some 2) with
  accessFlags := 48
  interfaces := #[]
  cf := some (fileOf pool3 8 #[.nestHost 55] #[{ accessFlags := 0, nameIndex := 5, descriptorIndex := 26, attributes := #[] }, { accessFlags := 8, nameIndex := 22, descriptorIndex := 46, attributes := #[] }, { accessFlags := 1, nameIndex := 11, descriptorIndex := 50, attributes := #[] }, { accessFlags := 1, nameIndex := 15, descriptorIndex := 48, attributes := #[] }, { accessFlags := 1, nameIndex := 19, descriptorIndex := 48, attributes := #[] }, { accessFlags := 1, nameIndex := 22, descriptorIndex := 51, attributes := #[] }] 48 2 #[] #[{ accessFlags := 18, nameIndex := 11, descriptorIndex := 12, attributes := #[] }, { accessFlags := 18, nameIndex := 15, descriptorIndex := 16, attributes := #[] }, { accessFlags := 18, nameIndex := 19, descriptorIndex := 16, attributes := #[] }, { accessFlags := 18, nameIndex := 22, descriptorIndex := 23, attributes := #[] }])
  fields := #[{ name := "record", type := .long, accessFlags := 18, slot := 0, constantValue := 0 }, { name := "offset", type := .int, accessFlags := 18, slot := 1, constantValue := 0 }, { name := "length", type := .int, accessFlags := 18, slot := 2, constantValue := 0 }, { name := "kept", type := (.array .byte), accessFlags := 18, slot := 3, constantValue := 0 }]
  methods := #[k3m0, k3m1, k3m2, k3m3, k3m4, k3m5]
  instanceTypes := #[.long, .int, .int, (.array .byte)]
  staticTypes := #[]
  resolved := Array.replicate 79 none
  statics := none }

def pool4 : Array CpInfo := pool [(1, u "java/lang/Cloneable"), (0, .class_ 1), (0, u "java/lang/Object"), (0, .class_ 3)] 3

/-- java/lang/Cloneable -/
def k4 : Class := { plain "java/lang/Cloneable" (some 0) with
  accessFlags := 1537
  interfaces := #[]
  cf := some (fileOf pool4 2 #[] #[] 1537 4 #[] #[])
  fields := #[]
  methods := #[]
  instanceTypes := #[]
  staticTypes := #[]
  resolved := Array.replicate 8 none
  statics := none }

def pool5 : Array CpInfo := pool [(1, u "java/io/Serializable"), (0, .class_ 1), (0, u "java/lang/Object"), (0, .class_ 3)] 3

/-- java/io/Serializable -/
def k5 : Class := { plain "java/io/Serializable" (some 0) with
  accessFlags := 1537
  interfaces := #[]
  cf := some (fileOf pool5 2 #[] #[] 1537 4 #[] #[])
  fields := #[]
  methods := #[]
  instanceTypes := #[]
  staticTypes := #[]
  resolved := Array.replicate 8 none
  statics := none }

/-- the primitive byte -/
def k6 : Class := { plain "byte" none with kind := .primitive 'B', accessFlags := 0x411 }
/-- [B -/
def k7 : Class := { plain "[B" (some 0) with kind := .array 6 .byte, interfaces := #[4, 5], accessFlags := 1041 }

/-- the primitive int -/
def k8 : Class := { plain "int" none with kind := .primitive 'I', accessFlags := 0x411 }
/-- [I -/
def k9 : Class := { plain "[I" (some 0) with kind := .array 8 .int, interfaces := #[4, 5], accessFlags := 1041 }

def heap : Heap := #[]
def classes : Array Class := #[k0, k1, k2, k3, k4, k5, k6, k7, k8, k9]
def interned : List (Array UInt16 × Addr) := []
def slotsUsed : Nat := 0
def theMethod : MethodId := ⟨1, 1⟩
def args0 : Array Value := #[.int 2, .int 1, .int 2, .int 300]
def aboutOver (below : List Frame) : State where
  vm := { classes := classes, interned := interned.toArray }
  heap := heap
  slotsUsed := slotsUsed
  threads := #[{ frames := .invoking theMethod args0 :: below }]
def below0 : List Frame := [.native { method := ⟨0, 0⟩, args := #[] }]
def about1 : State := aboutOver below0
def p0 : Program := .bare "" "" ""
def e0 : Env := launch0.env 0 0 0
theorem w_frames : about1.frames = Frame.invoking theMethod args0 :: below0 := rfl
set_option maxRecDepth 65536 in
theorem w_args : argsFit about1.vm theMethod args0 = true := by decide +kernel
set_option maxRecDepth 65536 in
theorem w_heap : heapFits about1 = true := by decide +kernel
set_option maxRecDepth 65536 in
theorem w_runnable : about1.curStatus? = some .runnable := by decide +kernel
set_option maxRecDepth 65536 in
theorem w_alone : about1.alone = true := by decide +kernel
set_option maxRecDepth 65536 in
theorem w_named : about1.methodNamed? x = some theMethod := by decide +kernel
set_option maxRecDepth 65536 in
theorem w_hears : about1.hears theMethod below0 = true := by decide +kernel
set_option maxRecDepth 65536 in
theorem w_ripe : about1.ripe theMethod args0 below0 = true := by decide +kernel
theorem w_running : about1.status = .running := rfl
set_option maxRecDepth 65536 in
theorem w_room : about1.hasRoom e0.platform room_1 = true :=
  launch0.hasRoom_least _ room_1 (by decide +kernel) (by decide +kernel) (by decide +kernel) (by decide +kernel) (by decide +kernel) (by decide +kernel)
theorem allAtoms_all (ts : List Jvm.Cond) (a : Array Jvm.Value) (st : Jvm.State) : (allAtoms ts).before a st = ts.all (fun c => c.before a st) := by
  induction ts with
  | nil => rfl
  | cons c t ih =>
    show (Jvm.Cond.and c (allAtoms t)).before a st = _
    rw [Jvm.Cond.before_and, ih, List.all_cons]
def words1 : List Jvm.Cond := Jvm.Cond.code x code maxLocals ret :: tables_1
/-- a 'code' word, met by the world's own term for the bytes: nothing is compared byte by byte -/
theorem code_word {y : MethodName} {bytes : ByteArray} {mx : Nat} {rt : Option FieldType} {a : Array Value} {s : State} {m : MethodId} {meth : Method} {c : Code} (h1 : s.methodNamed? y = some m) (h2 : s.vm.method? m = some meth) (h3 : meth.code = some c) (h4 : c.code = bytes)
    (h5 : (c.maxLocals == mx && c.exceptionTable.isEmpty && decide (c.maxStack ≤ mostOperands) && decide (meth.sig.returnType = rt) && !meth.locks && decide (parseMethodDescriptor y.desc = some meth.sig)) = true) : (Jvm.Cond.code y bytes mx rt).before a s = true := by
  simp only [Bool.and_eq_true, beq_iff_eq, Bool.not_eq_true', decide_eq_true_eq] at h5
  obtain ⟨⟨⟨⟨⟨g1, g2⟩, g3⟩, g4⟩, g5⟩, g6⟩ := h5
  simp [Cond.before, Cond.holds, Cond.value, h1, h2, h3, h4, g1, g2, g3, g4, g5, g6]
def isCode : Jvm.Cond → Bool
  | .code _ _ _ _ => true
  | _ => false
theorem all_split {L : List Jvm.Cond} {P : Jvm.Cond → Bool} (h1 : L.all (fun c => isCode c || P c) = true) (h2 : ∀ c ∈ L.filter isCode, P c = true) : L.all P = true := by
  refine List.all_eq_true.mpr fun c hc => ?_
  have h := List.all_eq_true.mp h1 c hc
  rcases Bool.eq_false_or_eq_true (isCode c) with hi | hi
  · exact h2 c (List.mem_filter.mpr ⟨hc, hi⟩)
  · simpa [hi] using h
set_option maxRecDepth 65536 in
theorem w_c0 : (Jvm.Cond.code x code maxLocals ret).before args0 about1 = true := code_word (m := ⟨1, 1⟩) (meth := k1m1) (c := k1c1) (by decide +kernel) rfl rfl rfl (by decide +kernel)
set_option maxRecDepth 65536 in
theorem w_c1 : (Jvm.Cond.code ({ cls := "com/example/clearfold/clearfold/trade/EventFeeds$Place", name := "kept", desc := "([B)Lcom/example/clearfold/clearfold/trade/EventFeeds$Place;" } : Jvm.MethodName) prog_66_method_3_code (1 : Nat) (Option.some (Jvm.ClassFile.FieldType.object "com/example/clearfold/clearfold/trade/EventFeeds$Place"))).before args0 about1 = true := code_word (m := ⟨3, 1⟩) (meth := k3m1) (c := k3c1) (by decide +kernel) rfl rfl rfl (by decide +kernel)
set_option maxRecDepth 65536 in
theorem w_c2 : (Jvm.Cond.code ({ cls := "com/example/clearfold/clearfold/trade/EventFeeds$Place", name := "<init>", desc := "(JII[B)V" } : Jvm.MethodName) prog_66_method_1_code (6 : Nat) (Option.none : Option Jvm.ClassFile.FieldType)).before args0 about1 = true := code_word (m := ⟨3, 0⟩) (meth := k3m0) (c := k3c0) (by decide +kernel) rfl rfl rfl (by decide +kernel)
set_option maxRecDepth 65536 in
theorem w_c3 : (Jvm.Cond.code ({ cls := "java/lang/Record", name := "<init>", desc := "()V" } : Jvm.MethodName) jdk_30_method_1_code (1 : Nat) (Option.none : Option Jvm.ClassFile.FieldType)).before args0 about1 = true := code_word (m := ⟨2, 0⟩) (meth := k2m0) (c := k2c0) (by decide +kernel) rfl rfl rfl (by decide +kernel)
set_option maxRecDepth 65536 in
theorem w_c4 : (Jvm.Cond.code ({ cls := "java/lang/Object", name := "<init>", desc := "()V" } : Jvm.MethodName) object_method_1_code (1 : Nat) (Option.none : Option Jvm.ClassFile.FieldType)).before args0 about1 = true := code_word (m := ⟨0, 0⟩) (meth := k0m0) (c := k0c0) (by decide +kernel) rfl rfl rfl (by decide +kernel)
set_option maxRecDepth 65536 in
theorem w_c5 : (Jvm.Cond.code ({ cls := "com/example/clearfold/clearfold/trade/EventFeeds$Place", name := "record", desc := "()J" } : Jvm.MethodName) prog_66_method_7_code (1 : Nat) (Option.some Jvm.ClassFile.FieldType.long)).before args0 about1 = true := code_word (m := ⟨3, 2⟩) (meth := k3m2) (c := k3c2) (by decide +kernel) rfl rfl rfl (by decide +kernel)
set_option maxRecDepth 65536 in
theorem w_c6 : (Jvm.Cond.code ({ cls := "com/example/clearfold/clearfold/trade/EventFeeds$Place", name := "offset", desc := "()I" } : Jvm.MethodName) prog_66_method_8_code (1 : Nat) (Option.some Jvm.ClassFile.FieldType.int)).before args0 about1 = true := code_word (m := ⟨3, 3⟩) (meth := k3m3) (c := k3c3) (by decide +kernel) rfl rfl rfl (by decide +kernel)
set_option maxRecDepth 65536 in
theorem w_c7 : (Jvm.Cond.code ({ cls := "com/example/clearfold/clearfold/trade/EventFeeds$Place", name := "length", desc := "()I" } : Jvm.MethodName) prog_66_method_9_code (1 : Nat) (Option.some Jvm.ClassFile.FieldType.int)).before args0 about1 = true := code_word (m := ⟨3, 4⟩) (meth := k3m4) (c := k3c4) (by decide +kernel) rfl rfl rfl (by decide +kernel)
set_option maxRecDepth 65536 in
theorem w_c8 : (Jvm.Cond.code ({ cls := "com/example/clearfold/clearfold/trade/EventFeeds$Place", name := "kept", desc := "()[B" } : Jvm.MethodName) prog_66_method_10_code (1 : Nat) (Option.some (Jvm.ClassFile.FieldType.array Jvm.ClassFile.FieldType.byte))).before args0 about1 = true := code_word (m := ⟨3, 5⟩) (meth := k3m5) (c := k3c5) (by decide +kernel) rfl rfl rfl (by decide +kernel)
def codes1 : List Jvm.Cond := [Jvm.Cond.code x code maxLocals ret, Jvm.Cond.code ({ cls := "com/example/clearfold/clearfold/trade/EventFeeds$Place", name := "kept", desc := "([B)Lcom/example/clearfold/clearfold/trade/EventFeeds$Place;" } : Jvm.MethodName) prog_66_method_3_code (1 : Nat) (Option.some (Jvm.ClassFile.FieldType.object "com/example/clearfold/clearfold/trade/EventFeeds$Place")), Jvm.Cond.code ({ cls := "com/example/clearfold/clearfold/trade/EventFeeds$Place", name := "<init>", desc := "(JII[B)V" } : Jvm.MethodName) prog_66_method_1_code (6 : Nat) (Option.none : Option Jvm.ClassFile.FieldType), Jvm.Cond.code ({ cls := "java/lang/Record", name := "<init>", desc := "()V" } : Jvm.MethodName) jdk_30_method_1_code (1 : Nat) (Option.none : Option Jvm.ClassFile.FieldType), Jvm.Cond.code ({ cls := "java/lang/Object", name := "<init>", desc := "()V" } : Jvm.MethodName) object_method_1_code (1 : Nat) (Option.none : Option Jvm.ClassFile.FieldType), Jvm.Cond.code ({ cls := "com/example/clearfold/clearfold/trade/EventFeeds$Place", name := "record", desc := "()J" } : Jvm.MethodName) prog_66_method_7_code (1 : Nat) (Option.some Jvm.ClassFile.FieldType.long), Jvm.Cond.code ({ cls := "com/example/clearfold/clearfold/trade/EventFeeds$Place", name := "offset", desc := "()I" } : Jvm.MethodName) prog_66_method_8_code (1 : Nat) (Option.some Jvm.ClassFile.FieldType.int), Jvm.Cond.code ({ cls := "com/example/clearfold/clearfold/trade/EventFeeds$Place", name := "length", desc := "()I" } : Jvm.MethodName) prog_66_method_9_code (1 : Nat) (Option.some Jvm.ClassFile.FieldType.int), Jvm.Cond.code ({ cls := "com/example/clearfold/clearfold/trade/EventFeeds$Place", name := "kept", desc := "()[B" } : Jvm.MethodName) prog_66_method_10_code (1 : Nat) (Option.some (Jvm.ClassFile.FieldType.array Jvm.ClassFile.FieldType.byte))]
set_option maxRecDepth 65536 in
theorem codes_eq : words1.filter isCode = codes1 := rfl
theorem w_codes : ∀ c ∈ words1.filter isCode, c.before args0 about1 = true := by
  rw [codes_eq]
  intro c hc
  simp only [codes1, List.mem_cons, List.not_mem_nil, or_false] at hc
  rcases hc with rfl | rfl | rfl | rfl | rfl | rfl | rfl | rfl | rfl
  · exact w_c0
  · exact w_c1
  · exact w_c2
  · exact w_c3
  · exact w_c4
  · exact w_c5
  · exact w_c6
  · exact w_c7
  · exact w_c8
set_option maxRecDepth 65536 in
theorem w_t1 : (words1.take 24).all (fun c => isCode c || c.before args0 about1) = true := by decide +kernel
set_option maxRecDepth 65536 in
theorem w_t2 : ((words1.drop 24).take 24).all (fun c => isCode c || c.before args0 about1) = true := by decide +kernel
set_option maxRecDepth 65536 in
theorem w_t3 : ((words1.drop 24).drop 24).all (fun c => isCode c || c.before args0 about1) = true := by decide +kernel
theorem w_tables : (allAtoms (Jvm.Cond.code x code maxLocals ret :: tables_1)).before args0 about1 = true := by
  rw [allAtoms_all]
  show words1.all (fun c => c.before args0 about1) = true
  refine all_split ?_ w_codes
  rw [← List.take_append_drop 24 words1, List.all_append, w_t1, ← List.take_append_drop 24 (words1.drop 24), List.all_append, w_t2, w_t3]
  rfl
set_option maxRecDepth 65536 in
theorem w_case : (Jvm.Cond.and given_1 narrow_1).before args0 about1 = true := by decide +kernel
theorem w_applies : (headSpec (Jvm.Cond.code x code maxLocals ret :: tables_1) room_1).applies x e0.platform about1 = true :=
  (Spec.applies_iff w_frames).mpr ⟨w_running, w_runnable, w_alone, w_named, w_hears, w_ripe, w_room, w_tables⟩
theorem atStart : AtStart classFile x code maxLocals ret World_1 tables_1 room_1 Calls_1 rest_1 Pre_1 launch0 p0 e0 about1 theMethod args0 below0 :=
  ⟨lists_1, trivial, launch0.admits_env _ _ _, launch0.least_env, fairChoices_fair.cas, fairChoices_fair.clock, w_frames, w_args, w_heap, w_applies, trivial, trivial, w_case⟩
end start1
theorem witness_1 : WitnessClaimed_1 := ⟨start1.p0, start1.e0, start1.about1, start1.theMethod, start1.args0, start1.below0, start1.atStart⟩
end Jvm.Pilot.@@N@@
