import JvmDerived
import JvmDerived.Pilot.@@N@@Statement
import JvmDerived.Pilot.@@N@@Code
set_option linter.unusedVariables false
set_option linter.unusedSimpArgs false
namespace Jvm.RoadKit
open Sem ClassFile Op Lib Jvm.Stand Jvm.Free Jvm.LawKit
section OwnEnds
variable {p : Program} {l : Launch} {e : Env} {R : Room} {s : State} {m : MethodId} {args : Array Value} {below : List Frame} {meth : Method} {c : Code} {T T' : State} {locs : List Loc} {cells slots : Nat} {g g' : JFrame} {Q : Option Value → Heap → List Loc → Prop} {C N : Nat}
/-- from here (the state T, the frame g on top) the run ends, and what it leaves is Q -/
def RunsTo (p : Program) (e : Env) (below : List Frame) (s T : State) (g : JFrame) (Q : Option Value → Heap → List Loc → Prop) (C N : Nat) : Prop :=
  ∃ U o, Steps p.tables e below (T.setTop g) U ∧ U.status = .running ∧ Ended U below o ∧ ∃ v L, o = .returned v ∧ Q v U.heap L ∧ FrameEnd s o U L C N
theorem RunsTo.of (k : ∀ t, Steps p.tables e below (T'.setTop g') t → Steps p.tables e below (T.setTop g) t) (h : RunsTo p e below s T' g' Q C N) : RunsTo p e below s T g Q C N := by
  obtain ⟨U, o, k1, r⟩ := h
  exact ⟨U, o, k U k1, r⟩
theorem RunsTo.start (q : g = g') (h : RunsTo p e below s T g' Q C N) : ∃ U o, Steps p.tables e below (T.setTop g) U ∧ U.status = .running ∧ Ended U below o ∧ ∃ v L, o = .returned v ∧ Q v U.heap L ∧ FrameEnd s o U L C N := by
  subst q; exact h
theorem RunsTo.leave (X : Stand p l e R s m args below meth c T locs cells slots) {v : Option Value} (hv : meth.sig.returnType = none → v = none) (hlocks : meth.locks = false) (hq : Q v T.heap locs) (hC : cells ≤ C) (hN : slots ≤ N)
    (k : ∀ fs, (∀ (f : JFrame) (acts : List Action), f.method = m → f.locked = none → f.entered = [] → (doReturn e (T.setTop f) acts v).1 = T.setFrames fs) → Steps p.tables e below (T.setTop g) (T.setFrames fs)) : RunsTo p e below s T g Q C N := by
  obtain ⟨fs, hr, hrun, hended, hW, hsame⟩ := X.leave (v := v) hv hlocks
  exact ⟨_, _, k fs hr, hrun, hended, v, _, rfl, hq, ⟨_, rfl⟩, hW, hsame.mono hC hN⟩
theorem RunsTo.retI (X : Stand p l e R s m args below meth c T locs cells slots) (hx : p.tables.exec = Jvm.exec) {pc : Nat} {Ls : Array Slot} {z : Int32} {rest : List Value} (hret : meth.sig.returnType = some .int) (hlocks : meth.locks = false) (hd : decode c.code pc = .ok (.ireturn, 1)) (hq : Q (some (.int z)) T.heap locs) (hC : cells ≤ C) (hN : slots ≤ N) :
    RunsTo p e below s T (mkF m pc Ls (.int z :: rest)) Q C N := by
  refine RunsTo.leave X (fun h => by rw [hret] at h; cases h) hlocks hq hC hN fun fs hl => ?_
  have hm' : T.vm.method? m = some meth := X.method'
  have hn : narrow .int (.int z) = .int z := rfl
  show Steps p.tables e below (T.setTop { method := m, pc := pc, locals := Ls, stack := _ :: rest, locked := none }) _
  jvm_step X.here [X.here.top, hx, hd, hm', hret, hn]
  first | (intro acts; rw [hl _ acts rfl rfl rfl]) | rw [hl _ _ rfl rfl rfl]
  exact Steps.refl _
theorem RunsTo.retJ (X : Stand p l e R s m args below meth c T locs cells slots) (hx : p.tables.exec = Jvm.exec) {pc : Nat} {Ls : Array Slot} {z : Int64} {rest : List Value} (hret : meth.sig.returnType = some .long) (hlocks : meth.locks = false) (hd : decode c.code pc = .ok (.lreturn, 1)) (hq : Q (some (.long z)) T.heap locs) (hC : cells ≤ C) (hN : slots ≤ N) :
    RunsTo p e below s T (mkF m pc Ls (.long z :: rest)) Q C N := by
  refine RunsTo.leave X (fun h => by rw [hret] at h; cases h) hlocks hq hC hN fun fs hl => ?_
  have hm' : T.vm.method? m = some meth := X.method'
  show Steps p.tables e below (T.setTop { method := m, pc := pc, locals := Ls, stack := _ :: rest, locked := none }) _
  jvm_step X.here [X.here.top, hx, hd, hm', hret, narrow]
  first | (intro acts; rw [hl _ acts rfl rfl rfl]) | rw [hl _ _ rfl rfl rfl]
  exact Steps.refl _
theorem RunsTo.retA (X : Stand p l e R s m args below meth c T locs cells slots) (hx : p.tables.exec = Jvm.exec) {pc : Nat} {Ls : Array Slot} {z : Value} {ty : FieldType} (hret : meth.sig.returnType = some ty) (hty : ty.isReference = true) (hz : z.isRef = true) (hlocks : meth.locks = false) (hd : decode c.code pc = .ok (.areturn, 1)) (hq : Q (some z) T.heap locs) (hC : cells ≤ C) (hN : slots ≤ N) :
    RunsTo p e below s T (mkF m pc Ls [z]) Q C N :=
  RunsTo.leave X (fun h => by rw [hret] at h; cases h) hlocks hq hC hN fun fs hl => X.areturnOut hx hz hret hty hd hl
theorem RunsTo.retN (X : Stand p l e R s m args below meth c T locs cells slots) (hx : p.tables.exec = Jvm.exec) {pc : Nat} {Ls : Array Slot} {z : Int32} {t : FieldType} {rest : List Value} (hret : meth.sig.returnType = some t) (ht : t = .boolean ∨ t = .byte ∨ t = .char ∨ t = .short) (hlocks : meth.locks = false) (hd : decode c.code pc = .ok (.ireturn, 1)) (hq : Q (some (.int (nar t z))) T.heap locs) (hC : cells ≤ C) (hN : slots ≤ N) :
    RunsTo p e below s T (mkF m pc Ls (.int z :: rest)) Q C N :=
  RunsTo.leave X (fun h => by rw [hret] at h; cases h) hlocks hq hC hN fun fs hl => Jvm.RoadKit.retN X hx hret ht hd hl
theorem RunsTo.retV (X : Stand p l e R s m args below meth c T locs cells slots) (hx : p.tables.exec = Jvm.exec) {pc : Nat} {Ls : Array Slot} (hret : meth.sig.returnType = none) (hlocks : meth.locks = false) (hd : decode c.code pc = .ok (.return_, 1)) (hq : Q none T.heap locs) (hC : cells ≤ C) (hN : slots ≤ N) :
    RunsTo p e below s T (mkF m pc Ls []) Q C N :=
  RunsTo.leave X (fun _ => rfl) hlocks hq hC hN fun fs hl => X.returnOut hx hret hd hl
end OwnEnds
section OwnArf
variable {Z : State} {h h' : Heap} {a b : Addr} {c : Cell} {k : ClassId} {ty : FieldType} {z j : Int32} {f f' : Nat → Value} {v : Value} {sl : Nat} {ws : List Addr}
/-- an array: its kind, its length z, and what each place holds -/
def Arf (Z : State) (h : Heap) (a : Addr) (ty : FieldType) (z : Int32) (f : Nat → Value) : Prop := ∃ c : Cell, Arr Z h a c ty ∧ c.slots.size = z.toNatClampNeg ∧ ¬ z < 0 ∧ ∀ j, j < c.slots.size → c.slots[j]? = some (f j)
theorem Arf.lt (F : Arf Z h a ty z f) : a < h.size := by obtain ⟨c, A, -⟩ := F; exact A.lt
theorem Arf.ext (F : Arf Z h a ty z f) (E : Ext h h') : Arf Z h' a ty z f := by obtain ⟨c, A, r⟩ := F; exact ⟨c, A.ext E, r⟩
theorem Arf.other (F : Arf Z h b ty z f) (W : Wr h h' a sl v) (q : b ≠ a) : Arf Z h' b ty z f := by obtain ⟨c, A, r⟩ := F; exact ⟨c, A.other W q, r⟩
theorem Arf.keep (F : Arf Z h a ty z f) (K : Keep h h' ws) (q : a ∉ ws) : Arf Z h' a ty z f := by obtain ⟨c, A, r⟩ := F; exact ⟨c, ⟨K.2.1 a c A.1 q, A.2⟩, r⟩
theorem Arf.new (A : Arr Z h a (newA k ty z) ty) (q : ¬ z < 0) : Arf Z h a ty z (fun _ => defaultValue ty) := ⟨_, A, sz_new _ _ _, q, fun i hi => by rw [sz_new] at hi; simp [newA, hi]⟩
theorem Arf.congr (F : Arf Z h a ty z f) (q : ∀ i, i < z.toNatClampNeg → f i = f' i) : Arf Z h a ty z f' := by
  obtain ⟨c, A, S, M, H⟩ := F
  exact ⟨c, A, S, M, fun i hi => by rw [← q i (S ▸ hi)]; exact H i hi⟩
theorem Arf.set (A : Arr Z h a c ty) (S : c.slots.size = z.toNatClampNeg) (M : ¬ z < 0) (H : ∀ i, i < c.slots.size → c.slots[i]? = some (f i)) (W : Wr h h' a j.toNatClampNeg v) : Arf Z h' a ty z (fun i => if i = j.toNatClampNeg then v else f i) := by
  refine ⟨_, A.same W, by rw [sz_set]; exact S, M, fun i hi => ?_⟩
  rw [sz_set] at hi
  by_cases u : i = j.toNatClampNeg
  · subst u
    simp [Cell.setSlot, hi]
  · have : (c.setSlot j.toNatClampNeg v).slots[i]? = c.slots[i]? := by
      simp only [Cell.setSlot]; exact Array.getElem?_setIfInBounds_ne (Ne.symm u)
    rw [this]; show _ = some (if i = j.toNatClampNeg then v else f i); rw [if_neg u]; exact H i hi
end OwnArf
end Jvm.RoadKit
namespace Jvm.Pilot.@@N@@
open Jvm Jvm.ClassFile Sem Op Lib Jvm.Free Jvm.Stand Jvm.LawKit Jvm.RoadKit Bundle Jvm.Pilot.@@N@@.Jvm.D
/-! the plain law -/
def own_start (c : Int32) : Int32 := if (65 ≤ c.toInt ∧ c.toInt ≤ 90) ∨ (97 ≤ c.toInt ∧ c.toInt ≤ 122) ∨ c.toInt = 95 then 1 else 0
theorem own_or32 (c : Int32) : (c.toInt / 32 % 2 = 1 ∧ (c ||| 32).toInt = c.toInt) ∨ (c.toInt / 32 % 2 = 0 ∧ c.toInt + 32 < 2147483648 ∧ (c ||| 32).toInt = c.toInt + 32) := by
  have e1 : c.toInt = c.toBitVec.toInt := rfl
  have e2 : (c ||| 32).toInt = (c.toBitVec ||| 32#32).toInt := rfl
  rw [e1, e2]
  generalize c.toBitVec = b
  have hb := b.isLt
  have ht : b.getLsbD 5 = decide (b.toNat / 32 % 2 = 1) := by
    rw [BitVec.getLsbD, Nat.testBit_eq_decide_div_mod_eq]
  have hi := BitVec.toInt_eq_toNat_cond b
  by_cases h : b.getLsbD 5
  · left
    have : b ||| 32#32 = b := by
      ext i hi'
      rw [BitVec.getElem_or]
      by_cases h5 : i = 5
      · subst h5; rw [BitVec.getLsbD_eq_getElem (by decide)] at h; simp [h]
      · have : (32#32)[i] = false := by
          have : ∀ i : Fin 32, i.val ≠ 5 → (32#32).getLsbD i.val = false := by decide
          have := this ⟨i, hi'⟩ h5
          rwa [BitVec.getLsbD_eq_getElem hi'] at this
        simp [this]
    rw [this]
    rw [h] at ht
    have h32 : b.toNat / 32 % 2 = 1 := of_decide_eq_true ht.symm
    refine ⟨?_, rfl⟩
    rw [hi]; split <;> omega
  · right
    have hz : b &&& 32#32 = 0#32 := by
      ext i hi'
      rw [BitVec.getElem_and]
      by_cases h5 : i = 5
      · subst h5; rw [BitVec.getLsbD_eq_getElem (by decide)] at h; simp [h]
      · have : (32#32)[i] = false := by
          have : ∀ i : Fin 32, i.val ≠ 5 → (32#32).getLsbD i.val = false := by decide
          have := this ⟨i, hi'⟩ h5
          rwa [BitVec.getLsbD_eq_getElem hi'] at this
        simp [this]
    rw [← BitVec.add_eq_or_of_and_eq_zero _ _ hz]
    have h32 : b.toNat / 32 % 2 ≠ 1 := by
      intro q; rw [decide_eq_true q] at ht; exact h ht
    have hs := BitVec.toInt_eq_toNat_cond (b + 32#32)
    have hn : (b + 32#32).toNat = (b.toNat + 32) % 2 ^ 32 := by rw [BitVec.toNat_add]; rfl
    rw [hi, hs, hn]
    refine ⟨?_, ?_, ?_⟩ <;> (repeat' split) <;> omega
theorem d1_0 : decode prog_102_method_2_code 0 = .ok (.iload_n 0, 1) := by decide +kernel
theorem d1_1 : decode prog_102_method_2_code 1 = .ok (.bipush 65, 2) := by decide +kernel
theorem d1_3 : decode prog_102_method_2_code 3 = .ok (.if_icmp .lt 9, 3) := by decide +kernel
theorem d1_12 : decode prog_102_method_2_code 12 = .ok (.iload_n 0, 1) := by decide +kernel
theorem d1_13 : decode prog_102_method_2_code 13 = .ok (.bipush 97, 2) := by decide +kernel
theorem d1_15 : decode prog_102_method_2_code 15 = .ok (.if_icmp .lt 9, 3) := by decide +kernel
theorem d1_24 : decode prog_102_method_2_code 24 = .ok (.iload_n 0, 1) := by decide +kernel
theorem d1_25 : decode prog_102_method_2_code 25 = .ok (.bipush 95, 2) := by decide +kernel
theorem d1_27 : decode prog_102_method_2_code 27 = .ok (.if_icmp .ne 7, 3) := by decide +kernel
theorem d1_30 : decode prog_102_method_2_code 30 = .ok (.iconst 1, 1) := by decide +kernel
theorem d1_31 : decode prog_102_method_2_code 31 = .ok (.goto 4, 3) := by decide +kernel
theorem d1_34 : decode prog_102_method_2_code 34 = .ok (.iconst 0, 1) := by decide +kernel
theorem d1_18 : decode prog_102_method_2_code 18 = .ok (.iload_n 0, 1) := by decide +kernel
theorem d1_19 : decode prog_102_method_2_code 19 = .ok (.bipush 122, 2) := by decide +kernel
theorem d1_21 : decode prog_102_method_2_code 21 = .ok (.if_icmp .le 9, 3) := by decide +kernel
theorem d1_6 : decode prog_102_method_2_code 6 = .ok (.iload_n 0, 1) := by decide +kernel
theorem d1_7 : decode prog_102_method_2_code 7 = .ok (.bipush 90, 2) := by decide +kernel
theorem d1_9 : decode prog_102_method_2_code 9 = .ok (.if_icmp .le 21, 3) := by decide +kernel
theorem d1_35 : decode prog_102_method_2_code 35 = .ok (.ireturn, 1) := by decide +kernel
theorem pn_0 : plainName "com/example/round_table/roundtable/internal/Names" = true := by first | (simp [plainName, overriddenIn]; done) | decide +kernel
theorem ef_rm1 (m : MethodId) (x0 : Int32) : entryFrame m #[(.int x0)] 1 = mkF m 0 #[.val (.int x0)] [] := by first | (simp [entryFrame, mkF, argsToLocals, Value.category]; done) | rfl
def Q1 (Z : State) (x0 : Int32) (h0 : Heap) (n0 : Nat) (v : Option Value) (h : Heap) (L : List Loc) : Prop := v = some (.int (own_start x0)) ∧ Fr n0 L ∧ h = h0
set_option maxRecDepth 65536 in
set_option maxHeartbeats 40000000 in
theorem rm1 (l : Launch) (Z : State) (a0 : Array Value) (hw : ∀ d ∈ tables_1, d.before a0 Z = true) (ws : List Jvm.Cond) (x0 : Int32) (h0 : Heap) (n0 : Nat) (Z0 : n0 ≤ h0.size)  :
    MetFree l (⟨"com/example/round_table/roundtable/internal/Names", "isNameStart", "(C)Z"⟩ : MethodName) (head1 (Jvm.Cond.code (⟨"com/example/round_table/roundtable/internal/Names", "isNameStart", "(C)Z"⟩ : MethodName) prog_102_method_2_code 1 (some .boolean) :: ws) ({ frames := 0, cells := 0, slots := 0, locals := 0 } : Room)) (fun a U => a = #[(.int x0)] ∧ Z.Warmed39 U.vm ∧ U.heap = h0) (fun _ _ _ _ _ => True) (fun _ U o U' => ∃ v L, o = .returned v ∧ Q1 Z x0 h0 n0 v U'.heap L ∧ FrameEnd U o U' L ({ frames := 0, cells := 0, slots := 0, locals := 0 } : Room).cells ({ frames := 0, cells := 0, slots := 0, locals := 0 } : Room).slots) := by
  refine MetFree.of_bodySF (plainFor_of_name pn_0) hisR ?_
  intro p e s m args below meth c s₁ Bd hml0 hP hK
  obtain ⟨rfl, hZ, hh⟩ := hP
  have hx := Bd.exec
  have hby := Bd.bytes
  have hml : c.maxLocals = 1 := hml0
  have hown : s.vm.findClass "com/example/round_table/roundtable/internal/Names" = some m.cls := findClass_of_methodNamed Bd.named
  have hnm := (name_of_methodNamed Bd.named Bd.method).1
  have X0 : Stand p l e ({ frames := 0, cells := 0, slots := 0, locals := 0 } : Room) s m #[(.int x0)] below meth c s₁ [] 0 0 := Stand.of_body Bd
  have e0 : s₁.heap = h0 := by rw [← hh, Bd.state]; rfl
  have N0 := Fr.nil n0
  refine RunsTo.start (ef_rm1 m x0) ?_
  show RunsTo p e below s s₁ (mkF m 0 #[.val (.int x0)] []) (Q1 Z x0 h0 n0) ({ frames := 0, cells := 0, slots := 0, locals := 0 } : Room).cells ({ frames := 0, cells := 0, slots := 0, locals := 0 } : Room).slots
  obtain ⟨y, hy⟩ : ∃ z : Int32, z = (if x0 < (65 : Int32) then (if x0 < (97 : Int32) then (if x0 = (95 : Int32) then (1 : Int32) else (0 : Int32)) else (if (122 : Int32) < x0 then (if x0 = (95 : Int32) then (1 : Int32) else (0 : Int32)) else (1 : Int32))) else (if (90 : Int32) < x0 then (if x0 < (97 : Int32) then (if x0 = (95 : Int32) then (1 : Int32) else (0 : Int32)) else (if (122 : Int32) < x0 then (if x0 = (95 : Int32) then (1 : Int32) else (0 : Int32)) else (1 : Int32))) else (1 : Int32))) := ⟨_, rfl⟩
  refine RunsTo.of (T' := s₁) (g' := (mkF m 35 #[.val (.int x0)] [(.int y)])) (fun t kt => ?_) ?_
  · refine XS.iloadN X0.here hx rfl (hb hby d1_0) rfl ?_
    show Steps p.tables e below (s₁.setTop (mkF m 1 #[.val (.int x0)] [(.int x0)])) _
    refine XS.bipush X0.here hx rfl (hb hby d1_1) ?_
    show Steps p.tables e below (s₁.setTop (mkF m 3 #[.val (.int x0)] [(.int (65 : Int32)), (.int x0)])) _
    by_cases hc3 : x0 < (65 : Int32)
    · refine XS.icmpYes X0.here hx rfl (pc0 := 3) (pc' := 12) rfl (hb hby d1_3) rfl (tlt hc3).1 (by decide) (by decide) ?_
      show Steps p.tables e below (s₁.setTop (mkF m 12 #[.val (.int x0)] [])) _
      refine XS.iloadN X0.here hx rfl (hb hby d1_12) rfl ?_
      show Steps p.tables e below (s₁.setTop (mkF m 13 #[.val (.int x0)] [(.int x0)])) _
      refine XS.bipush X0.here hx rfl (hb hby d1_13) ?_
      show Steps p.tables e below (s₁.setTop (mkF m 15 #[.val (.int x0)] [(.int (97 : Int32)), (.int x0)])) _
      by_cases hc15y : x0 < (97 : Int32)
      · refine XS.icmpYes X0.here hx rfl (pc0 := 15) (pc' := 24) rfl (hb hby d1_15) rfl (tlt hc15y).1 (by decide) (by decide) ?_
        show Steps p.tables e below (s₁.setTop (mkF m 24 #[.val (.int x0)] [])) _
        refine XS.iloadN X0.here hx rfl (hb hby d1_24) rfl ?_
        show Steps p.tables e below (s₁.setTop (mkF m 25 #[.val (.int x0)] [(.int x0)])) _
        refine XS.bipush X0.here hx rfl (hb hby d1_25) ?_
        show Steps p.tables e below (s₁.setTop (mkF m 27 #[.val (.int x0)] [(.int (95 : Int32)), (.int x0)])) _
        by_cases hc27yy : x0 = (95 : Int32)
        · refine XS.icmpNo X0.here hx rfl (hb hby d1_27) rfl (teq hc27yy).2 ?_
          show Steps p.tables e below (s₁.setTop (mkF m 30 #[.val (.int x0)] [])) _
          try rw [if_pos hc3] at hy
          try rw [if_pos hc15y] at hy
          try rw [if_pos hc27yy] at hy
          subst hy
          refine XS.iconst X0.here hx rfl (hb hby d1_30) ?_
          show Steps p.tables e below (s₁.setTop (mkF m 31 #[.val (.int x0)] [(.int (1 : Int32))])) _
          refine XS.goto X0.here hx rfl (pc0 := 31) (pc' := 35) rfl (hb hby d1_31) (by decide) (by decide) ?_
          show Steps p.tables e below (s₁.setTop (mkF m 35 #[.val (.int x0)] [(.int (1 : Int32))])) _
          exact kt
        · refine XS.icmpYes X0.here hx rfl (pc0 := 27) (pc' := 34) rfl (hb hby d1_27) rfl (feq hc27yy).2 (by decide) (by decide) ?_
          show Steps p.tables e below (s₁.setTop (mkF m 34 #[.val (.int x0)] [])) _
          try rw [if_pos hc3] at hy
          try rw [if_pos hc15y] at hy
          try rw [if_neg hc27yy] at hy
          subst hy
          refine XS.iconst X0.here hx rfl (hb hby d1_34) ?_
          show Steps p.tables e below (s₁.setTop (mkF m 35 #[.val (.int x0)] [(.int (0 : Int32))])) _
          exact kt
      · refine XS.icmpNo X0.here hx rfl (hb hby d1_15) rfl (flt hc15y).1 ?_
        show Steps p.tables e below (s₁.setTop (mkF m 18 #[.val (.int x0)] [])) _
        refine XS.iloadN X0.here hx rfl (hb hby d1_18) rfl ?_
        show Steps p.tables e below (s₁.setTop (mkF m 19 #[.val (.int x0)] [(.int x0)])) _
        refine XS.bipush X0.here hx rfl (hb hby d1_19) ?_
        show Steps p.tables e below (s₁.setTop (mkF m 21 #[.val (.int x0)] [(.int (122 : Int32)), (.int x0)])) _
        by_cases hc21yn : (122 : Int32) < x0
        · refine XS.icmpNo X0.here hx rfl (hb hby d1_21) rfl (tlt hc21yn).2.2.2 ?_
          show Steps p.tables e below (s₁.setTop (mkF m 24 #[.val (.int x0)] [])) _
          refine XS.iloadN X0.here hx rfl (hb hby d1_24) rfl ?_
          show Steps p.tables e below (s₁.setTop (mkF m 25 #[.val (.int x0)] [(.int x0)])) _
          refine XS.bipush X0.here hx rfl (hb hby d1_25) ?_
          show Steps p.tables e below (s₁.setTop (mkF m 27 #[.val (.int x0)] [(.int (95 : Int32)), (.int x0)])) _
          by_cases hc27yny : x0 = (95 : Int32)
          · refine XS.icmpNo X0.here hx rfl (hb hby d1_27) rfl (teq hc27yny).2 ?_
            show Steps p.tables e below (s₁.setTop (mkF m 30 #[.val (.int x0)] [])) _
            try rw [if_pos hc3] at hy
            try rw [if_neg hc15y] at hy
            try rw [if_pos hc21yn] at hy
            try rw [if_pos hc27yny] at hy
            subst hy
            refine XS.iconst X0.here hx rfl (hb hby d1_30) ?_
            show Steps p.tables e below (s₁.setTop (mkF m 31 #[.val (.int x0)] [(.int (1 : Int32))])) _
            refine XS.goto X0.here hx rfl (pc0 := 31) (pc' := 35) rfl (hb hby d1_31) (by decide) (by decide) ?_
            show Steps p.tables e below (s₁.setTop (mkF m 35 #[.val (.int x0)] [(.int (1 : Int32))])) _
            exact kt
          · refine XS.icmpYes X0.here hx rfl (pc0 := 27) (pc' := 34) rfl (hb hby d1_27) rfl (feq hc27yny).2 (by decide) (by decide) ?_
            show Steps p.tables e below (s₁.setTop (mkF m 34 #[.val (.int x0)] [])) _
            try rw [if_pos hc3] at hy
            try rw [if_neg hc15y] at hy
            try rw [if_pos hc21yn] at hy
            try rw [if_neg hc27yny] at hy
            subst hy
            refine XS.iconst X0.here hx rfl (hb hby d1_34) ?_
            show Steps p.tables e below (s₁.setTop (mkF m 35 #[.val (.int x0)] [(.int (0 : Int32))])) _
            exact kt
        · refine XS.icmpYes X0.here hx rfl (pc0 := 21) (pc' := 30) rfl (hb hby d1_21) rfl (flt hc21yn).2.2.2 (by decide) (by decide) ?_
          show Steps p.tables e below (s₁.setTop (mkF m 30 #[.val (.int x0)] [])) _
          try rw [if_pos hc3] at hy
          try rw [if_neg hc15y] at hy
          try rw [if_neg hc21yn] at hy
          subst hy
          refine XS.iconst X0.here hx rfl (hb hby d1_30) ?_
          show Steps p.tables e below (s₁.setTop (mkF m 31 #[.val (.int x0)] [(.int (1 : Int32))])) _
          refine XS.goto X0.here hx rfl (pc0 := 31) (pc' := 35) rfl (hb hby d1_31) (by decide) (by decide) ?_
          show Steps p.tables e below (s₁.setTop (mkF m 35 #[.val (.int x0)] [(.int (1 : Int32))])) _
          exact kt
    · refine XS.icmpNo X0.here hx rfl (hb hby d1_3) rfl (flt hc3).1 ?_
      show Steps p.tables e below (s₁.setTop (mkF m 6 #[.val (.int x0)] [])) _
      refine XS.iloadN X0.here hx rfl (hb hby d1_6) rfl ?_
      show Steps p.tables e below (s₁.setTop (mkF m 7 #[.val (.int x0)] [(.int x0)])) _
      refine XS.bipush X0.here hx rfl (hb hby d1_7) ?_
      show Steps p.tables e below (s₁.setTop (mkF m 9 #[.val (.int x0)] [(.int (90 : Int32)), (.int x0)])) _
      by_cases hc9n : (90 : Int32) < x0
      · refine XS.icmpNo X0.here hx rfl (hb hby d1_9) rfl (tlt hc9n).2.2.2 ?_
        show Steps p.tables e below (s₁.setTop (mkF m 12 #[.val (.int x0)] [])) _
        refine XS.iloadN X0.here hx rfl (hb hby d1_12) rfl ?_
        show Steps p.tables e below (s₁.setTop (mkF m 13 #[.val (.int x0)] [(.int x0)])) _
        refine XS.bipush X0.here hx rfl (hb hby d1_13) ?_
        show Steps p.tables e below (s₁.setTop (mkF m 15 #[.val (.int x0)] [(.int (97 : Int32)), (.int x0)])) _
        by_cases hc15ny : x0 < (97 : Int32)
        · refine XS.icmpYes X0.here hx rfl (pc0 := 15) (pc' := 24) rfl (hb hby d1_15) rfl (tlt hc15ny).1 (by decide) (by decide) ?_
          show Steps p.tables e below (s₁.setTop (mkF m 24 #[.val (.int x0)] [])) _
          refine XS.iloadN X0.here hx rfl (hb hby d1_24) rfl ?_
          show Steps p.tables e below (s₁.setTop (mkF m 25 #[.val (.int x0)] [(.int x0)])) _
          refine XS.bipush X0.here hx rfl (hb hby d1_25) ?_
          show Steps p.tables e below (s₁.setTop (mkF m 27 #[.val (.int x0)] [(.int (95 : Int32)), (.int x0)])) _
          by_cases hc27nyy : x0 = (95 : Int32)
          · refine XS.icmpNo X0.here hx rfl (hb hby d1_27) rfl (teq hc27nyy).2 ?_
            show Steps p.tables e below (s₁.setTop (mkF m 30 #[.val (.int x0)] [])) _
            try rw [if_neg hc3] at hy
            try rw [if_pos hc9n] at hy
            try rw [if_pos hc15ny] at hy
            try rw [if_pos hc27nyy] at hy
            subst hy
            refine XS.iconst X0.here hx rfl (hb hby d1_30) ?_
            show Steps p.tables e below (s₁.setTop (mkF m 31 #[.val (.int x0)] [(.int (1 : Int32))])) _
            refine XS.goto X0.here hx rfl (pc0 := 31) (pc' := 35) rfl (hb hby d1_31) (by decide) (by decide) ?_
            show Steps p.tables e below (s₁.setTop (mkF m 35 #[.val (.int x0)] [(.int (1 : Int32))])) _
            exact kt
          · refine XS.icmpYes X0.here hx rfl (pc0 := 27) (pc' := 34) rfl (hb hby d1_27) rfl (feq hc27nyy).2 (by decide) (by decide) ?_
            show Steps p.tables e below (s₁.setTop (mkF m 34 #[.val (.int x0)] [])) _
            try rw [if_neg hc3] at hy
            try rw [if_pos hc9n] at hy
            try rw [if_pos hc15ny] at hy
            try rw [if_neg hc27nyy] at hy
            subst hy
            refine XS.iconst X0.here hx rfl (hb hby d1_34) ?_
            show Steps p.tables e below (s₁.setTop (mkF m 35 #[.val (.int x0)] [(.int (0 : Int32))])) _
            exact kt
        · refine XS.icmpNo X0.here hx rfl (hb hby d1_15) rfl (flt hc15ny).1 ?_
          show Steps p.tables e below (s₁.setTop (mkF m 18 #[.val (.int x0)] [])) _
          refine XS.iloadN X0.here hx rfl (hb hby d1_18) rfl ?_
          show Steps p.tables e below (s₁.setTop (mkF m 19 #[.val (.int x0)] [(.int x0)])) _
          refine XS.bipush X0.here hx rfl (hb hby d1_19) ?_
          show Steps p.tables e below (s₁.setTop (mkF m 21 #[.val (.int x0)] [(.int (122 : Int32)), (.int x0)])) _
          by_cases hc21nyn : (122 : Int32) < x0
          · refine XS.icmpNo X0.here hx rfl (hb hby d1_21) rfl (tlt hc21nyn).2.2.2 ?_
            show Steps p.tables e below (s₁.setTop (mkF m 24 #[.val (.int x0)] [])) _
            refine XS.iloadN X0.here hx rfl (hb hby d1_24) rfl ?_
            show Steps p.tables e below (s₁.setTop (mkF m 25 #[.val (.int x0)] [(.int x0)])) _
            refine XS.bipush X0.here hx rfl (hb hby d1_25) ?_
            show Steps p.tables e below (s₁.setTop (mkF m 27 #[.val (.int x0)] [(.int (95 : Int32)), (.int x0)])) _
            by_cases hc27nyny : x0 = (95 : Int32)
            · refine XS.icmpNo X0.here hx rfl (hb hby d1_27) rfl (teq hc27nyny).2 ?_
              show Steps p.tables e below (s₁.setTop (mkF m 30 #[.val (.int x0)] [])) _
              try rw [if_neg hc3] at hy
              try rw [if_pos hc9n] at hy
              try rw [if_neg hc15ny] at hy
              try rw [if_pos hc21nyn] at hy
              try rw [if_pos hc27nyny] at hy
              subst hy
              refine XS.iconst X0.here hx rfl (hb hby d1_30) ?_
              show Steps p.tables e below (s₁.setTop (mkF m 31 #[.val (.int x0)] [(.int (1 : Int32))])) _
              refine XS.goto X0.here hx rfl (pc0 := 31) (pc' := 35) rfl (hb hby d1_31) (by decide) (by decide) ?_
              show Steps p.tables e below (s₁.setTop (mkF m 35 #[.val (.int x0)] [(.int (1 : Int32))])) _
              exact kt
            · refine XS.icmpYes X0.here hx rfl (pc0 := 27) (pc' := 34) rfl (hb hby d1_27) rfl (feq hc27nyny).2 (by decide) (by decide) ?_
              show Steps p.tables e below (s₁.setTop (mkF m 34 #[.val (.int x0)] [])) _
              try rw [if_neg hc3] at hy
              try rw [if_pos hc9n] at hy
              try rw [if_neg hc15ny] at hy
              try rw [if_pos hc21nyn] at hy
              try rw [if_neg hc27nyny] at hy
              subst hy
              refine XS.iconst X0.here hx rfl (hb hby d1_34) ?_
              show Steps p.tables e below (s₁.setTop (mkF m 35 #[.val (.int x0)] [(.int (0 : Int32))])) _
              exact kt
          · refine XS.icmpYes X0.here hx rfl (pc0 := 21) (pc' := 30) rfl (hb hby d1_21) rfl (flt hc21nyn).2.2.2 (by decide) (by decide) ?_
            show Steps p.tables e below (s₁.setTop (mkF m 30 #[.val (.int x0)] [])) _
            try rw [if_neg hc3] at hy
            try rw [if_pos hc9n] at hy
            try rw [if_neg hc15ny] at hy
            try rw [if_neg hc21nyn] at hy
            subst hy
            refine XS.iconst X0.here hx rfl (hb hby d1_30) ?_
            show Steps p.tables e below (s₁.setTop (mkF m 31 #[.val (.int x0)] [(.int (1 : Int32))])) _
            refine XS.goto X0.here hx rfl (pc0 := 31) (pc' := 35) rfl (hb hby d1_31) (by decide) (by decide) ?_
            show Steps p.tables e below (s₁.setTop (mkF m 35 #[.val (.int x0)] [(.int (1 : Int32))])) _
            exact kt
      · refine XS.icmpYes X0.here hx rfl (pc0 := 9) (pc' := 30) rfl (hb hby d1_9) rfl (flt hc9n).2.2.2 (by decide) (by decide) ?_
        show Steps p.tables e below (s₁.setTop (mkF m 30 #[.val (.int x0)] [])) _
        try rw [if_neg hc3] at hy
        try rw [if_neg hc9n] at hy
        subst hy
        refine XS.iconst X0.here hx rfl (hb hby d1_30) ?_
        show Steps p.tables e below (s₁.setTop (mkF m 31 #[.val (.int x0)] [(.int (1 : Int32))])) _
        refine XS.goto X0.here hx rfl (pc0 := 31) (pc' := 35) rfl (hb hby d1_31) (by decide) (by decide) ?_
        show Steps p.tables e below (s₁.setTop (mkF m 35 #[.val (.int x0)] [(.int (1 : Int32))])) _
        exact kt
  refine RunsTo.retN X0 hx (t := .boolean) Bd.returns (by simp) Bd.notSynchronized (hb hby d1_35) ?_ (by decide) (by decide)
  rw [e0]
  refine ⟨?_, N0, rfl⟩
  have hz : nar .boolean y = own_start x0 := by
    rw [hy]; simp only [own_start, nar, Int32.lt_iff_toInt_lt, ← Int32.toInt_inj, show (0 : Int32).toInt = 0 from rfl, show (1 : Int32).toInt = 1 from rfl, show (65 : Int32).toInt = 65 from rfl, show (90 : Int32).toInt = 90 from rfl, show (97 : Int32).toInt = 97 from rfl, show (122 : Int32).toInt = 122 from rfl, show (95 : Int32).toInt = 95 from rfl]
    repeat' split
    all_goals first | rfl | (exfalso; omega)
  rw [hz]
theorem pd_0 : parseMethodDescriptor "(C)Z" = some ⟨[.char], some .boolean⟩ := by decide +kernel
theorem pn_1 : plainName "com/example/round_table/roundtable/internal/NamesIsNameStartPinLaw" = true := by first | (simp [plainName, overriddenIn]; done) | decide +kernel
theorem ef_rm0 (m : MethodId) (x0 : Int32) : entryFrame m #[(.int x0)] maxLocals = mkF m 0 #[.val (.int x0), .unset, .unset, .unset, .unset] [] := by first | (simp [entryFrame, mkF, argsToLocals, Value.category, maxLocals]; done) | rfl
def Q0 (Z : State) (x0 : Int32) (h0 : Heap) (n0 : Nat) (v : Option Value) (h : Heap) (L : List Loc) : Prop := v = some (.int 1) ∧ Fr n0 L
set_option maxRecDepth 65536 in
set_option maxHeartbeats 40000000 in
theorem rm0 (l : Launch) (Z : State) (a0 : Array Value) (hw : ∀ d ∈ tables_1, d.before a0 Z = true) (ws : List Jvm.Cond) (x0 : Int32) (h0 : Heap) (n0 : Nat) (Z0 : n0 ≤ h0.size)  :
    MetFree l x (head1 (Jvm.Cond.code x code maxLocals ret :: ws) room_1) (fun a U => a = #[(.int x0)] ∧ Z.Warmed39 U.vm ∧ U.heap = h0) (fun _ _ _ _ _ => True) (fun _ U o U' => ∃ v L, o = .returned v ∧ Q0 Z x0 h0 n0 v U'.heap L ∧ FrameEnd U o U' L room_1.cells room_1.slots) := by
  refine MetFree.of_bodySF (plainFor_of_name pn_1) hisR ?_
  intro p e s m args below meth c s₁ Bd hml0 hP hK
  obtain ⟨rfl, hZ, hh⟩ := hP
  have hx := Bd.exec
  have hby := Bd.bytes
  have hml : c.maxLocals = 5 := hml0
  have hown : s.vm.findClass "com/example/round_table/roundtable/internal/NamesIsNameStartPinLaw" = some m.cls := findClass_of_methodNamed Bd.named
  have hnm := (name_of_methodNamed Bd.named Bd.method).1
  have X0 : Stand p l e room_1 s m #[(.int x0)] below meth c s₁ [] 0 0 := Stand.of_body Bd
  have e0 : s₁.heap = h0 := by rw [← hh, Bd.state]; rfl
  have N0 := Fr.nil n0
  refine RunsTo.start (ef_rm0 m x0) ?_
  show RunsTo p e below s s₁ (mkF m 0 #[.val (.int x0), .unset, .unset, .unset, .unset] []) (Q0 Z x0 h0 n0) room_1.cells room_1.slots
  refine RunsTo.of (T' := s₁) (g' := (mkF m 4 #[.val (.int x0), .unset, .unset, .unset, .unset] [(.int (x0 &&& (65536 : Int32)))])) (fun t kt => ?_) ?_
  · refine XS.iloadN X0.here hx rfl (hb hby at_0) rfl ?_
    show Steps p.tables e below (s₁.setTop (mkF m 1 #[.val (.int x0), .unset, .unset, .unset, .unset] [(.int x0)])) _
    refine X0.ldcInt hx hown (mvT hZ (hw _ (List.mem_of_getElem? (i := 0) rfl))) (g := (mkF m 1 #[.val (.int x0), .unset, .unset, .unset, .unset] [(.int x0)])) rfl (hb hby at_1) _ ?_
    show Steps p.tables e below (s₁.setTop (mkF m 3 #[.val (.int x0), .unset, .unset, .unset, .unset] [(.int (65536 : Int32)), (.int x0)])) _
    refine XS.iand X0.here hx rfl (hb hby at_3) rfl ?_
    show Steps p.tables e below (s₁.setTop (mkF m 4 #[.val (.int x0), .unset, .unset, .unset, .unset] [(.int (x0 &&& (65536 : Int32)))])) _
    exact kt
  obtain ⟨y1, hy1⟩ : ∃ z : Int32, z = (if (x0 &&& (65536 : Int32)) = (0 : Int32) then (x0 &&& (65535 : Int32)).toUInt32.toUInt16.toUInt32.toInt32 else (x0 &&& (127 : Int32)).toUInt32.toUInt16.toUInt32.toInt32) := ⟨_, rfl⟩
  refine RunsTo.of (T' := s₁) (g' := (mkF m 22 #[.val (.int x0), .val (.int y1), .unset, .unset, .unset] [])) (fun t kt => ?_) ?_
  · by_cases hc4 : (x0 &&& (65536 : Int32)) = (0 : Int32)
    · refine XS.ifYes X0.here hx rfl (pc0 := 4) (pc' := 16) rfl (hb hby at_4) rfl ((if0 _ _).trans (teq hc4).1) (by decide) (by decide) ?_
      show Steps p.tables e below (s₁.setTop (mkF m 16 #[.val (.int x0), .unset, .unset, .unset, .unset] [])) _
      try rw [if_pos hc4] at hy1
      subst hy1
      refine XS.iloadN X0.here hx rfl (hb hby at_16) rfl ?_
      show Steps p.tables e below (s₁.setTop (mkF m 17 #[.val (.int x0), .unset, .unset, .unset, .unset] [(.int x0)])) _
      refine X0.ldcInt hx hown (mvT hZ (hw _ (List.mem_of_getElem? (i := 1) rfl))) (g := (mkF m 17 #[.val (.int x0), .unset, .unset, .unset, .unset] [(.int x0)])) rfl (hb hby at_17) _ ?_
      show Steps p.tables e below (s₁.setTop (mkF m 19 #[.val (.int x0), .unset, .unset, .unset, .unset] [(.int (65535 : Int32)), (.int x0)])) _
      refine XS.iand X0.here hx rfl (hb hby at_19) rfl ?_
      show Steps p.tables e below (s₁.setTop (mkF m 20 #[.val (.int x0), .unset, .unset, .unset, .unset] [(.int (x0 &&& (65535 : Int32)))])) _
      refine XS.i2c X0.here hx rfl (hb hby at_20) rfl ?_
      show Steps p.tables e below (s₁.setTop (mkF m 21 #[.val (.int x0), .unset, .unset, .unset, .unset] [(.int (x0 &&& (65535 : Int32)).toUInt32.toUInt16.toUInt32.toInt32)])) _
      refine XS.istoreN X0.here hx rfl (hb hby at_21) rfl (l' := #[.val (.int x0), .val (.int (x0 &&& (65535 : Int32)).toUInt32.toUInt16.toUInt32.toInt32), .unset, .unset, .unset]) rfl ?_
      show Steps p.tables e below (s₁.setTop (mkF m 22 #[.val (.int x0), .val (.int (x0 &&& (65535 : Int32)).toUInt32.toUInt16.toUInt32.toInt32), .unset, .unset, .unset] [])) _
      exact kt
    · refine XS.ifNo X0.here hx rfl (hb hby at_4) rfl ((if0 _ _).trans (feq hc4).1) ?_
      show Steps p.tables e below (s₁.setTop (mkF m 7 #[.val (.int x0), .unset, .unset, .unset, .unset] [])) _
      try rw [if_neg hc4] at hy1
      subst hy1
      refine XS.iloadN X0.here hx rfl (hb hby at_7) rfl ?_
      show Steps p.tables e below (s₁.setTop (mkF m 8 #[.val (.int x0), .unset, .unset, .unset, .unset] [(.int x0)])) _
      refine XS.bipush X0.here hx rfl (hb hby at_8) ?_
      show Steps p.tables e below (s₁.setTop (mkF m 10 #[.val (.int x0), .unset, .unset, .unset, .unset] [(.int (127 : Int32)), (.int x0)])) _
      refine XS.iand X0.here hx rfl (hb hby at_10) rfl ?_
      show Steps p.tables e below (s₁.setTop (mkF m 11 #[.val (.int x0), .unset, .unset, .unset, .unset] [(.int (x0 &&& (127 : Int32)))])) _
      refine XS.i2c X0.here hx rfl (hb hby at_11) rfl ?_
      show Steps p.tables e below (s₁.setTop (mkF m 12 #[.val (.int x0), .unset, .unset, .unset, .unset] [(.int (x0 &&& (127 : Int32)).toUInt32.toUInt16.toUInt32.toInt32)])) _
      refine XS.istoreN X0.here hx rfl (hb hby at_12) rfl (l' := #[.val (.int x0), .val (.int (x0 &&& (127 : Int32)).toUInt32.toUInt16.toUInt32.toInt32), .unset, .unset, .unset]) rfl ?_
      show Steps p.tables e below (s₁.setTop (mkF m 13 #[.val (.int x0), .val (.int (x0 &&& (127 : Int32)).toUInt32.toUInt16.toUInt32.toInt32), .unset, .unset, .unset] [])) _
      refine XS.goto X0.here hx rfl (pc0 := 13) (pc' := 22) rfl (hb hby at_13) (by decide) (by decide) ?_
      show Steps p.tables e below (s₁.setTop (mkF m 22 #[.val (.int x0), .val (.int (x0 &&& (127 : Int32)).toUInt32.toUInt16.toUInt32.toInt32), .unset, .unset, .unset] [])) _
      exact kt
  refine RunsTo.of (T' := s₁) (g' := (mkF m 30 #[.val (.int x0), .val (.int y1), .val (.int (y1 ||| (32 : Int32))), .unset, .unset] [(.int (97 : Int32)), (.int (y1 ||| (32 : Int32)))])) (fun t kt => ?_) ?_
  · refine XS.iloadN X0.here hx rfl (hb hby at_22) rfl ?_
    show Steps p.tables e below (s₁.setTop (mkF m 23 #[.val (.int x0), .val (.int y1), .unset, .unset, .unset] [(.int y1)])) _
    refine XS.bipush X0.here hx rfl (hb hby at_23) ?_
    show Steps p.tables e below (s₁.setTop (mkF m 25 #[.val (.int x0), .val (.int y1), .unset, .unset, .unset] [(.int (32 : Int32)), (.int y1)])) _
    refine XS.ior X0.here hx rfl (hb hby at_25) rfl ?_
    show Steps p.tables e below (s₁.setTop (mkF m 26 #[.val (.int x0), .val (.int y1), .unset, .unset, .unset] [(.int (y1 ||| (32 : Int32)))])) _
    refine XS.istoreN X0.here hx rfl (hb hby at_26) rfl (l' := #[.val (.int x0), .val (.int y1), .val (.int (y1 ||| (32 : Int32))), .unset, .unset]) rfl ?_
    show Steps p.tables e below (s₁.setTop (mkF m 27 #[.val (.int x0), .val (.int y1), .val (.int (y1 ||| (32 : Int32))), .unset, .unset] [])) _
    refine XS.iloadN X0.here hx rfl (hb hby at_27) rfl ?_
    show Steps p.tables e below (s₁.setTop (mkF m 28 #[.val (.int x0), .val (.int y1), .val (.int (y1 ||| (32 : Int32))), .unset, .unset] [(.int (y1 ||| (32 : Int32)))])) _
    refine XS.bipush X0.here hx rfl (hb hby at_28) ?_
    show Steps p.tables e below (s₁.setTop (mkF m 30 #[.val (.int x0), .val (.int y1), .val (.int (y1 ||| (32 : Int32))), .unset, .unset] [(.int (97 : Int32)), (.int (y1 ||| (32 : Int32)))])) _
    exact kt
  obtain ⟨y2, hy2⟩ : ∃ z : Int32, z = (if (y1 ||| (32 : Int32)) < (97 : Int32) then (0 : Int32) else (if (122 : Int32) < (y1 ||| (32 : Int32)) then (0 : Int32) else (1 : Int32))) := ⟨_, rfl⟩
  refine RunsTo.of (T' := s₁) (g' := (mkF m 44 #[.val (.int x0), .val (.int y1), .val (.int (y1 ||| (32 : Int32))), .unset, .unset] [(.int y2)])) (fun t kt => ?_) ?_
  · by_cases hc30 : (y1 ||| (32 : Int32)) < (97 : Int32)
    · refine XS.icmpYes X0.here hx rfl (pc0 := 30) (pc' := 43) rfl (hb hby at_30) rfl (tlt hc30).1 (by decide) (by decide) ?_
      show Steps p.tables e below (s₁.setTop (mkF m 43 #[.val (.int x0), .val (.int y1), .val (.int (y1 ||| (32 : Int32))), .unset, .unset] [])) _
      try rw [if_pos hc30] at hy2
      subst hy2
      refine XS.iconst X0.here hx rfl (hb hby at_43) ?_
      show Steps p.tables e below (s₁.setTop (mkF m 44 #[.val (.int x0), .val (.int y1), .val (.int (y1 ||| (32 : Int32))), .unset, .unset] [(.int (0 : Int32))])) _
      exact kt
    · refine XS.icmpNo X0.here hx rfl (hb hby at_30) rfl (flt hc30).1 ?_
      show Steps p.tables e below (s₁.setTop (mkF m 33 #[.val (.int x0), .val (.int y1), .val (.int (y1 ||| (32 : Int32))), .unset, .unset] [])) _
      refine XS.iloadN X0.here hx rfl (hb hby at_33) rfl ?_
      show Steps p.tables e below (s₁.setTop (mkF m 34 #[.val (.int x0), .val (.int y1), .val (.int (y1 ||| (32 : Int32))), .unset, .unset] [(.int (y1 ||| (32 : Int32)))])) _
      refine XS.bipush X0.here hx rfl (hb hby at_34) ?_
      show Steps p.tables e below (s₁.setTop (mkF m 36 #[.val (.int x0), .val (.int y1), .val (.int (y1 ||| (32 : Int32))), .unset, .unset] [(.int (122 : Int32)), (.int (y1 ||| (32 : Int32)))])) _
      by_cases hc36n : (122 : Int32) < (y1 ||| (32 : Int32))
      · refine XS.icmpYes X0.here hx rfl (pc0 := 36) (pc' := 43) rfl (hb hby at_36) rfl (tlt hc36n).2.2.1 (by decide) (by decide) ?_
        show Steps p.tables e below (s₁.setTop (mkF m 43 #[.val (.int x0), .val (.int y1), .val (.int (y1 ||| (32 : Int32))), .unset, .unset] [])) _
        try rw [if_neg hc30] at hy2
        try rw [if_pos hc36n] at hy2
        subst hy2
        refine XS.iconst X0.here hx rfl (hb hby at_43) ?_
        show Steps p.tables e below (s₁.setTop (mkF m 44 #[.val (.int x0), .val (.int y1), .val (.int (y1 ||| (32 : Int32))), .unset, .unset] [(.int (0 : Int32))])) _
        exact kt
      · refine XS.icmpNo X0.here hx rfl (hb hby at_36) rfl (flt hc36n).2.2.1 ?_
        show Steps p.tables e below (s₁.setTop (mkF m 39 #[.val (.int x0), .val (.int y1), .val (.int (y1 ||| (32 : Int32))), .unset, .unset] [])) _
        try rw [if_neg hc30] at hy2
        try rw [if_neg hc36n] at hy2
        subst hy2
        refine XS.iconst X0.here hx rfl (hb hby at_39) ?_
        show Steps p.tables e below (s₁.setTop (mkF m 40 #[.val (.int x0), .val (.int y1), .val (.int (y1 ||| (32 : Int32))), .unset, .unset] [(.int (1 : Int32))])) _
        refine XS.goto X0.here hx rfl (pc0 := 40) (pc' := 44) rfl (hb hby at_40) (by decide) (by decide) ?_
        show Steps p.tables e below (s₁.setTop (mkF m 44 #[.val (.int x0), .val (.int y1), .val (.int (y1 ||| (32 : Int32))), .unset, .unset] [(.int (1 : Int32))])) _
        exact kt
  refine RunsTo.of (T' := s₁) (g' := (mkF m 46 #[.val (.int x0), .val (.int y1), .val (.int (y1 ||| (32 : Int32))), .val (.int y2), .unset] [(.int y2)])) (fun t kt => ?_) ?_
  · refine XS.istoreN X0.here hx rfl (hb hby at_44) rfl (l' := #[.val (.int x0), .val (.int y1), .val (.int (y1 ||| (32 : Int32))), .val (.int y2), .unset]) rfl ?_
    show Steps p.tables e below (s₁.setTop (mkF m 45 #[.val (.int x0), .val (.int y1), .val (.int (y1 ||| (32 : Int32))), .val (.int y2), .unset] [])) _
    refine XS.iloadN X0.here hx rfl (hb hby at_45) rfl ?_
    show Steps p.tables e below (s₁.setTop (mkF m 46 #[.val (.int x0), .val (.int y1), .val (.int (y1 ||| (32 : Int32))), .val (.int y2), .unset] [(.int y2)])) _
    exact kt
  obtain ⟨y3, hy3⟩ : ∃ z : Int32, z = (if y2 = (0 : Int32) then (if y1 = (95 : Int32) then (1 : Int32) else (0 : Int32)) else (1 : Int32)) := ⟨_, rfl⟩
  refine RunsTo.of (T' := s₁) (g' := (mkF m 60 #[.val (.int x0), .val (.int y1), .val (.int (y1 ||| (32 : Int32))), .val (.int y2), .unset] [(.int y3)])) (fun t kt => ?_) ?_
  · by_cases hc46 : y2 = (0 : Int32)
    · refine XS.ifNo X0.here hx rfl (hb hby at_46) rfl ((if0 _ _).trans (teq hc46).2) ?_
      show Steps p.tables e below (s₁.setTop (mkF m 49 #[.val (.int x0), .val (.int y1), .val (.int (y1 ||| (32 : Int32))), .val (.int y2), .unset] [])) _
      refine XS.iloadN X0.here hx rfl (hb hby at_49) rfl ?_
      show Steps p.tables e below (s₁.setTop (mkF m 50 #[.val (.int x0), .val (.int y1), .val (.int (y1 ||| (32 : Int32))), .val (.int y2), .unset] [(.int y1)])) _
      refine XS.bipush X0.here hx rfl (hb hby at_50) ?_
      show Steps p.tables e below (s₁.setTop (mkF m 52 #[.val (.int x0), .val (.int y1), .val (.int (y1 ||| (32 : Int32))), .val (.int y2), .unset] [(.int (95 : Int32)), (.int y1)])) _
      by_cases hc52y : y1 = (95 : Int32)
      · refine XS.icmpNo X0.here hx rfl (hb hby at_52) rfl (teq hc52y).2 ?_
        show Steps p.tables e below (s₁.setTop (mkF m 55 #[.val (.int x0), .val (.int y1), .val (.int (y1 ||| (32 : Int32))), .val (.int y2), .unset] [])) _
        try rw [if_pos hc46] at hy3
        try rw [if_pos hc52y] at hy3
        subst hy3
        refine XS.iconst X0.here hx rfl (hb hby at_55) ?_
        show Steps p.tables e below (s₁.setTop (mkF m 56 #[.val (.int x0), .val (.int y1), .val (.int (y1 ||| (32 : Int32))), .val (.int y2), .unset] [(.int (1 : Int32))])) _
        refine XS.goto X0.here hx rfl (pc0 := 56) (pc' := 60) rfl (hb hby at_56) (by decide) (by decide) ?_
        show Steps p.tables e below (s₁.setTop (mkF m 60 #[.val (.int x0), .val (.int y1), .val (.int (y1 ||| (32 : Int32))), .val (.int y2), .unset] [(.int (1 : Int32))])) _
        exact kt
      · refine XS.icmpYes X0.here hx rfl (pc0 := 52) (pc' := 59) rfl (hb hby at_52) rfl (feq hc52y).2 (by decide) (by decide) ?_
        show Steps p.tables e below (s₁.setTop (mkF m 59 #[.val (.int x0), .val (.int y1), .val (.int (y1 ||| (32 : Int32))), .val (.int y2), .unset] [])) _
        try rw [if_pos hc46] at hy3
        try rw [if_neg hc52y] at hy3
        subst hy3
        refine XS.iconst X0.here hx rfl (hb hby at_59) ?_
        show Steps p.tables e below (s₁.setTop (mkF m 60 #[.val (.int x0), .val (.int y1), .val (.int (y1 ||| (32 : Int32))), .val (.int y2), .unset] [(.int (0 : Int32))])) _
        exact kt
    · refine XS.ifYes X0.here hx rfl (pc0 := 46) (pc' := 55) rfl (hb hby at_46) rfl ((if0 _ _).trans (feq hc46).2) (by decide) (by decide) ?_
      show Steps p.tables e below (s₁.setTop (mkF m 55 #[.val (.int x0), .val (.int y1), .val (.int (y1 ||| (32 : Int32))), .val (.int y2), .unset] [])) _
      try rw [if_neg hc46] at hy3
      subst hy3
      refine XS.iconst X0.here hx rfl (hb hby at_55) ?_
      show Steps p.tables e below (s₁.setTop (mkF m 56 #[.val (.int x0), .val (.int y1), .val (.int (y1 ||| (32 : Int32))), .val (.int y2), .unset] [(.int (1 : Int32))])) _
      refine XS.goto X0.here hx rfl (pc0 := 56) (pc' := 60) rfl (hb hby at_56) (by decide) (by decide) ?_
      show Steps p.tables e below (s₁.setTop (mkF m 60 #[.val (.int x0), .val (.int y1), .val (.int (y1 ||| (32 : Int32))), .val (.int y2), .unset] [(.int (1 : Int32))])) _
      exact kt
  refine RunsTo.of (T' := s₁) (g' := (mkF m 63 #[.val (.int x0), .val (.int y1), .val (.int (y1 ||| (32 : Int32))), .val (.int y2), .val (.int y3)] [(.int y1)])) (fun t kt => ?_) ?_
  · refine XS.istore X0.here hx rfl (hb hby at_60) rfl (l' := #[.val (.int x0), .val (.int y1), .val (.int (y1 ||| (32 : Int32))), .val (.int y2), .val (.int y3)]) rfl ?_
    show Steps p.tables e below (s₁.setTop (mkF m 62 #[.val (.int x0), .val (.int y1), .val (.int (y1 ||| (32 : Int32))), .val (.int y2), .val (.int y3)] [])) _
    refine XS.iloadN X0.here hx rfl (hb hby at_62) rfl ?_
    show Steps p.tables e below (s₁.setTop (mkF m 63 #[.val (.int x0), .val (.int y1), .val (.int (y1 ||| (32 : Int32))), .val (.int y2), .val (.int y3)] [(.int y1)])) _
    exact kt
  obtain ⟨_, _, ⟨T1, L1, k1, n1⟩, -, X1, ⟨Lc1, hQ1, l1, y1, z1⟩, st1⟩ := Jvm.LawKit.callS X0 hx (y := (⟨"com/example/round_table/roundtable/internal/Names", "isNameStart", "(C)Z"⟩ : MethodName)) hown (mvT hZ (hw _ (List.mem_of_getElem? (i := 2) rfl))) (mvT hZ (hw _ (List.mem_of_getElem? (i := 3) rfl))) (mvT hZ (hw _ (List.mem_of_getElem? (i := 4) rfl))) (mvT hZ (hw _ (List.mem_of_getElem? (i := 5) rfl))) (by decide) (backOf (W := 0) (rm1 l Z a0 hw [] y1 h0 n0 Z0 ) hZ (hw _ (List.mem_of_getElem? (i := 5) rfl)) (hw _ (List.mem_of_getElem? (i := 4) rfl)) (by decide) (by decide)) (g := (mkF m 63 #[.val (.int x0), .val (.int y1), .val (.int (y1 ||| (32 : Int32))), .val (.int y2), .val (.int y3)] [(.int y1)])) rfl (by rw [hml]; rfl) (argsL := [(.int y1)]) (rest := []) (lenOf pd_0 rfl) rfl (by show 2 * 0 + _ ≤ _; exact Nat.le_of_eq rfl) (hb hby at_63) (fun _ _ => ⟨rfl, e0, (by decide : 0 + 0 ≤ _), (by decide : 0 + 0 ≤ _)⟩)
  dsimp only [Pt.U, Pt.locs, Pt.cells, Pt.slots] at X1 l1 y1 z1 st1 hQ1
  subst l1 y1 z1
  obtain ⟨rfl, N1q, e1⟩ := hQ1
  have N1 := Fr.app N0 N1q
  refine RunsTo.of (T' := T1) (g' := (mkF m 66 #[.val (.int x0), .val (.int y1), .val (.int (y1 ||| (32 : Int32))), .val (.int y2), .val (.int y3)] [(.int (own_start y1))])) st1 ?_
  refine RunsTo.of (T' := T1) (g' := (mkF m 68 #[.val (.int x0), .val (.int y1), .val (.int (y1 ||| (32 : Int32))), .val (.int y2), .val (.int y3)] [(.int y3), (.int (own_start y1))])) (fun t kt => ?_) ?_
  · refine XS.iload X1.here hx rfl (hb hby at_66) rfl ?_
    show Steps p.tables e below (T1.setTop (mkF m 68 #[.val (.int x0), .val (.int y1), .val (.int (y1 ||| (32 : Int32))), .val (.int y2), .val (.int y3)] [(.int y3), (.int (own_start y1))])) _
    exact kt
  have hlaw : own_start y1 = y3 := by
    have hf := own_or32 y1
    clear hy1
    rw [hy3, hy2]
    simp only [own_start, Int32.lt_iff_toInt_lt, ← Int32.toInt_inj, show (0 : Int32).toInt = 0 from rfl, show (1 : Int32).toInt = 1 from rfl, show (65 : Int32).toInt = 65 from rfl, show (90 : Int32).toInt = 90 from rfl, show (97 : Int32).toInt = 97 from rfl, show (122 : Int32).toInt = 122 from rfl, show (95 : Int32).toInt = 95 from rfl]
    generalize (y1 ||| 32).toInt = f at hf
    generalize y1.toInt = c at hf
    repeat' split
    all_goals first | rfl | (exfalso; simp_all; done) | (exfalso; omega)
  refine RunsTo.of (T' := T1) (g' := (mkF m 76 #[.val (.int x0), .val (.int y1), .val (.int (y1 ||| (32 : Int32))), .val (.int y2), .val (.int y3)] [(.int (1 : Int32))])) (fun t kt => ?_) ?_
  · refine XS.icmpNo X1.here hx rfl (hb hby at_68) rfl (teq hlaw).2 ?_
    show Steps p.tables e below (T1.setTop (mkF m 71 #[.val (.int x0), .val (.int y1), .val (.int (y1 ||| (32 : Int32))), .val (.int y2), .val (.int y3)] [])) _
    refine XS.iconst X1.here hx rfl (hb hby at_71) ?_
    show Steps p.tables e below (T1.setTop (mkF m 72 #[.val (.int x0), .val (.int y1), .val (.int (y1 ||| (32 : Int32))), .val (.int y2), .val (.int y3)] [(.int (1 : Int32))])) _
    refine XS.goto X1.here hx rfl (pc0 := 72) (pc' := 76) rfl (hb hby at_72) (by decide) (by decide) ?_
    show Steps p.tables e below (T1.setTop (mkF m 76 #[.val (.int x0), .val (.int y1), .val (.int (y1 ||| (32 : Int32))), .val (.int y2), .val (.int y3)] [(.int (1 : Int32))])) _
    exact kt
  refine RunsTo.retN X1 hx (t := .boolean) Bd.returns (by simp) Bd.notSynchronized (hb hby at_76) ?_ (by decide) (by decide)
  rw [e1]
  exact ⟨rfl, N1⟩
set_option maxRecDepth 65536 in
set_option maxHeartbeats 40000000 in
theorem comes_1 {Post : Tables → Env → Array Value → State → Outcome → State → Prop} (hpost : ∀ tb e args s v u, (limb_1_1.after args s (.returned v) u = true ∧ limb_1_2.after args s (.returned v) u = true ∧ True) → FrameEnd s (.returned v) u (Jvm.fieldLocs frame_1_writes args s ++ Jvm.arrayLocs frame_1_arrays args s ++ Jvm.staticLocs frame_1_statics s) 0 0 → Post tb e args s (.returned v) u) :
    ArmFor flags0 classFile x code maxLocals ret World_1 tables_1 room_1 Calls_1 rest_1 Pre_1 Post := by
  intro l hfl _ _ p e ha hc hk s m args below hf hA hF happ hP
  obtain ⟨hcalls, hrest, hpre⟩ := hP
  obtain ⟨-, -, -, hnamed, -, -, -, hat⟩ := (Spec.applies_iff hf).mp happ
  obtain ⟨hg, hn⟩ := and_e (Cond.before_iff.mp (show (Jvm.Cond.and given_1 narrow_1).before args s = true from hpre))
  obtain ⟨hcnt, hg0⟩ := and_e hg
  have ha0 := hg0
  obtain ⟨w0, rfl⟩ : ∃ w0 : Value, args = #[w0] := by
    have hs : args.size = 1 := by simpa [Cond.value, given_1] using hcnt
    obtain ⟨L⟩ := args
    match L, hs with
    | [w0], _ => exact ⟨w0, rfl⟩
  have hw := fun d (hd : d ∈ tables_1) => atoms_spec (ws := Jvm.Cond.code x code maxLocals ret :: tables_1) hat d (List.mem_cons_of_mem _ hd)
  have hfit : Fit s := fun {y c} hc i hi => by
    obtain ⟨ha, rfl⟩ := Array.getElem?_eq_some_iff.mp hc
    have q := List.all_eq_true.mp ((Array.all_eq_true_iff_forall_mem.mp hF) _ (Array.getElem_mem ha)) i (List.mem_range.mpr hi)
    simpa [Array.getElem?_eq_getElem hi] using q
  obtain ⟨i0, ei0⟩ := is_v ha0
  obtain rfl : w0 = (.int i0) := Option.some.inj ei0
  obtain ⟨n, o, h1, h2, h3, _, L, rfl, ⟨rfl, N⟩, hq⟩ := rm0 l s _ hw tables_1 i0 s.heap s.heap.size (Nat.le_refl _)  p e ha hc hk s m _ below hf ((Spec.applies_iff_loose hf).mp happ).1 ⟨rfl, State.Warmed39.refl s, rfl⟩ trivial
  refine ⟨n, _, h1, h2, h3, hpost _ _ _ _ _ _ ⟨Cond.after_iff.mpr rfl, Cond.after_iff.mpr (eq_i res_at (Term.int_eval (1)) rfl), trivial⟩ ⟨hq.1, hq.2.1, (hq.2.2.sift fun y hy => Or.inr (N y hy)).mono (by decide) (by decide)⟩⟩
theorem main_1_1 : Claimed_1_1 := comes_1 fun _ _ _ _ _ _ h hF => ⟨h.1, hF⟩
theorem main_1_2 : Claimed_1_2 := comes_1 fun _ _ _ _ _ _ h hF => ⟨h.2.1, hF⟩
end Jvm.Pilot.@@N@@
namespace Jvm.Pilot.@@N@@
open Jvm Jvm.ClassFile Sem Op Lib Jvm.Free Jvm.Stand Jvm.Pilot.@@N@@.Jvm.D
/-! MADE BY PROGRAM (witnessworld.py) out of the Statement's table words and the real class files: 9 classes; the members and pool entries that the words name. The judged class is class 1, her method 1. -/
namespace start1
open Jvm.ClassFile
def u (s : String) : CpInfo := .utf8 (stringToUtf16 s)
/-- a pool by its gaps: so many unusable entries, then the entry; so many at the end -/
def gap : Nat → List CpInfo → List CpInfo
  | 0, r => r
  | n + 1, r => .unusable :: gap n r
def poolList (es : List (Nat × CpInfo)) (last : Nat) : List CpInfo := es.foldr (fun e r => gap e.1 (e.2 :: r)) (gap last [])
def pool (es : List (Nat × CpInfo)) (last : Nat) : Array CpInfo := ⟨poolList es last⟩
def fileOf (pool : Array CpInfo) (this : Nat) (attrs : Array Attribute := #[]) (ms : Array MethodInfo := #[]) (fl : Nat := 33) (sup : Nat := 0) (ifs : Array Nat := #[]) (fds : Array FieldInfo := #[]) : ClassFile where
  minorVersion := 0
  majorVersion := 65
  constantPool := pool
  accessFlags := fl
  thisClass := this
  superClass := sup
  interfaces := ifs
  fields := fds
  methods := ms
  attributes := attrs
def plain (name : String) (sup : Option ClassId) : Class where
  name := name
  kind := .ordinary
  loader := none
  accessFlags := 33
  super := sup
  interfaces := #[]
  cf := none
  fields := #[]
  methods := #[]
  instanceTypes := #[]
  staticTypes := #[]
  resolved := #[]
  callSites := []
  init := .initialized
  statics := none
  mirror := none

def pool0 : Array CpInfo := pool [(5, u "<init>"), (0, u "()V"), (1, .class_ 10), (1, u "java/lang/Object")] 113

def k0m0 : Method := { name := "<init>", desc := "()V", sig := { parameters := [], returnType := none }, accessFlags := 1, code := none }
/-- java/lang/Object -/
def k0 : Class := { plain "java/lang/Object" none with
  accessFlags := 33
  interfaces := #[]
  cf := some (fileOf pool0 8 #[] #[{ accessFlags := 1, nameIndex := 5, descriptorIndex := 6, attributes := #[] }] 33 0 #[] #[])
  fields := #[]
  methods := #[k0m0]
  instanceTypes := #[]
  staticTypes := #[]
  resolved := Array.replicate 124 none
  statics := none }

def pool1 : Array CpInfo := pool [(2, .class_ 4), (1, u "java/lang/Object"), (0, u "<init>"), (0, u "()V"), (0, .integer 65536), (0, .integer 65535), (0, .methodref 10 11), (0, .class_ 12), (0, .nameAndType 13 14), (0, u "com/example/round_table/roundtable/internal/Names"), (0, u "isNameStart"), (0, u "(C)Z"), (0, .class_ 16), (0, u "com/example/round_table/roundtable/internal/NamesIsNameStartPinLaw"), (2, u "law"), (0, u "(I)Z")] 3

def k1m0 : Method := { name := "<init>", desc := "()V", sig := { parameters := [], returnType := none }, accessFlags := 2, code := none }
def k1c1 : Code := { maxStack := 2, maxLocals := 5, code := code, exceptionTable := #[], attributes := #[] }
def k1m1 : Method := { name := "law", desc := "(I)Z", sig := { parameters := [.int], returnType := some .boolean }, accessFlags := 9, code := some k1c1 }
/-- com/example/round_table/roundtable/internal/NamesIsNameStartPinLaw -/
def k1 : Class := { plain "com/example/round_table/roundtable/internal/NamesIsNameStartPinLaw" (some 0) with
  accessFlags := 49
  interfaces := #[]
  cf := some (fileOf pool1 15 #[] #[{ accessFlags := 2, nameIndex := 5, descriptorIndex := 6, attributes := #[] }, { accessFlags := 9, nameIndex := 19, descriptorIndex := 20, attributes := #[] }] 49 2 #[] #[])
  fields := #[]
  methods := #[k1m0, k1m1]
  instanceTypes := #[]
  staticTypes := #[]
  resolved := Array.replicate 24 none
  statics := none }

def pool2 : Array CpInfo := pool [(2, .class_ 4), (1, u "java/lang/Object"), (0, u "<init>"), (0, u "()V"), (1, .class_ 10), (1, u "com/example/round_table/roundtable/internal/Names"), (0, u "isNameStart"), (0, u "(C)Z")] 59

def k2m0 : Method := { name := "<init>", desc := "()V", sig := { parameters := [], returnType := none }, accessFlags := 2, code := none }
def k2c1 : Code := { maxStack := 2, maxLocals := 1, code := prog_102_method_2_code, exceptionTable := #[], attributes := #[] }
def k2m1 : Method := { name := "isNameStart", desc := "(C)Z", sig := { parameters := [.char], returnType := some .boolean }, accessFlags := 9, code := some k2c1 }
/-- com/example/round_table/roundtable/internal/Names -/
def k2 : Class := { plain "com/example/round_table/roundtable/internal/Names" (some 0) with
  accessFlags := 33
  interfaces := #[]
  cf := some (fileOf pool2 8 #[] #[{ accessFlags := 2, nameIndex := 5, descriptorIndex := 6, attributes := #[] }, { accessFlags := 9, nameIndex := 11, descriptorIndex := 12, attributes := #[] }] 33 2 #[] #[])
  fields := #[]
  methods := #[k2m0, k2m1]
  instanceTypes := #[]
  staticTypes := #[]
  resolved := Array.replicate 72 none
  statics := none }

def pool3 : Array CpInfo := pool [(1, u "java/lang/Cloneable"), (0, .class_ 1), (0, u "java/lang/Object"), (0, .class_ 3)] 3

/-- java/lang/Cloneable -/
def k3 : Class := { plain "java/lang/Cloneable" (some 0) with
  accessFlags := 1537
  interfaces := #[]
  cf := some (fileOf pool3 2 #[] #[] 1537 4 #[] #[])
  fields := #[]
  methods := #[]
  instanceTypes := #[]
  staticTypes := #[]
  resolved := Array.replicate 8 none
  statics := none }

def pool4 : Array CpInfo := pool [(1, u "java/io/Serializable"), (0, .class_ 1), (0, u "java/lang/Object"), (0, .class_ 3)] 3

/-- java/io/Serializable -/
def k4 : Class := { plain "java/io/Serializable" (some 0) with
  accessFlags := 1537
  interfaces := #[]
  cf := some (fileOf pool4 2 #[] #[] 1537 4 #[] #[])
  fields := #[]
  methods := #[]
  instanceTypes := #[]
  staticTypes := #[]
  resolved := Array.replicate 8 none
  statics := none }

/-- the primitive byte -/
def k5 : Class := { plain "byte" none with kind := .primitive 'B', accessFlags := 0x411 }
/-- [B -/
def k6 : Class := { plain "[B" (some 0) with kind := .array 5 .byte, interfaces := #[3, 4], accessFlags := 1041 }

/-- the primitive int -/
def k7 : Class := { plain "int" none with kind := .primitive 'I', accessFlags := 0x411 }
/-- [I -/
def k8 : Class := { plain "[I" (some 0) with kind := .array 7 .int, interfaces := #[3, 4], accessFlags := 1041 }

def heap : Heap := #[]
def classes : Array Class := #[k0, k1, k2, k3, k4, k5, k6, k7, k8]
def interned : List (Array UInt16 × Addr) := []
def slotsUsed : Nat := 0
def theMethod : MethodId := ⟨1, 1⟩
def args0 : Array Value := #[.int 7]
def aboutOver (below : List Frame) : State where
  vm := { classes := classes, interned := interned.toArray }
  heap := heap
  slotsUsed := slotsUsed
  threads := #[{ frames := .invoking theMethod args0 :: below }]
def below0 : List Frame := [.native { method := ⟨0, 0⟩, args := #[] }]
def about1 : State := aboutOver below0
def p0 : Program := .bare "" "" ""
def e0 : Env := launch0.env 0 0 0
theorem w_frames : about1.frames = Frame.invoking theMethod args0 :: below0 := rfl
set_option maxRecDepth 65536 in
theorem w_args : argsFit about1.vm theMethod args0 = true := by decide +kernel
set_option maxRecDepth 65536 in
theorem w_heap : heapFits about1 = true := by decide +kernel
set_option maxRecDepth 65536 in
theorem w_runnable : about1.curStatus? = some .runnable := by decide +kernel
set_option maxRecDepth 65536 in
theorem w_alone : about1.alone = true := by decide +kernel
set_option maxRecDepth 65536 in
theorem w_named : about1.methodNamed? x = some theMethod := by decide +kernel
set_option maxRecDepth 65536 in
theorem w_hears : about1.hears theMethod below0 = true := by decide +kernel
set_option maxRecDepth 65536 in
theorem w_ripe : about1.ripe theMethod args0 below0 = true := by decide +kernel
theorem w_running : about1.status = .running := rfl
set_option maxRecDepth 65536 in
theorem w_room : about1.hasRoom e0.platform room_1 = true :=
  launch0.hasRoom_least _ room_1 (by decide +kernel) (by decide +kernel) (by decide +kernel) (by decide +kernel) (by decide +kernel) (by decide +kernel)
theorem allAtoms_all (ts : List Jvm.Cond) (a : Array Jvm.Value) (st : Jvm.State) : (allAtoms ts).before a st = ts.all (fun c => c.before a st) := by
  induction ts with
  | nil => rfl
  | cons c t ih =>
    show (Jvm.Cond.and c (allAtoms t)).before a st = _
    rw [Jvm.Cond.before_and, ih, List.all_cons]
def words1 : List Jvm.Cond := Jvm.Cond.code x code maxLocals ret :: tables_1
/-- a 'code' word, met by the world's own term for the bytes: nothing is compared byte by byte -/
theorem code_word {y : MethodName} {bytes : ByteArray} {mx : Nat} {rt : Option FieldType} {a : Array Value} {s : State} {m : MethodId} {meth : Method} {c : Code} (h1 : s.methodNamed? y = some m) (h2 : s.vm.method? m = some meth) (h3 : meth.code = some c) (h4 : c.code = bytes)
    (h5 : (c.maxLocals == mx && c.exceptionTable.isEmpty && decide (c.maxStack ≤ mostOperands) && decide (meth.sig.returnType = rt) && !meth.locks && decide (parseMethodDescriptor y.desc = some meth.sig)) = true) : (Jvm.Cond.code y bytes mx rt).before a s = true := by
  simp only [Bool.and_eq_true, beq_iff_eq, Bool.not_eq_true', decide_eq_true_eq] at h5
  obtain ⟨⟨⟨⟨⟨g1, g2⟩, g3⟩, g4⟩, g5⟩, g6⟩ := h5
  simp [Cond.before, Cond.holds, Cond.value, h1, h2, h3, h4, g1, g2, g3, g4, g5, g6]
def isCode : Jvm.Cond → Bool
  | .code _ _ _ _ => true
  | _ => false
theorem all_split {L : List Jvm.Cond} {P : Jvm.Cond → Bool} (h1 : L.all (fun c => isCode c || P c) = true) (h2 : ∀ c ∈ L.filter isCode, P c = true) : L.all P = true := by
  refine List.all_eq_true.mpr fun c hc => ?_
  have h := List.all_eq_true.mp h1 c hc
  rcases Bool.eq_false_or_eq_true (isCode c) with hi | hi
  · exact h2 c (List.mem_filter.mpr ⟨hc, hi⟩)
  · simpa [hi] using h
set_option maxRecDepth 65536 in
theorem w_c0 : (Jvm.Cond.code x code maxLocals ret).before args0 about1 = true := code_word (m := ⟨1, 1⟩) (meth := k1m1) (c := k1c1) (by decide +kernel) rfl rfl rfl (by decide +kernel)
set_option maxRecDepth 65536 in
theorem w_c1 : (Jvm.Cond.code ({ cls := "com/example/round_table/roundtable/internal/Names", name := "isNameStart", desc := "(C)Z" } : Jvm.MethodName) prog_102_method_2_code (1 : Nat) (Option.some Jvm.ClassFile.FieldType.boolean)).before args0 about1 = true := code_word (m := ⟨2, 1⟩) (meth := k2m1) (c := k2c1) (by decide +kernel) rfl rfl rfl (by decide +kernel)
def codes1 : List Jvm.Cond := [Jvm.Cond.code x code maxLocals ret, Jvm.Cond.code ({ cls := "com/example/round_table/roundtable/internal/Names", name := "isNameStart", desc := "(C)Z" } : Jvm.MethodName) prog_102_method_2_code (1 : Nat) (Option.some Jvm.ClassFile.FieldType.boolean)]
set_option maxRecDepth 65536 in
theorem codes_eq : words1.filter isCode = codes1 := rfl
theorem w_codes : ∀ c ∈ words1.filter isCode, c.before args0 about1 = true := by
  rw [codes_eq]
  intro c hc
  simp only [codes1, List.mem_cons, List.not_mem_nil, or_false] at hc
  rcases hc with rfl | rfl
  · exact w_c0
  · exact w_c1
set_option maxRecDepth 65536 in
theorem w_t1 : words1.all (fun c => isCode c || c.before args0 about1) = true := by decide +kernel
theorem w_tables : (allAtoms (Jvm.Cond.code x code maxLocals ret :: tables_1)).before args0 about1 = true := by
  rw [allAtoms_all]
  show words1.all (fun c => c.before args0 about1) = true
  refine all_split ?_ w_codes
  rw [w_t1]
set_option maxRecDepth 65536 in
theorem w_case : (Jvm.Cond.and given_1 narrow_1).before args0 about1 = true := by decide +kernel
theorem w_applies : (headSpec (Jvm.Cond.code x code maxLocals ret :: tables_1) room_1).applies x e0.platform about1 = true :=
  (Spec.applies_iff w_frames).mpr ⟨w_running, w_runnable, w_alone, w_named, w_hears, w_ripe, w_room, w_tables⟩
theorem atStart : AtStart classFile x code maxLocals ret World_1 tables_1 room_1 Calls_1 rest_1 Pre_1 launch0 p0 e0 about1 theMethod args0 below0 :=
  ⟨lists_1, trivial, launch0.admits_env _ _ _, launch0.least_env, fairChoices_fair.cas, fairChoices_fair.clock, w_frames, w_args, w_heap, w_applies, trivial, trivial, w_case⟩
end start1
theorem witness_1 : WitnessClaimed_1 := ⟨start1.p0, start1.e0, start1.about1, start1.theMethod, start1.args0, start1.below0, start1.atStart⟩
end Jvm.Pilot.@@N@@
