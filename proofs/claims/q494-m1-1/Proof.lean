import JvmDerived
import JvmDerived.Pilot.@@N@@Statement
import JvmDerived.Pilot.@@N@@Code
set_option linter.unusedVariables false
set_option linter.unusedSimpArgs false
namespace Jvm.RoadKit
open Sem ClassFile Op Lib Jvm.Stand Jvm.Free Jvm.LawKit
section OwnFieldRef
variable {p : Program} {l : Launch} {e : Env} {R : Room} {s : State} {m : MethodId} {args : Array Value} {below : List Frame} {meth : Method} {c : Code} {T : State} {locs : List Loc} {cells slots : Nat} {Z : State} {a0 : Array Value} {h : Heap}
theorem own_ready (X : Stand p l e R s m args below meth c T locs cells slots) (hZ : Z.Warmed39 s.vm) {own O n d : String} {index : Nat} (hown : s.vm.findClass own = some m.cls) (w : (Cond.fieldRef own index O n d).before a0 Z = true)
    {cf : ClassId} {k : Class} {i : Nat} {f : Field} (hf : Z.fieldFound? O n d = some (cf, k, i, f)) : T.vm.fieldReady m.cls index cf f := by
  have hZT : Z.Warmed39 T.vm := wtrans hZ X.warmed
  have hcur : (Z.setVm T.vm).vm.findClass own = some m.cls := by show T.vm.findClass own = _; rw [X.warmed.alike.findClass]; exact hown
  obtain ⟨c', k', i', f', q1, q2⟩ := Cond.fieldRef_spec hcur (Cond.fieldRef_warmed39 hZT w)
  obtain ⟨k'', hi, -⟩ := State.fieldFound?_setVm (s := Z) hZT.alike hf
  cases q1.symm.trans hi
  exact q2
/-- getfield by an entry that is resolved ('fieldRef') -/
theorem getFR (X : Stand p l e R s m args below meth c T locs cells slots) (hx : p.tables.exec = Jvm.exec) (hZ : Z.Warmed39 s.vm) {own O n d : String} {index : Nat} (hown : s.vm.findClass own = some m.cls) (w : (Cond.fieldRef own index O n d).before a0 Z = true)
    (eT : T.heap = h) {a : Addr} {v : Value} (F : Fld Z h a O n d v) {g : JFrame} (hg : g.method = m) {rest : List Value} (hs : g.stack = .ref a :: rest) (hd : decode c.code g.pc = .ok (.getfield index, 3)) : ∃ T', Stand p l e R s m args below meth c T' locs cells slots ∧ T'.heap = h ∧ ∀ target, Steps p.tables e below (T'.setTop { g with pc := g.pc + 3, stack := v :: rest }) target → Steps p.tables e below (T.setTop g) target := by
  obtain ⟨cell, cf, k, i, f, h1, h2, h3, h4, -, -, h7⟩ := F
  exact ⟨T, X, eT, fun target hr => (X.getfieldR hx hg (own_ready X hZ hown w h2) h3 hs (by rw [eT]; exact h1) h4 h7 hd (Steps.refl _)).trans hr⟩
/-- putfield by an entry that is resolved ('fieldRef'), of a field that isn't final -/
theorem putFR (X : Stand p l e R s m args below meth c T locs cells slots) (hx : p.tables.exec = Jvm.exec) (hZ : Z.Warmed39 s.vm) {own O n d C : String} {index kk : Nat} {ty : FieldType} (hown : s.vm.findClass own = some m.cls) (w : (Cond.fieldRef own index O n d).before a0 Z = true)
    (eT : T.heap = h) {a : Addr} {v old : Value} (F : Fld Z h a O n d old) (E : Exa Z h a C) (L : (Cond.lays C O n d).before a0 Z = true) (wi : (Cond.instantiable C kk).before a0 Z = true)
    (hty : parseFieldDescriptor d = some ty) (hn : narrow ty v = v) (hf : fits ty v = true) {g : JFrame} (hg : g.method = m) {rest : List Value} (hs : g.stack = v :: .ref a :: rest) (hd : decode c.code g.pc = .ok (.putfield index, 3)) :
    ∃ T' h', Stand p l e R s m args below meth c T' (locs ++ [⟨a, slotOf Z O n d⟩]) cells slots ∧ T'.heap = h' ∧ Wr h h' a (slotOf Z O n d) v ∧ ∀ target, Steps p.tables e below (T'.setTop { g with pc := g.pc + 3, stack := rest }) target → Steps p.tables e below (T.setTop g) target := by
  obtain ⟨cell, cf, k, i, f, h1, h2, h3, h4, h5, -, h7⟩ := F
  obtain ⟨cell', kc, g1, g2, g3, -, -⟩ := E
  obtain rfl : cell = cell' := Option.some.inj (h1.symm.trans g1)
  obtain ⟨cl, kl, cfl, kfl, il, fl, a1, a2, a3, -, hfin, -, a6, -⟩ := Cond.lays_spec L
  obtain ⟨rfl, rfl, rfl, rfl⟩ : cf = cfl ∧ k = kfl ∧ i = il ∧ f = fl := by simpa using h2.symm.trans a3
  obtain rfl : cell.cls = cl := Option.some.inj (g2.symm.trans a1)
  obtain rfl : kc = kl := Option.some.inj (g3.symm.trans a2)
  obtain ⟨c2, k2, i1, i2, i3, -⟩ := Cond.instantiable_spec wi
  obtain rfl : cell.cls = c2 := Option.some.inj (g2.symm.trans i1)
  obtain rfl : kc = k2 := Option.some.inj (g3.symm.trans i2)
  have ht : f.type = ty := (State.fieldFound?_type h2 hty).2
  have hslot : Z.slotType? cell.cls cell.vm f.slot = some ty := by
    unfold State.slotType?
    rw [g3]
    simp only [Option.bind_eq_bind, Option.bind_some, i3]
    cases hq : cell.vm <;> first | (rw [hq] at h5; exact Bool.noConfusion h5) | (rw [a6, ht])
  have hZfit : Z.fitsSlot cell.cls cell.vm f.slot v = true := by simp [State.fitsSlot, hslot, hf]
  have hTfit : T.fitsSlot cell.cls cell.vm f.slot v = true := by
    have q : T.fitsSlot = Z.fitsSlot := by rw [← State.fitsSlot_setVm (wtrans hZ X.warmed).alike]; rfl
    rw [q]; exact hZfit
  have hlt := (Array.getElem?_eq_some_iff.mp h7).1
  have es : slotOf Z O n d = f.slot := by simp [slotOf, h2]
  rw [es]
  obtain ⟨X', st⟩ := X.putfieldReady hx (own_ready X hZ hown w h2) h3 (Or.inl hfin) (by rw [eT]; exact h1) h4 hlt (by rw [ht]; exact hn) hTfit hg hs hd
  exact ⟨_, _, X', rfl, ⟨cell, h1, h5, hlt, by rw [← eT]; rfl⟩, st⟩
end OwnFieldRef
end Jvm.RoadKit
namespace Jvm.RoadKit
open Sem ClassFile Op Lib Jvm.Stand Jvm.Free Jvm.LawKit
section OwnEnds
variable {p : Program} {l : Launch} {e : Env} {R : Room} {s : State} {m : MethodId} {args : Array Value} {below : List Frame} {meth : Method} {c : Code} {T T' : State} {locs : List Loc} {cells slots : Nat} {g g' : JFrame} {Q : Option Value → Heap → List Loc → Prop} {C N : Nat}
/-- from here (the state T, the frame g on top) the run ends, and what it leaves is Q -/
def RunsTo (p : Program) (e : Env) (below : List Frame) (s T : State) (g : JFrame) (Q : Option Value → Heap → List Loc → Prop) (C N : Nat) : Prop :=
  ∃ U o, Steps p.tables e below (T.setTop g) U ∧ U.status = .running ∧ Ended U below o ∧ ∃ v L, o = .returned v ∧ Q v U.heap L ∧ FrameEnd s o U L C N
theorem RunsTo.of (k : ∀ t, Steps p.tables e below (T'.setTop g') t → Steps p.tables e below (T.setTop g) t) (h : RunsTo p e below s T' g' Q C N) : RunsTo p e below s T g Q C N := by
  obtain ⟨U, o, k1, r⟩ := h
  exact ⟨U, o, k U k1, r⟩
theorem RunsTo.start (q : g = g') (h : RunsTo p e below s T g' Q C N) : ∃ U o, Steps p.tables e below (T.setTop g) U ∧ U.status = .running ∧ Ended U below o ∧ ∃ v L, o = .returned v ∧ Q v U.heap L ∧ FrameEnd s o U L C N := by
  subst q; exact h
theorem RunsTo.leave (X : Stand p l e R s m args below meth c T locs cells slots) {v : Option Value} (hv : meth.sig.returnType = none → v = none) (hlocks : meth.locks = false) (hq : Q v T.heap locs) (hC : cells ≤ C) (hN : slots ≤ N)
    (k : ∀ fs, (∀ (f : JFrame) (acts : List Action), f.method = m → f.locked = none → f.entered = [] → (doReturn e (T.setTop f) acts v).1 = T.setFrames fs) → Steps p.tables e below (T.setTop g) (T.setFrames fs)) : RunsTo p e below s T g Q C N := by
  obtain ⟨fs, hr, hrun, hended, hW, hsame⟩ := X.leave (v := v) hv hlocks
  exact ⟨_, _, k fs hr, hrun, hended, v, _, rfl, hq, ⟨_, rfl⟩, hW, hsame.mono hC hN⟩
theorem RunsTo.retI (X : Stand p l e R s m args below meth c T locs cells slots) (hx : p.tables.exec = Jvm.exec) {pc : Nat} {Ls : Array Slot} {z : Int32} {rest : List Value} (hret : meth.sig.returnType = some .int) (hlocks : meth.locks = false) (hd : decode c.code pc = .ok (.ireturn, 1)) (hq : Q (some (.int z)) T.heap locs) (hC : cells ≤ C) (hN : slots ≤ N) :
    RunsTo p e below s T (mkF m pc Ls (.int z :: rest)) Q C N := by
  refine RunsTo.leave X (fun h => by rw [hret] at h; cases h) hlocks hq hC hN fun fs hl => ?_
  have hm' : T.vm.method? m = some meth := X.method'
  have hn : narrow .int (.int z) = .int z := rfl
  show Steps p.tables e below (T.setTop { method := m, pc := pc, locals := Ls, stack := _ :: rest, locked := none }) _
  jvm_step X.here [X.here.top, hx, hd, hm', hret, hn]
  first | (intro acts; rw [hl _ acts rfl rfl rfl]) | rw [hl _ _ rfl rfl rfl]
  exact Steps.refl _
theorem RunsTo.retJ (X : Stand p l e R s m args below meth c T locs cells slots) (hx : p.tables.exec = Jvm.exec) {pc : Nat} {Ls : Array Slot} {z : Int64} {rest : List Value} (hret : meth.sig.returnType = some .long) (hlocks : meth.locks = false) (hd : decode c.code pc = .ok (.lreturn, 1)) (hq : Q (some (.long z)) T.heap locs) (hC : cells ≤ C) (hN : slots ≤ N) :
    RunsTo p e below s T (mkF m pc Ls (.long z :: rest)) Q C N := by
  refine RunsTo.leave X (fun h => by rw [hret] at h; cases h) hlocks hq hC hN fun fs hl => ?_
  have hm' : T.vm.method? m = some meth := X.method'
  show Steps p.tables e below (T.setTop { method := m, pc := pc, locals := Ls, stack := _ :: rest, locked := none }) _
  jvm_step X.here [X.here.top, hx, hd, hm', hret, narrow]
  first | (intro acts; rw [hl _ acts rfl rfl rfl]) | rw [hl _ _ rfl rfl rfl]
  exact Steps.refl _
theorem RunsTo.retA (X : Stand p l e R s m args below meth c T locs cells slots) (hx : p.tables.exec = Jvm.exec) {pc : Nat} {Ls : Array Slot} {z : Value} {ty : FieldType} (hret : meth.sig.returnType = some ty) (hty : ty.isReference = true) (hz : z.isRef = true) (hlocks : meth.locks = false) (hd : decode c.code pc = .ok (.areturn, 1)) (hq : Q (some z) T.heap locs) (hC : cells ≤ C) (hN : slots ≤ N) :
    RunsTo p e below s T (mkF m pc Ls [z]) Q C N :=
  RunsTo.leave X (fun h => by rw [hret] at h; cases h) hlocks hq hC hN fun fs hl => X.areturnOut hx hz hret hty hd hl
theorem RunsTo.retN (X : Stand p l e R s m args below meth c T locs cells slots) (hx : p.tables.exec = Jvm.exec) {pc : Nat} {Ls : Array Slot} {z : Int32} {t : FieldType} {rest : List Value} (hret : meth.sig.returnType = some t) (ht : t = .boolean ∨ t = .byte ∨ t = .char ∨ t = .short) (hlocks : meth.locks = false) (hd : decode c.code pc = .ok (.ireturn, 1)) (hq : Q (some (.int (nar t z))) T.heap locs) (hC : cells ≤ C) (hN : slots ≤ N) :
    RunsTo p e below s T (mkF m pc Ls (.int z :: rest)) Q C N :=
  RunsTo.leave X (fun h => by rw [hret] at h; cases h) hlocks hq hC hN fun fs hl => Jvm.RoadKit.retN X hx hret ht hd hl
theorem RunsTo.retV (X : Stand p l e R s m args below meth c T locs cells slots) (hx : p.tables.exec = Jvm.exec) {pc : Nat} {Ls : Array Slot} (hret : meth.sig.returnType = none) (hlocks : meth.locks = false) (hd : decode c.code pc = .ok (.return_, 1)) (hq : Q none T.heap locs) (hC : cells ≤ C) (hN : slots ≤ N) :
    RunsTo p e below s T (mkF m pc Ls []) Q C N :=
  RunsTo.leave X (fun _ => rfl) hlocks hq hC hN fun fs hl => X.returnOut hx hret hd hl
end OwnEnds
theorem nar_ref (ty : FieldType) {v : Value} (hv : v.isRef = true) : narrow ty v = v := by rcases ref_cases hv with rfl | ⟨a, rfl⟩ <;> cases ty <;> rfl
theorem fits_ref' {ty : FieldType} {v : Value} (h : ty.isReference = true) (hv : v.isRef = true) : fits ty v = true := by rcases ref_cases hv with rfl | ⟨a, rfl⟩ <;> cases ty <;> simp_all [fits, FieldType.isReference]
section OwnArf
variable {Z : State} {h h' : Heap} {a b : Addr} {c : Cell} {k : ClassId} {ty : FieldType} {z j : Int32} {f f' : Nat → Value} {v : Value} {sl : Nat} {ws : List Addr}
/-- an array: its kind, its length z, and what each place holds -/
def Arf (Z : State) (h : Heap) (a : Addr) (ty : FieldType) (z : Int32) (f : Nat → Value) : Prop := ∃ c : Cell, Arr Z h a c ty ∧ c.slots.size = z.toNatClampNeg ∧ ¬ z < 0 ∧ ∀ j, j < c.slots.size → c.slots[j]? = some (f j)
theorem Arf.lt (F : Arf Z h a ty z f) : a < h.size := by obtain ⟨c, A, -⟩ := F; exact A.lt
theorem Arf.ext (F : Arf Z h a ty z f) (E : Ext h h') : Arf Z h' a ty z f := by obtain ⟨c, A, r⟩ := F; exact ⟨c, A.ext E, r⟩
theorem Arf.other (F : Arf Z h b ty z f) (W : Wr h h' a sl v) (q : b ≠ a) : Arf Z h' b ty z f := by obtain ⟨c, A, r⟩ := F; exact ⟨c, A.other W q, r⟩
theorem Arf.keep (F : Arf Z h a ty z f) (K : Keep h h' ws) (q : a ∉ ws) : Arf Z h' a ty z f := by obtain ⟨c, A, r⟩ := F; exact ⟨c, ⟨K.2.1 a c A.1 q, A.2⟩, r⟩
theorem Arf.new (A : Arr Z h a (newA k ty z) ty) (q : ¬ z < 0) : Arf Z h a ty z (fun _ => defaultValue ty) := ⟨_, A, sz_new _ _ _, q, fun i hi => by rw [sz_new] at hi; simp [newA, hi]⟩
theorem Arf.congr (F : Arf Z h a ty z f) (q : ∀ i, i < z.toNatClampNeg → f i = f' i) : Arf Z h a ty z f' := by
  obtain ⟨c, A, S, M, H⟩ := F
  exact ⟨c, A, S, M, fun i hi => by rw [← q i (S ▸ hi)]; exact H i hi⟩
theorem Arf.set (A : Arr Z h a c ty) (S : c.slots.size = z.toNatClampNeg) (M : ¬ z < 0) (H : ∀ i, i < c.slots.size → c.slots[i]? = some (f i)) (W : Wr h h' a j.toNatClampNeg v) : Arf Z h' a ty z (fun i => if i = j.toNatClampNeg then v else f i) := by
  refine ⟨_, A.same W, by rw [sz_set]; exact S, M, fun i hi => ?_⟩
  rw [sz_set] at hi
  by_cases u : i = j.toNatClampNeg
  · subst u
    simp [Cell.setSlot, hi]
  · have : (c.setSlot j.toNatClampNeg v).slots[i]? = c.slots[i]? := by
      simp only [Cell.setSlot]; exact Array.getElem?_setIfInBounds_ne (Ne.symm u)
    rw [this]; show _ = some (if i = j.toNatClampNeg then v else f i); rw [if_neg u]; exact H i hi
end OwnArf
end Jvm.RoadKit
namespace Jvm.Pilot.@@N@@
open Jvm Jvm.ClassFile Sem Op Lib Jvm.Free Jvm.Stand Jvm.LawKit Jvm.RoadKit Bundle Jvm.Pilot.@@N@@.Jvm.D
/-! numbers -/
def own_min (x y : Int64) : Int64 := if y < x then y else x
theorem own_big : ∀ k : Fin 63, 3 ≤ k.val → 8 ≤ ((1 : Int64) <<< ((Int32.ofInt (k.val : Int)) &&& 0x3f).toInt64).toInt ∧ ((1 : Int64) <<< ((Int32.ofInt (k.val : Int)) &&& 0x3f).toInt64).toInt ≤ 4611686018427387904 ∧ 2 ≤ ((1 : Int64) <<< ((Int32.ofInt (k.val : Int) / 2) &&& 0x3f).toInt64).toInt := by decide +kernel
theorem own_bits (x : Int32) (h : 3 ≤ x.toInt ∧ x.toInt ≤ 62) : 8 ≤ ((1 : Int64) <<< (x &&& 0x3f).toInt64).toInt ∧ ((1 : Int64) <<< (x &&& 0x3f).toInt64).toInt ≤ 4611686018427387904 ∧ 2 ≤ ((1 : Int64) <<< ((x / 2) &&& 0x3f).toInt64).toInt := by
  have e : x = Int32.ofInt (((⟨x.toInt.toNat, by omega⟩ : Fin 63).val : Nat) : Int) := by
    show x = Int32.ofInt ((x.toInt.toNat : Nat) : Int)
    rw [Int.toNat_of_nonneg (by omega), Int32.ofInt_toInt]
  have k := own_big ⟨x.toInt.toNat, by omega⟩ (by show 3 ≤ x.toInt.toNat; omega)
  rw [← e] at k
  exact k
theorem own_sixty (x : Int32) : 3 ≤ (3 + (x &&& 2147483647) % 60).toInt ∧ (3 + (x &&& 2147483647) % 60).toInt ≤ 62 := by
  have h := c_mask x 2147483647 31 (by decide) (by decide)
  have h' := (c_irem (x &&& 2147483647) 60 60 rfl).1 (by omega)
  have h2 := c_iadd 3 ((x &&& 2147483647) % 60)
  have h3 := rng32 (3 + (x &&& 2147483647) % 60)
  rw [show (3 : Int32).toInt = 3 from rfl] at h2
  omega
theorem own_n3 (x : Int32) : 1 + (x &&& 2147483647) % 3 = 1 ∨ 1 + (x &&& 2147483647) % 3 = 2 ∨ 1 + (x &&& 2147483647) % 3 = 3 := by
  have h := c_mask x 2147483647 31 (by decide) (by decide)
  have h' := (c_irem (x &&& 2147483647) 3 3 rfl).1 (by omega)
  have h2 := c_iadd 1 ((x &&& 2147483647) % 3)
  have h3 := rng32 (1 + (x &&& 2147483647) % 3)
  rw [show (1 : Int32).toInt = 1 from rfl] at h2
  rw [← Int32.toInt_inj, ← Int32.toInt_inj, ← Int32.toInt_inj]
  simp only [show (1 : Int32).toInt = 1 from rfl, show (2 : Int32).toInt = 2 from rfl, show (3 : Int32).toInt = 3 from rfl]
  omega
theorem own_k1 (x : Int32) : (x &&& 2147483647) % 1 = 0 := by
  have h := c_mask x 2147483647 31 (by decide) (by decide)
  have h' := (c_irem (x &&& 2147483647) 1 1 rfl).1 (by omega)
  rw [← Int32.toInt_inj, show (0 : Int32).toInt = 0 from rfl]; omega
theorem own_k2 (x : Int32) : (x &&& 2147483647) % 2 = 0 ∨ (x &&& 2147483647) % 2 = 1 := by
  have h := c_mask x 2147483647 31 (by decide) (by decide)
  have h' := (c_irem (x &&& 2147483647) 2 2 rfl).1 (by omega)
  rw [← Int32.toInt_inj, ← Int32.toInt_inj]
  simp only [show (1 : Int32).toInt = 1 from rfl, show (0 : Int32).toInt = 0 from rfl]
  omega
theorem own_k3 (x : Int32) : (x &&& 2147483647) % 3 = 0 ∨ (x &&& 2147483647) % 3 = 1 ∨ (x &&& 2147483647) % 3 = 2 := by
  have h := c_mask x 2147483647 31 (by decide) (by decide)
  have h' := (c_irem (x &&& 2147483647) 3 3 rfl).1 (by omega)
  rw [← Int32.toInt_inj, ← Int32.toInt_inj, ← Int32.toInt_inj]
  simp only [show (1 : Int32).toInt = 1 from rfl, show (2 : Int32).toInt = 2 from rfl, show (0 : Int32).toInt = 0 from rfl]
  omega
theorem own_lt64 {x y : Int64} (h : x.toInt < y.toInt) : x < y := Int64.lt_iff_toInt_lt.mpr h
/-- the room between R and lb, and the label put there -/
theorem own_room (R lb : Int64) (h0 : 0 ≤ lb.toInt) (h1 : lb.toInt ≤ R.toInt) : (R - lb).toInt = R.toInt - lb.toInt := by
  have a := c_lsub R lb
  have b := rng64 (R - lb)
  have d := rng64 R
  omega
theorem own_label (R lb eg : Int64) (h0 : 0 ≤ lb.toInt) (h1 : lb.toInt + 2 ≤ R.toInt) (hR : R.toInt ≤ 4611686018427387904) (he : 2 ≤ eg.toInt) :
    lb.toInt + 1 ≤ (lb + own_min eg ((R - lb) / 2)).toInt ∧ (4 ≤ R.toInt - lb.toInt → lb.toInt + 2 ≤ (lb + own_min eg ((R - lb) / 2)).toInt) ∧ R.toInt - lb.toInt ≤ 2 * (R.toInt - (lb + own_min eg ((R - lb) / 2)).toInt) := by
  have hr := own_room R lb h0 (by omega)
  have hd := (c_ldiv (R - lb) 2 2 rfl (by decide)).1 (by omega)
  have hm : (own_min eg ((R - lb) / 2)).toInt = min eg.toInt ((R - lb) / 2).toInt := by
    unfold own_min; split
    · rename_i q; rw [Int64.lt_iff_toInt_lt] at q; omega
    · rename_i q; rw [Int64.lt_iff_toInt_lt] at q; omega
  have ha := c_ladd lb (own_min eg ((R - lb) / 2))
  have hb := rng64 (lb + own_min eg ((R - lb) / 2))
  generalize (lb + own_min eg ((R - lb) / 2)).toInt = L at *
  generalize (own_min eg ((R - lb) / 2)).toInt = M at *
  generalize ((R - lb) / 2).toInt = D at *
  generalize (R - lb).toInt = RM at *
  omega
theorem d3_0 : decode prog_61_method_1_code 0 = .ok (.aload_n 0, 1) := by decide +kernel
theorem d3_1 : decode prog_61_method_1_code 1 = .ok (.invokespecial 1, 3) := by decide +kernel
theorem d3_4 : decode prog_61_method_1_code 4 = .ok (.return_, 1) := by decide +kernel
theorem pn_0 : plainName "com/example/round_table/roundtable/engine/OrderList$Entry" = true := by first | (simp [plainName, overriddenIn]; done) | decide +kernel
theorem ef_rm3 (m : MethodId) (x0 : Addr) : entryFrame m #[(.ref x0)] 1 = mkF m 0 #[.val (.ref x0)] [] := by first | (simp [entryFrame, mkF, argsToLocals, Value.category]; done) | rfl
def Q3 (Z : State) (b : Addr) (h0 : Heap) (n0 : Nat) (v : Option Value) (h : Heap) (L : List Loc) : Prop := v = none ∧ Fr n0 L ∧ h = h0
set_option maxRecDepth 65536 in
set_option maxHeartbeats 40000000 in
theorem rm3 (l : Launch) (Z : State) (a0 : Array Value) (hw : ∀ d ∈ tables_1, d.before a0 Z = true) (ws : List Jvm.Cond) (b : Addr) (h0 : Heap) (n0 : Nat) (Z0 : n0 ≤ h0.size)  :
    MetFree l (⟨"com/example/round_table/roundtable/engine/OrderList$Entry", "<init>", "()V"⟩ : MethodName) (head1 (Jvm.Cond.code (⟨"com/example/round_table/roundtable/engine/OrderList$Entry", "<init>", "()V"⟩ : MethodName) prog_61_method_1_code 1 none :: ws) ({ frames := 1, cells := 0, slots := 0, locals := 12 } : Room)) (fun as' U => as' = #[(.ref b)] ∧ Z.Warmed39 U.vm ∧ U.heap = h0) (fun _ _ _ _ _ => True) (fun _ U_ o_ U'_ => ∃ v_ L_, o_ = .returned v_ ∧ Q3 Z b h0 n0 v_ U'_.heap L_ ∧ FrameEnd U_ o_ U'_ L_ ({ frames := 1, cells := 0, slots := 0, locals := 12 } : Room).cells ({ frames := 1, cells := 0, slots := 0, locals := 12 } : Room).slots) := by
  refine MetFree.of_bodySF (plainFor_of_name pn_0) hisR ?_
  intro p e s m args below meth c s₁ Bd hml0 hP hK
  obtain ⟨rfl, hZ, hh⟩ := hP
  have hx := Bd.exec
  have hby := Bd.bytes
  have hml : c.maxLocals = 1 := hml0
  have hown : s.vm.findClass "com/example/round_table/roundtable/engine/OrderList$Entry" = some m.cls := findClass_of_methodNamed Bd.named
  have hnm := (name_of_methodNamed Bd.named Bd.method).1
  have X0 : Stand p l e ({ frames := 1, cells := 0, slots := 0, locals := 12 } : Room) s m #[(.ref b)] below meth c s₁ [] 0 0 := Stand.of_body Bd
  have e0 : s₁.heap = h0 := by rw [← hh, Bd.state]; rfl
  have N0 := Fr.nil n0
  refine RunsTo.start (ef_rm3 m b) ?_
  show RunsTo p e below s s₁ (mkF m 0 #[.val (.ref b)] []) (Q3 Z b h0 n0) ({ frames := 1, cells := 0, slots := 0, locals := 12 } : Room).cells ({ frames := 1, cells := 0, slots := 0, locals := 12 } : Room).slots
  refine RunsTo.of (T' := s₁) (g' := (mkF m 1 #[.val (.ref b)] [(.ref b)])) (fun tgt_ kt => ?_) ?_
  · refine XS.aloadN X0.here hx rfl (hb hby d3_0) rfl rfl ?_
    show Steps p.tables e below (s₁.setTop (mkF m 1 #[.val (.ref b)] [(.ref b)])) _
    exact kt
  obtain ⟨T1, X1, e1, st1⟩ := initO X0 hx hZ hown (hw _ (List.mem_of_getElem? (i := 16) rfl)) (hw _ (List.mem_of_getElem? (i := 8) rfl)) (hw _ (List.mem_of_getElem? (i := 9) rfl)) e0 (g := (mkF m 1 #[.val (.ref b)] [(.ref b)])) rfl (by rw [hml]; rfl) rfl (hb hby d3_1) (by decide) (W := 0) (by show 2 * 0 + _ ≤ _; exact Nat.le_of_eq rfl) (by decide)
  refine RunsTo.of (T' := T1) (g' := (mkF m 4 #[.val (.ref b)] [])) st1 ?_
  refine RunsTo.retV X1 hx Bd.returns Bd.notSynchronized (hb hby d3_4) ?_ (by decide) (by decide)
  rw [e1]
  exact ⟨rfl, N0, rfl⟩
theorem d7_0 : decode jdk_29_method_70_code 0 = .ok (.lload_n 0, 1) := by decide +kernel
theorem d7_1 : decode jdk_29_method_70_code 1 = .ok (.lload_n 2, 1) := by decide +kernel
theorem d7_2 : decode jdk_29_method_70_code 2 = .ok (.lcmp, 1) := by decide +kernel
theorem d7_3 : decode jdk_29_method_70_code 3 = .ok (.ifCond .gt 7, 3) := by decide +kernel
theorem d7_10 : decode jdk_29_method_70_code 10 = .ok (.lload_n 2, 1) := by decide +kernel
theorem d7_6 : decode jdk_29_method_70_code 6 = .ok (.lload_n 0, 1) := by decide +kernel
theorem d7_7 : decode jdk_29_method_70_code 7 = .ok (.goto 4, 3) := by decide +kernel
theorem d7_11 : decode jdk_29_method_70_code 11 = .ok (.lreturn, 1) := by decide +kernel
theorem ef_rm7 (m : MethodId) (x0 : Int64) (x1 : Int64) : entryFrame m #[(.long x0), (.long x1)] 4 = mkF m 0 #[.val (.long x0), .second, .val (.long x1), .second] [] := by first | (simp [entryFrame, mkF, argsToLocals, Value.category]; done) | rfl
def Q7 (Z : State) (x0 : Int64) (x1 : Int64) (h0 : Heap) (n0 : Nat) (v : Option Value) (h : Heap) (L : List Loc) : Prop := v = some (.long (own_min x0 x1)) ∧ Fr n0 L ∧ h = h0
set_option maxRecDepth 65536 in
set_option maxHeartbeats 40000000 in
theorem rm7 (l : Launch) (Z : State) (a0 : Array Value) (hw : ∀ d ∈ tables_1, d.before a0 Z = true) (ws : List Jvm.Cond) (x0 : Int64) (x1 : Int64) (h0 : Heap) (n0 : Nat) (Z0 : n0 ≤ h0.size)  :
    MetFree l (⟨"java/lang/Math", "min", "(JJ)J"⟩ : MethodName) (head1 (Jvm.Cond.code (⟨"java/lang/Math", "min", "(JJ)J"⟩ : MethodName) jdk_29_method_70_code 4 (some .long) :: ws) ({ frames := 0, cells := 0, slots := 0, locals := 0 } : Room)) (fun as' U => as' = #[(.long x0), (.long x1)] ∧ Z.Warmed39 U.vm ∧ U.heap = h0) (fun _ _ _ _ _ => True) (fun _ U_ o_ U'_ => ∃ v_ L_, o_ = .returned v_ ∧ Q7 Z x0 x1 h0 n0 v_ U'_.heap L_ ∧ FrameEnd U_ o_ U'_ L_ ({ frames := 0, cells := 0, slots := 0, locals := 0 } : Room).cells ({ frames := 0, cells := 0, slots := 0, locals := 0 } : Room).slots) := by
  refine MetFree.of_bodySF (Jvm.Free.JP.mathPlain rfl (by decide +kernel)) hisR ?_
  intro p e s m args below meth c s₁ Bd hml0 hP hK
  obtain ⟨rfl, hZ, hh⟩ := hP
  have hx := Bd.exec
  have hby := Bd.bytes
  have hml : c.maxLocals = 4 := hml0
  have hown : s.vm.findClass "java/lang/Math" = some m.cls := findClass_of_methodNamed Bd.named
  have hnm := (name_of_methodNamed Bd.named Bd.method).1
  have X0 : Stand p l e ({ frames := 0, cells := 0, slots := 0, locals := 0 } : Room) s m #[(.long x0), (.long x1)] below meth c s₁ [] 0 0 := Stand.of_body Bd
  have e0 : s₁.heap = h0 := by rw [← hh, Bd.state]; rfl
  have N0 := Fr.nil n0
  refine RunsTo.start (ef_rm7 m x0 x1) ?_
  show RunsTo p e below s s₁ (mkF m 0 #[.val (.long x0), .second, .val (.long x1), .second] []) (Q7 Z x0 x1 h0 n0) ({ frames := 0, cells := 0, slots := 0, locals := 0 } : Room).cells ({ frames := 0, cells := 0, slots := 0, locals := 0 } : Room).slots
  refine RunsTo.of (T' := s₁) (g' := (mkF m 3 #[.val (.long x0), .second, .val (.long x1), .second] [(.int (lcmpW x0 x1))])) (fun tgt_ kt => ?_) ?_
  · refine XS.lloadN X0.here hx rfl (hb hby d7_0) rfl ?_
    show Steps p.tables e below (s₁.setTop (mkF m 1 #[.val (.long x0), .second, .val (.long x1), .second] [(.long x0)])) _
    refine XS.lloadN X0.here hx rfl (hb hby d7_1) rfl ?_
    show Steps p.tables e below (s₁.setTop (mkF m 2 #[.val (.long x0), .second, .val (.long x1), .second] [(.long x1), (.long x0)])) _
    refine XS.lcmp X0.here hx rfl (hb hby d7_2) rfl ?_
    show Steps p.tables e below (s₁.setTop (mkF m 3 #[.val (.long x0), .second, .val (.long x1), .second] [(.int (lcmpW x0 x1))])) _
    exact kt
  obtain ⟨y, hy⟩ : ∃ z : Int64, z = (if x1 < x0 then x1 else x0) := ⟨_, rfl⟩
  refine RunsTo.of (T' := s₁) (g' := (mkF m 11 #[.val (.long x0), .second, .val (.long x1), .second] [(.long y)])) (fun tgt_ kt => ?_) ?_
  · by_cases hc3 : x1 < x0
    · refine XS.ifYes X0.here hx rfl (pc0 := 3) (pc' := 10) rfl (hb hby d7_3) rfl ((if0 _ _).trans (tlt ((lw_gt x0 x1).mpr hc3)).2.2.1) (by decide) (by decide) ?_
      show Steps p.tables e below (s₁.setTop (mkF m 10 #[.val (.long x0), .second, .val (.long x1), .second] [])) _
      try rw [if_pos hc3] at hy
      rw [hy] at kt
      refine XS.lloadN X0.here hx rfl (hb hby d7_10) rfl ?_
      show Steps p.tables e below (s₁.setTop (mkF m 11 #[.val (.long x0), .second, .val (.long x1), .second] [(.long x1)])) _
      exact kt
    · refine XS.ifNo X0.here hx rfl (hb hby d7_3) rfl ((if0 _ _).trans (flt (fun q => hc3 ((lw_gt x0 x1).mp q))).2.2.1) ?_
      show Steps p.tables e below (s₁.setTop (mkF m 6 #[.val (.long x0), .second, .val (.long x1), .second] [])) _
      try rw [if_neg hc3] at hy
      rw [hy] at kt
      refine XS.lloadN X0.here hx rfl (hb hby d7_6) rfl ?_
      show Steps p.tables e below (s₁.setTop (mkF m 7 #[.val (.long x0), .second, .val (.long x1), .second] [(.long x0)])) _
      refine XS.goto X0.here hx rfl (pc0 := 7) (pc' := 11) rfl (hb hby d7_7) (by decide) (by decide) ?_
      show Steps p.tables e below (s₁.setTop (mkF m 11 #[.val (.long x0), .second, .val (.long x1), .second] [(.long x0)])) _
      exact kt
  refine RunsTo.retJ X0 hx Bd.returns Bd.notSynchronized (hb hby d7_11) ?_ (by decide) (by decide)
  rw [e0, hy]
  exact ⟨rfl, N0, rfl⟩
theorem d1_0 : decode prog_60_method_1_code 0 = .ok (.aload_n 0, 1) := by decide +kernel
theorem d1_1 : decode prog_60_method_1_code 1 = .ok (.invokespecial 1, 3) := by decide +kernel
theorem d1_4 : decode prog_60_method_1_code 4 = .ok (.aload_n 0, 1) := by decide +kernel
theorem d1_5 : decode prog_60_method_1_code 5 = .ok (.new 7, 3) := by decide +kernel
theorem d1_8 : decode prog_60_method_1_code 8 = .ok (.dup, 1) := by decide +kernel
theorem pd_0 : parseMethodDescriptor "()V" = some ⟨[], none⟩ := by decide +kernel
theorem d1_9 : decode prog_60_method_1_code 9 = .ok (.invokespecial 9, 3) := by decide +kernel
theorem d1_12 : decode prog_60_method_1_code 12 = .ok (.putfield 10, 3) := by decide +kernel
theorem d1_15 : decode prog_60_method_1_code 15 = .ok (.aload_n 0, 1) := by decide +kernel
theorem d1_16 : decode prog_60_method_1_code 16 = .ok (.aload_n 0, 1) := by decide +kernel
theorem d1_17 : decode prog_60_method_1_code 17 = .ok (.getfield 10, 3) := by decide +kernel
theorem d1_20 : decode prog_60_method_1_code 20 = .ok (.putfield 16, 3) := by decide +kernel
theorem d1_23 : decode prog_60_method_1_code 23 = .ok (.iload_n 1, 1) := by decide +kernel
theorem d1_24 : decode prog_60_method_1_code 24 = .ok (.iconst 2, 1) := by decide +kernel
theorem d1_25 : decode prog_60_method_1_code 25 = .ok (.if_icmp .lt 9, 3) := by decide +kernel
theorem d1_28 : decode prog_60_method_1_code 28 = .ok (.iload_n 1, 1) := by decide +kernel
theorem d1_29 : decode prog_60_method_1_code 29 = .ok (.bipush 62, 2) := by decide +kernel
theorem d1_31 : decode prog_60_method_1_code 31 = .ok (.if_icmp .le 17, 3) := by decide +kernel
theorem d1_48 : decode prog_60_method_1_code 48 = .ok (.aload_n 0, 1) := by decide +kernel
theorem d1_49 : decode prog_60_method_1_code 49 = .ok (.iload_n 1, 1) := by decide +kernel
theorem d1_50 : decode prog_60_method_1_code 50 = .ok (.putfield 28, 3) := by decide +kernel
theorem d1_53 : decode prog_60_method_1_code 53 = .ok (.aload_n 0, 1) := by decide +kernel
theorem d1_54 : decode prog_60_method_1_code 54 = .ok (.lconst 1, 1) := by decide +kernel
theorem d1_55 : decode prog_60_method_1_code 55 = .ok (.iload_n 1, 1) := by decide +kernel
theorem d1_56 : decode prog_60_method_1_code 56 = .ok (.iconst 2, 1) := by decide +kernel
theorem d1_57 : decode prog_60_method_1_code 57 = .ok (.idiv, 1) := by decide +kernel
theorem d1_58 : decode prog_60_method_1_code 58 = .ok (.lshl, 1) := by decide +kernel
theorem d1_59 : decode prog_60_method_1_code 59 = .ok (.putfield 32, 3) := by decide +kernel
theorem d1_62 : decode prog_60_method_1_code 62 = .ok (.return_, 1) := by decide +kernel
theorem pn_1 : plainName "com/example/round_table/roundtable/engine/OrderList" = true := by first | (simp [plainName, overriddenIn]; done) | decide +kernel
theorem ef_rm1 (m : MethodId) (x0 : Addr) (x1 : Int32) : entryFrame m #[(.ref x0), (.int x1)] 2 = mkF m 0 #[.val (.ref x0), .val (.int x1)] [] := by first | (simp [entryFrame, mkF, argsToLocals, Value.category]; done) | rfl
def Q1 (Z : State) (o : Addr) (x1 : Int32) (h0 : Heap) (n0 : Nat) (v : Option Value) (h : Heap) (L : List Loc) : Prop := ∃ hd : Addr, v = none ∧ Fr n0 L ∧ n0 ≤ hd ∧ h0.size ≤ hd ∧ Keep h0 h [o] ∧ Fld Z h o "com/example/round_table/roundtable/engine/OrderList" "head" "Lcom/example/round_table/roundtable/engine/OrderList$Entry;" (.ref hd) ∧ Fld Z h o "com/example/round_table/roundtable/engine/OrderList" "last" "Lcom/example/round_table/roundtable/engine/OrderList$Entry;" (.ref hd) ∧ Fld Z h o "com/example/round_table/roundtable/engine/OrderList" "labelBits" "I" (.int x1) ∧ Fld Z h o "com/example/round_table/roundtable/engine/OrderList" "endGap" "J" (.long ((1 : Int64) <<< ((x1 / 2) &&& 0x3f).toInt64)) ∧ Exa Z h hd "com/example/round_table/roundtable/engine/OrderList$Entry" ∧ Fld Z h hd "com/example/round_table/roundtable/engine/OrderList$Entry" "label" "J" (.long 0) ∧ Fld Z h hd "com/example/round_table/roundtable/engine/OrderList$Entry" "previous" "Lcom/example/round_table/roundtable/engine/OrderList$Entry;" .null ∧ Fld Z h hd "com/example/round_table/roundtable/engine/OrderList$Entry" "next" "Lcom/example/round_table/roundtable/engine/OrderList$Entry;" .null
set_option maxRecDepth 65536 in
set_option maxHeartbeats 40000000 in
theorem rm1 (l : Launch) (Z : State) (a0 : Array Value) (hw : ∀ d ∈ tables_1, d.before a0 Z = true) (ws : List Jvm.Cond) (o : Addr) (x1 : Int32) (h0 : Heap) (n0 : Nat) (Z0 : n0 ≤ h0.size) (E_o : Exa Z h0 o "com/example/round_table/roundtable/engine/OrderList") (g_o : n0 ≤ o) (F_head_o : Fld Z h0 o "com/example/round_table/roundtable/engine/OrderList" "head" "Lcom/example/round_table/roundtable/engine/OrderList$Entry;" .null) (F_last_o : Fld Z h0 o "com/example/round_table/roundtable/engine/OrderList" "last" "Lcom/example/round_table/roundtable/engine/OrderList$Entry;" .null) (F_labelBits_o : Fld Z h0 o "com/example/round_table/roundtable/engine/OrderList" "labelBits" "I" (.int (0 : Int32))) (F_endGap_o : Fld Z h0 o "com/example/round_table/roundtable/engine/OrderList" "endGap" "J" (.long (0 : Int64))) (hx1 : 3 ≤ x1.toInt ∧ x1.toInt ≤ 62) :
    MetFree l (⟨"com/example/round_table/roundtable/engine/OrderList", "<init>", "(I)V"⟩ : MethodName) (head1 (Jvm.Cond.code (⟨"com/example/round_table/roundtable/engine/OrderList", "<init>", "(I)V"⟩ : MethodName) prog_60_method_1_code 2 none :: ws) ({ frames := 2, cells := 1, slots := 3, locals := 26 } : Room)) (fun as' U => as' = #[(.ref o), (.int x1)] ∧ Z.Warmed39 U.vm ∧ U.heap = h0) (fun _ _ _ _ _ => True) (fun _ U_ o_ U'_ => ∃ v_ L_, o_ = .returned v_ ∧ Q1 Z o x1 h0 n0 v_ U'_.heap L_ ∧ FrameEnd U_ o_ U'_ L_ ({ frames := 2, cells := 1, slots := 3, locals := 26 } : Room).cells ({ frames := 2, cells := 1, slots := 3, locals := 26 } : Room).slots) := by
  refine MetFree.of_bodySF (plainFor_of_name pn_1) hisR ?_
  intro p e s m args below meth c s₁ Bd hml0 hP hK
  obtain ⟨rfl, hZ, hh⟩ := hP
  have hx := Bd.exec
  have hby := Bd.bytes
  have hml : c.maxLocals = 2 := hml0
  have hown : s.vm.findClass "com/example/round_table/roundtable/engine/OrderList" = some m.cls := findClass_of_methodNamed Bd.named
  have hnm := (name_of_methodNamed Bd.named Bd.method).1
  have X0 : Stand p l e ({ frames := 2, cells := 1, slots := 3, locals := 26 } : Room) s m #[(.ref o), (.int x1)] below meth c s₁ [] 0 0 := Stand.of_body Bd
  have e0 : s₁.heap = h0 := by rw [← hh, Bd.state]; rfl
  have N0 := Fr.nil n0
  refine RunsTo.start (ef_rm1 m o x1) ?_
  show RunsTo p e below s s₁ (mkF m 0 #[.val (.ref o), .val (.int x1)] []) (Q1 Z o x1 h0 n0) ({ frames := 2, cells := 1, slots := 3, locals := 26 } : Room).cells ({ frames := 2, cells := 1, slots := 3, locals := 26 } : Room).slots
  refine RunsTo.of (T' := s₁) (g' := (mkF m 1 #[.val (.ref o), .val (.int x1)] [(.ref o)])) (fun tgt_ kt => ?_) ?_
  · refine XS.aloadN X0.here hx rfl (hb hby d1_0) rfl rfl ?_
    show Steps p.tables e below (s₁.setTop (mkF m 1 #[.val (.ref o), .val (.int x1)] [(.ref o)])) _
    exact kt
  obtain ⟨T1, X1, e1, st1⟩ := initO X0 hx hZ hown (hw _ (List.mem_of_getElem? (i := 7) rfl)) (hw _ (List.mem_of_getElem? (i := 8) rfl)) (hw _ (List.mem_of_getElem? (i := 9) rfl)) e0 (g := (mkF m 1 #[.val (.ref o), .val (.int x1)] [(.ref o)])) rfl (by rw [hml]; rfl) rfl (hb hby d1_1) (by decide) (W := 0) (by show 2 * 0 + _ ≤ _; exact Nat.le_of_eq rfl) (by decide)
  refine RunsTo.of (T' := T1) (g' := (mkF m 4 #[.val (.ref o), .val (.int x1)] [])) st1 ?_
  refine RunsTo.of (T' := T1) (g' := (mkF m 5 #[.val (.ref o), .val (.int x1)] [(.ref o)])) (fun tgt_ kt => ?_) ?_
  · refine XS.aloadN X1.here hx rfl (hb hby d1_4) rfl rfl ?_
    show Steps p.tables e below (T1.setTop (mkF m 5 #[.val (.ref o), .val (.int x1)] [(.ref o)])) _
    exact kt
  obtain ⟨T2, h2, X2, e2, E2, A2, D2, -, st2⟩ := newO X1 hx hZ hown (hw _ (List.mem_of_getElem? (i := 10) rfl)) (hw _ (List.mem_of_getElem? (i := 11) rfl)) (hw _ (List.mem_of_getElem? (i := 12) rfl)) e1 (g := (mkF m 5 #[.val (.ref o), .val (.int x1)] [(.ref o)])) rfl (hb hby d1_5) (by decide) (by decide)
  obtain ⟨hd, g2⟩ : ∃ z, z = h0.size := ⟨_, rfl⟩
  rw [← g2] at A2 D2 st2
  have Z2 : n0 ≤ h2.size := Nat.le_trans Z0 E2.1
  have g_hd : n0 ≤ hd := Nat.le_trans Z0 (Nat.le_of_eq g2.symm)
  have ne_o_hd : o ≠ hd := Nat.ne_of_lt (Nat.lt_of_lt_of_le E_o.lt (Nat.le_of_eq g2.symm))
  have E_o := E_o.ext E2
  have F_head_o := F_head_o.ext E2
  have F_last_o := F_last_o.ext E2
  have F_labelBits_o := F_labelBits_o.ext E2
  have F_endGap_o := F_endGap_o.ext E2
  have F_next_hd : Fld Z h2 hd "com/example/round_table/roundtable/engine/OrderList$Entry" "next" "Lcom/example/round_table/roundtable/engine/OrderList$Entry;" .null := D2 (Or.inl (hw _ (List.mem_of_getElem? (i := 43) rfl))) (ty := (.object "com/example/round_table/roundtable/engine/OrderList$Entry")) (by decide)
  have F_previous_hd : Fld Z h2 hd "com/example/round_table/roundtable/engine/OrderList$Entry" "previous" "Lcom/example/round_table/roundtable/engine/OrderList$Entry;" .null := D2 (Or.inl (hw _ (List.mem_of_getElem? (i := 45) rfl))) (ty := (.object "com/example/round_table/roundtable/engine/OrderList$Entry")) (by decide)
  have F_label_hd : Fld Z h2 hd "com/example/round_table/roundtable/engine/OrderList$Entry" "label" "J" (.long (0 : Int64)) := D2 (Or.inl (hw _ (List.mem_of_getElem? (i := 47) rfl))) (ty := .long) (by decide)
  have E_hd : Exa Z h2 hd "com/example/round_table/roundtable/engine/OrderList$Entry" := A2
  refine RunsTo.of (T' := T2) (g' := (mkF m 8 #[.val (.ref o), .val (.int x1)] [(.ref hd), (.ref o)])) st2 ?_
  have KP := (Keep.refl h0 [o]).ext E2
  have sz_hd : h0.size ≤ hd := Nat.le_of_eq g2.symm
  refine RunsTo.of (T' := T2) (g' := (mkF m 9 #[.val (.ref o), .val (.int x1)] [(.ref hd), (.ref hd), (.ref o)])) (fun tgt_ kt => ?_) ?_
  · refine XS.dup X2.here hx rfl (hb hby d1_8) rfl rfl ?_
    show Steps p.tables e below (T2.setTop (mkF m 9 #[.val (.ref o), .val (.int x1)] [(.ref hd), (.ref hd), (.ref o)])) _
    exact kt
  obtain ⟨_, _, ⟨T3, L3, k3, n3⟩, -, X3, ⟨Lc3, hQ3, l3, y3, z3⟩, st3⟩ := X2.specialBack hx (y := (⟨"com/example/round_table/roundtable/engine/OrderList$Entry", "<init>", "()V"⟩ : MethodName)) rfl hown (mvT hZ (hw _ (List.mem_of_getElem? (i := 13) rfl))) (mvT hZ (hw _ (List.mem_of_getElem? (i := 14) rfl))) (mvT hZ (hw _ (List.mem_of_getElem? (i := 15) rfl))) (by decide) (backOf (W := 2) (rm3 l Z a0 hw [] hd h2 n0 Z2 ) hZ (hw _ (List.mem_of_getElem? (i := 15) rfl)) (hw _ (List.mem_of_getElem? (i := 12) rfl)) (by decide) (by decide)) (g := (mkF m 9 #[.val (.ref o), .val (.int x1)] [(.ref hd), (.ref hd), (.ref o)])) rfl (by rw [hml]; rfl) (Steps.refl _) (a := hd) (argsL := []) (rest := [(.ref hd), (.ref o)]) (lenOf pd_0 rfl) rfl (by show 2 * 0 + _ ≤ _; exact Nat.le_of_eq rfl) (hb hby d1_9) (fun _ _ => ⟨rfl, e2, (by decide : 1 + 0 ≤ _), (by decide : 3 + 0 ≤ _)⟩)
  dsimp only [Pt.U, Pt.locs, Pt.cells, Pt.slots] at X3 l3 y3 z3 st3 hQ3
  subst l3 y3 z3
  obtain ⟨rfl, N3q, e3⟩ := hQ3
  have N3 := Fr.app N0 N3q
  refine RunsTo.of (T' := T3) (g' := (mkF m 12 #[.val (.ref o), .val (.int x1)] [(.ref hd), (.ref o)])) (fun _ kt => st3.trans kt) ?_
  obtain ⟨T4, h4, X4, e4, W4, st4⟩ := putF X3 hx hZ hown (host := "") (Or.inl (hw _ (List.mem_of_getElem? (i := 17) rfl))) Via.refl e3 F_head_o E_o (Or.inr ⟨(hw _ (List.mem_of_getElem? (i := 18) rfl)), rfl, hnm⟩) (hw _ (List.mem_of_getElem? (i := 2) rfl)) (ty := (.object "com/example/round_table/roundtable/engine/OrderList$Entry")) (by decide) rfl rfl (g := (mkF m 12 #[.val (.ref o), .val (.int x1)] [(.ref hd), (.ref o)])) rfl rfl (hb hby d1_12)
  have N4 := Fr.snoc X4 N3 g_o
  have Z4 : n0 ≤ h4.size := Nat.le_trans Z2 (Nat.le_of_eq W4.size.symm)
  have E_o := E_o.wr W4
  have F_head_o := F_head_o.same W4
  have F_last_o := F_last_o.other W4 (Or.inr (slot_ne (Or.inl (hw _ (List.mem_of_getElem? (i := 20) rfl))) (Or.inr (hw _ (List.mem_of_getElem? (i := 18) rfl))) (by decide) (t := (.object "com/example/round_table/roundtable/engine/OrderList$Entry")) (t' := (.object "com/example/round_table/roundtable/engine/OrderList$Entry")) (by decide) (by decide)))
  have F_labelBits_o := F_labelBits_o.other W4 (Or.inr (slot_ne (Or.inr (hw _ (List.mem_of_getElem? (i := 22) rfl))) (Or.inr (hw _ (List.mem_of_getElem? (i := 18) rfl))) (by decide) (t := .int) (t' := (.object "com/example/round_table/roundtable/engine/OrderList$Entry")) (by decide) (by decide)))
  have F_endGap_o := F_endGap_o.other W4 (Or.inr (slot_ne (Or.inr (hw _ (List.mem_of_getElem? (i := 24) rfl))) (Or.inr (hw _ (List.mem_of_getElem? (i := 18) rfl))) (by decide) (t := .long) (t' := (.object "com/example/round_table/roundtable/engine/OrderList$Entry")) (by decide) (by decide)))
  have F_next_hd := F_next_hd.other W4 (Or.inl (Ne.symm ne_o_hd))
  have F_previous_hd := F_previous_hd.other W4 (Or.inl (Ne.symm ne_o_hd))
  have F_label_hd := F_label_hd.other W4 (Or.inl (Ne.symm ne_o_hd))
  have E_hd := E_hd.wr W4
  have KP := KP.wr W4 (Or.inl (List.mem_of_getElem? (i := 0) rfl))
  refine RunsTo.of (T' := T4) (g' := (mkF m 15 #[.val (.ref o), .val (.int x1)] [])) st4 ?_
  refine RunsTo.of (T' := T4) (g' := (mkF m 17 #[.val (.ref o), .val (.int x1)] [(.ref o), (.ref o)])) (fun tgt_ kt => ?_) ?_
  · refine XS.aloadN X4.here hx rfl (hb hby d1_15) rfl rfl ?_
    show Steps p.tables e below (T4.setTop (mkF m 16 #[.val (.ref o), .val (.int x1)] [(.ref o)])) _
    refine XS.aloadN X4.here hx rfl (hb hby d1_16) rfl rfl ?_
    show Steps p.tables e below (T4.setTop (mkF m 17 #[.val (.ref o), .val (.int x1)] [(.ref o), (.ref o)])) _
    exact kt
  obtain ⟨T5, X5, e5, st5⟩ := getF X4 hx hZ hown (host := "") (Or.inl (hw _ (List.mem_of_getElem? (i := 17) rfl))) Via.refl e4 F_head_o (g := (mkF m 17 #[.val (.ref o), .val (.int x1)] [(.ref o), (.ref o)])) rfl rfl (hb hby d1_17)
  refine RunsTo.of (T' := T5) (g' := (mkF m 20 #[.val (.ref o), .val (.int x1)] [(.ref hd), (.ref o)])) st5 ?_
  obtain ⟨T6, h6, X6, e6, W6, st6⟩ := putF X5 hx hZ hown (host := "") (Or.inl (hw _ (List.mem_of_getElem? (i := 19) rfl))) Via.refl e5 F_last_o E_o (Or.inl (hw _ (List.mem_of_getElem? (i := 20) rfl))) (hw _ (List.mem_of_getElem? (i := 2) rfl)) (ty := (.object "com/example/round_table/roundtable/engine/OrderList$Entry")) (by decide) rfl rfl (g := (mkF m 20 #[.val (.ref o), .val (.int x1)] [(.ref hd), (.ref o)])) rfl rfl (hb hby d1_20)
  have N6 := Fr.snoc X6 N4 g_o
  have Z6 : n0 ≤ h6.size := Nat.le_trans Z4 (Nat.le_of_eq W6.size.symm)
  have E_o := E_o.wr W6
  have F_head_o := F_head_o.other W6 (Or.inr (slot_ne (Or.inr (hw _ (List.mem_of_getElem? (i := 18) rfl))) (Or.inl (hw _ (List.mem_of_getElem? (i := 20) rfl))) (by decide) (t := (.object "com/example/round_table/roundtable/engine/OrderList$Entry")) (t' := (.object "com/example/round_table/roundtable/engine/OrderList$Entry")) (by decide) (by decide)))
  have F_last_o := F_last_o.same W6
  have F_labelBits_o := F_labelBits_o.other W6 (Or.inr (slot_ne (Or.inr (hw _ (List.mem_of_getElem? (i := 22) rfl))) (Or.inl (hw _ (List.mem_of_getElem? (i := 20) rfl))) (by decide) (t := .int) (t' := (.object "com/example/round_table/roundtable/engine/OrderList$Entry")) (by decide) (by decide)))
  have F_endGap_o := F_endGap_o.other W6 (Or.inr (slot_ne (Or.inr (hw _ (List.mem_of_getElem? (i := 24) rfl))) (Or.inl (hw _ (List.mem_of_getElem? (i := 20) rfl))) (by decide) (t := .long) (t' := (.object "com/example/round_table/roundtable/engine/OrderList$Entry")) (by decide) (by decide)))
  have F_next_hd := F_next_hd.other W6 (Or.inl (Ne.symm ne_o_hd))
  have F_previous_hd := F_previous_hd.other W6 (Or.inl (Ne.symm ne_o_hd))
  have F_label_hd := F_label_hd.other W6 (Or.inl (Ne.symm ne_o_hd))
  have E_hd := E_hd.wr W6
  have KP := KP.wr W6 (Or.inl (List.mem_of_getElem? (i := 0) rfl))
  refine RunsTo.of (T' := T6) (g' := (mkF m 23 #[.val (.ref o), .val (.int x1)] [])) st6 ?_
  refine RunsTo.of (T' := T6) (g' := (mkF m 50 #[.val (.ref o), .val (.int x1)] [(.int x1), (.ref o)])) (fun tgt_ kt => ?_) ?_
  · refine XS.iloadN X6.here hx rfl (hb hby d1_23) rfl ?_
    show Steps p.tables e below (T6.setTop (mkF m 24 #[.val (.ref o), .val (.int x1)] [(.int x1)])) _
    refine XS.iconst X6.here hx rfl (hb hby d1_24) ?_
    show Steps p.tables e below (T6.setTop (mkF m 25 #[.val (.ref o), .val (.int x1)] [(.int (2 : Int32)), (.int x1)])) _
    refine XS.icmpNo X6.here hx rfl (hb hby d1_25) rfl (flt (show ¬ x1 < 2 by rw [Int32.lt_iff_toInt_lt]; show ¬ _ < (2 : Int); omega)).1 ?_
    show Steps p.tables e below (T6.setTop (mkF m 28 #[.val (.ref o), .val (.int x1)] [])) _
    refine XS.iloadN X6.here hx rfl (hb hby d1_28) rfl ?_
    show Steps p.tables e below (T6.setTop (mkF m 29 #[.val (.ref o), .val (.int x1)] [(.int x1)])) _
    refine XS.bipush X6.here hx rfl (hb hby d1_29) ?_
    show Steps p.tables e below (T6.setTop (mkF m 31 #[.val (.ref o), .val (.int x1)] [(.int (62 : Int32)), (.int x1)])) _
    refine XS.icmpYes X6.here hx rfl (pc0 := 31) (pc' := 48) rfl (hb hby d1_31) rfl (flt (show ¬ 62 < x1 by rw [Int32.lt_iff_toInt_lt]; show ¬ (62 : Int) < _; omega)).2.2.2 (by decide) (by decide) ?_
    show Steps p.tables e below (T6.setTop (mkF m 48 #[.val (.ref o), .val (.int x1)] [])) _
    refine XS.aloadN X6.here hx rfl (hb hby d1_48) rfl rfl ?_
    show Steps p.tables e below (T6.setTop (mkF m 49 #[.val (.ref o), .val (.int x1)] [(.ref o)])) _
    refine XS.iloadN X6.here hx rfl (hb hby d1_49) rfl ?_
    show Steps p.tables e below (T6.setTop (mkF m 50 #[.val (.ref o), .val (.int x1)] [(.int x1), (.ref o)])) _
    exact kt
  obtain ⟨T7, h7, X7, e7, W7, st7⟩ := putF X6 hx hZ hown (host := "") (Or.inl (hw _ (List.mem_of_getElem? (i := 21) rfl))) Via.refl e6 F_labelBits_o E_o (Or.inr ⟨(hw _ (List.mem_of_getElem? (i := 22) rfl)), rfl, hnm⟩) (hw _ (List.mem_of_getElem? (i := 2) rfl)) (ty := .int) (by decide) rfl rfl (g := (mkF m 50 #[.val (.ref o), .val (.int x1)] [(.int x1), (.ref o)])) rfl rfl (hb hby d1_50)
  have N7 := Fr.snoc X7 N6 g_o
  have Z7 : n0 ≤ h7.size := Nat.le_trans Z6 (Nat.le_of_eq W7.size.symm)
  have E_o := E_o.wr W7
  have F_head_o := F_head_o.other W7 (Or.inr (slot_ne (Or.inr (hw _ (List.mem_of_getElem? (i := 18) rfl))) (Or.inr (hw _ (List.mem_of_getElem? (i := 22) rfl))) (by decide) (t := (.object "com/example/round_table/roundtable/engine/OrderList$Entry")) (t' := .int) (by decide) (by decide)))
  have F_last_o := F_last_o.other W7 (Or.inr (slot_ne (Or.inl (hw _ (List.mem_of_getElem? (i := 20) rfl))) (Or.inr (hw _ (List.mem_of_getElem? (i := 22) rfl))) (by decide) (t := (.object "com/example/round_table/roundtable/engine/OrderList$Entry")) (t' := .int) (by decide) (by decide)))
  have F_labelBits_o := F_labelBits_o.same W7
  have F_endGap_o := F_endGap_o.other W7 (Or.inr (slot_ne (Or.inr (hw _ (List.mem_of_getElem? (i := 24) rfl))) (Or.inr (hw _ (List.mem_of_getElem? (i := 22) rfl))) (by decide) (t := .long) (t' := .int) (by decide) (by decide)))
  have F_next_hd := F_next_hd.other W7 (Or.inl (Ne.symm ne_o_hd))
  have F_previous_hd := F_previous_hd.other W7 (Or.inl (Ne.symm ne_o_hd))
  have F_label_hd := F_label_hd.other W7 (Or.inl (Ne.symm ne_o_hd))
  have E_hd := E_hd.wr W7
  have KP := KP.wr W7 (Or.inl (List.mem_of_getElem? (i := 0) rfl))
  refine RunsTo.of (T' := T7) (g' := (mkF m 53 #[.val (.ref o), .val (.int x1)] [])) st7 ?_
  refine RunsTo.of (T' := T7) (g' := (mkF m 59 #[.val (.ref o), .val (.int x1)] [(.long ((1 : Int64) <<< ((x1 / (2 : Int32)) &&& 0x3f).toInt64)), (.ref o)])) (fun tgt_ kt => ?_) ?_
  · refine XS.aloadN X7.here hx rfl (hb hby d1_53) rfl rfl ?_
    show Steps p.tables e below (T7.setTop (mkF m 54 #[.val (.ref o), .val (.int x1)] [(.ref o)])) _
    refine XS.lconst X7.here hx rfl (hb hby d1_54) ?_
    show Steps p.tables e below (T7.setTop (mkF m 55 #[.val (.ref o), .val (.int x1)] [(.long (1 : Int64)), (.ref o)])) _
    refine XS.iloadN X7.here hx rfl (hb hby d1_55) rfl ?_
    show Steps p.tables e below (T7.setTop (mkF m 56 #[.val (.ref o), .val (.int x1)] [(.int x1), (.long (1 : Int64)), (.ref o)])) _
    refine XS.iconst X7.here hx rfl (hb hby d1_56) ?_
    show Steps p.tables e below (T7.setTop (mkF m 57 #[.val (.ref o), .val (.int x1)] [(.int (2 : Int32)), (.int x1), (.long (1 : Int64)), (.ref o)])) _
    refine XS.idiv X7.here hx rfl (hb hby d1_57) rfl (by decide) ?_
    show Steps p.tables e below (T7.setTop (mkF m 58 #[.val (.ref o), .val (.int x1)] [(.int (x1 / (2 : Int32))), (.long (1 : Int64)), (.ref o)])) _
    refine XS.lshl X7.here hx rfl (hb hby d1_58) rfl ?_
    show Steps p.tables e below (T7.setTop (mkF m 59 #[.val (.ref o), .val (.int x1)] [(.long ((1 : Int64) <<< ((x1 / (2 : Int32)) &&& 0x3f).toInt64)), (.ref o)])) _
    exact kt
  obtain ⟨T8, h8, X8, e8, W8, st8⟩ := putF X7 hx hZ hown (host := "") (Or.inl (hw _ (List.mem_of_getElem? (i := 23) rfl))) Via.refl e7 F_endGap_o E_o (Or.inr ⟨(hw _ (List.mem_of_getElem? (i := 24) rfl)), rfl, hnm⟩) (hw _ (List.mem_of_getElem? (i := 2) rfl)) (ty := .long) (by decide) rfl rfl (g := (mkF m 59 #[.val (.ref o), .val (.int x1)] [(.long ((1 : Int64) <<< ((x1 / (2 : Int32)) &&& 0x3f).toInt64)), (.ref o)])) rfl rfl (hb hby d1_59)
  have N8 := Fr.snoc X8 N7 g_o
  have Z8 : n0 ≤ h8.size := Nat.le_trans Z7 (Nat.le_of_eq W8.size.symm)
  have E_o := E_o.wr W8
  have F_head_o := F_head_o.other W8 (Or.inr (slot_ne (Or.inr (hw _ (List.mem_of_getElem? (i := 18) rfl))) (Or.inr (hw _ (List.mem_of_getElem? (i := 24) rfl))) (by decide) (t := (.object "com/example/round_table/roundtable/engine/OrderList$Entry")) (t' := .long) (by decide) (by decide)))
  have F_last_o := F_last_o.other W8 (Or.inr (slot_ne (Or.inl (hw _ (List.mem_of_getElem? (i := 20) rfl))) (Or.inr (hw _ (List.mem_of_getElem? (i := 24) rfl))) (by decide) (t := (.object "com/example/round_table/roundtable/engine/OrderList$Entry")) (t' := .long) (by decide) (by decide)))
  have F_labelBits_o := F_labelBits_o.other W8 (Or.inr (slot_ne (Or.inr (hw _ (List.mem_of_getElem? (i := 22) rfl))) (Or.inr (hw _ (List.mem_of_getElem? (i := 24) rfl))) (by decide) (t := .int) (t' := .long) (by decide) (by decide)))
  have F_endGap_o := F_endGap_o.same W8
  have F_next_hd := F_next_hd.other W8 (Or.inl (Ne.symm ne_o_hd))
  have F_previous_hd := F_previous_hd.other W8 (Or.inl (Ne.symm ne_o_hd))
  have F_label_hd := F_label_hd.other W8 (Or.inl (Ne.symm ne_o_hd))
  have E_hd := E_hd.wr W8
  have KP := KP.wr W8 (Or.inl (List.mem_of_getElem? (i := 0) rfl))
  refine RunsTo.of (T' := T8) (g' := (mkF m 62 #[.val (.ref o), .val (.int x1)] [])) st8 ?_
  refine RunsTo.retV X8 hx Bd.returns Bd.notSynchronized (hb hby d1_62) ?_ (by decide) (by decide)
  rw [e8]
  exact ⟨hd, rfl, N8, g_hd, sz_hd, KP, F_head_o, F_last_o, F_labelBits_o, F_endGap_o, E_hd, F_label_hd, F_previous_hd, F_next_hd⟩
theorem d5_0 : decode prog_60_method_3_code 0 = .ok (.aload_n 0, 1) := by decide +kernel
theorem d5_1 : decode prog_60_method_3_code 1 = .ok (.getfield 16, 3) := by decide +kernel
theorem d5_4 : decode prog_60_method_3_code 4 = .ok (.aload_n 0, 1) := by decide +kernel
theorem d5_5 : decode prog_60_method_3_code 5 = .ok (.getfield 10, 3) := by decide +kernel
theorem d5_8 : decode prog_60_method_3_code 8 = .ok (.if_acmp .ne 7, 3) := by decide +kernel
theorem d5_11 : decode prog_60_method_3_code 11 = .ok (.aconst_null, 1) := by decide +kernel
theorem d5_12 : decode prog_60_method_3_code 12 = .ok (.goto 7, 3) := by decide +kernel
theorem d5_19 : decode prog_60_method_3_code 19 = .ok (.areturn, 1) := by decide +kernel
theorem ef_rm_lastE (m : MethodId) (x0 : Addr) : entryFrame m #[(.ref x0)] 1 = mkF m 0 #[.val (.ref x0)] [] := by first | (simp [entryFrame, mkF, argsToLocals, Value.category]; done) | rfl
def Q_lastE (Z : State) (o : Addr) (hd : Addr) (h0 : Heap) (n0 : Nat) (v : Option Value) (h : Heap) (L : List Loc) : Prop := v = some .null ∧ Fr n0 L ∧ h = h0
set_option maxRecDepth 65536 in
set_option maxHeartbeats 40000000 in
theorem rm_lastE (l : Launch) (Z : State) (a0 : Array Value) (hw : ∀ d ∈ tables_1, d.before a0 Z = true) (ws : List Jvm.Cond) (o : Addr) (hd : Addr) (h0 : Heap) (n0 : Nat) (Z0 : n0 ≤ h0.size) (F_head_o : Fld Z h0 o "com/example/round_table/roundtable/engine/OrderList" "head" "Lcom/example/round_table/roundtable/engine/OrderList$Entry;" (.ref hd)) (F_last_o : Fld Z h0 o "com/example/round_table/roundtable/engine/OrderList" "last" "Lcom/example/round_table/roundtable/engine/OrderList$Entry;" (.ref hd))  :
    MetFree l (⟨"com/example/round_table/roundtable/engine/OrderList", "last", "()Lcom/example/round_table/roundtable/engine/OrderList$Entry;"⟩ : MethodName) (head1 (Jvm.Cond.code (⟨"com/example/round_table/roundtable/engine/OrderList", "last", "()Lcom/example/round_table/roundtable/engine/OrderList$Entry;"⟩ : MethodName) prog_60_method_3_code 1 (some (.object "com/example/round_table/roundtable/engine/OrderList$Entry")) :: ws) ({ frames := 0, cells := 0, slots := 0, locals := 0 } : Room)) (fun as' U => as' = #[(.ref o)] ∧ Z.Warmed39 U.vm ∧ U.heap = h0) (fun _ _ _ _ _ => True) (fun _ U_ o_ U'_ => ∃ v_ L_, o_ = .returned v_ ∧ Q_lastE Z o hd h0 n0 v_ U'_.heap L_ ∧ FrameEnd U_ o_ U'_ L_ ({ frames := 0, cells := 0, slots := 0, locals := 0 } : Room).cells ({ frames := 0, cells := 0, slots := 0, locals := 0 } : Room).slots) := by
  refine MetFree.of_bodySF (plainFor_of_name pn_1) hisR ?_
  intro p e s m args below meth c s₁ Bd hml0 hP hK
  obtain ⟨rfl, hZ, hh⟩ := hP
  have hx := Bd.exec
  have hby := Bd.bytes
  have hml : c.maxLocals = 1 := hml0
  have hown : s.vm.findClass "com/example/round_table/roundtable/engine/OrderList" = some m.cls := findClass_of_methodNamed Bd.named
  have hnm := (name_of_methodNamed Bd.named Bd.method).1
  have X0 : Stand p l e ({ frames := 0, cells := 0, slots := 0, locals := 0 } : Room) s m #[(.ref o)] below meth c s₁ [] 0 0 := Stand.of_body Bd
  have e0 : s₁.heap = h0 := by rw [← hh, Bd.state]; rfl
  have N0 := Fr.nil n0
  refine RunsTo.start (ef_rm_lastE m o) ?_
  show RunsTo p e below s s₁ (mkF m 0 #[.val (.ref o)] []) (Q_lastE Z o hd h0 n0) ({ frames := 0, cells := 0, slots := 0, locals := 0 } : Room).cells ({ frames := 0, cells := 0, slots := 0, locals := 0 } : Room).slots
  refine RunsTo.of (T' := s₁) (g' := (mkF m 1 #[.val (.ref o)] [(.ref o)])) (fun tgt_ kt => ?_) ?_
  · refine XS.aloadN X0.here hx rfl (hb hby d5_0) rfl rfl ?_
    show Steps p.tables e below (s₁.setTop (mkF m 1 #[.val (.ref o)] [(.ref o)])) _
    exact kt
  obtain ⟨T1, X1, e1, st1⟩ := getF X0 hx hZ hown (host := "") (Or.inl (hw _ (List.mem_of_getElem? (i := 19) rfl))) Via.refl e0 F_last_o (g := (mkF m 1 #[.val (.ref o)] [(.ref o)])) rfl rfl (hb hby d5_1)
  refine RunsTo.of (T' := T1) (g' := (mkF m 4 #[.val (.ref o)] [(.ref hd)])) st1 ?_
  refine RunsTo.of (T' := T1) (g' := (mkF m 5 #[.val (.ref o)] [(.ref o), (.ref hd)])) (fun tgt_ kt => ?_) ?_
  · refine XS.aloadN X1.here hx rfl (hb hby d5_4) rfl rfl ?_
    show Steps p.tables e below (T1.setTop (mkF m 5 #[.val (.ref o)] [(.ref o), (.ref hd)])) _
    exact kt
  obtain ⟨T2, X2, e2, st2⟩ := getF X1 hx hZ hown (host := "") (Or.inl (hw _ (List.mem_of_getElem? (i := 17) rfl))) Via.refl e1 F_head_o (g := (mkF m 5 #[.val (.ref o)] [(.ref o), (.ref hd)])) rfl rfl (hb hby d5_5)
  refine RunsTo.of (T' := T2) (g' := (mkF m 8 #[.val (.ref o)] [(.ref hd), (.ref hd)])) st2 ?_
  refine RunsTo.of (T' := T2) (g' := (mkF m 19 #[.val (.ref o)] [.null])) (fun tgt_ kt => ?_) ?_
  · refine Jvm.RoadKit.acmp (g := (mkF m 8 #[.val (.ref o)] [(.ref hd), (.ref hd)])) X2 hx rfl rfl rfl (pc0 := 8) (pc' := 11) (same := true) rfl (hb hby d5_8) rfl (decide_eq_true (congrArg Value.ref rfl)) (by decide) (by decide) ?_
    show Steps p.tables e below (T2.setTop (mkF m 11 #[.val (.ref o)] [])) _
    refine XS.aconstNull X2.here hx rfl (hb hby d5_11) ?_
    show Steps p.tables e below (T2.setTop (mkF m 12 #[.val (.ref o)] [.null])) _
    refine XS.goto X2.here hx rfl (pc0 := 12) (pc' := 19) rfl (hb hby d5_12) (by decide) (by decide) ?_
    show Steps p.tables e below (T2.setTop (mkF m 19 #[.val (.ref o)] [.null])) _
    exact kt
  refine RunsTo.retA X2 hx Bd.returns rfl rfl Bd.notSynchronized (hb hby d5_19) ?_ (by decide) (by decide)
  rw [e2]
  exact ⟨rfl, N0, rfl⟩
theorem d5_15 : decode prog_60_method_3_code 15 = .ok (.aload_n 0, 1) := by decide +kernel
theorem d5_16 : decode prog_60_method_3_code 16 = .ok (.getfield 16, 3) := by decide +kernel
theorem ef_rm_lastN (m : MethodId) (x0 : Addr) : entryFrame m #[(.ref x0)] 1 = mkF m 0 #[.val (.ref x0)] [] := by first | (simp [entryFrame, mkF, argsToLocals, Value.category]; done) | rfl
def Q_lastN (Z : State) (o : Addr) (hd ls : Addr) (h0 : Heap) (n0 : Nat) (v : Option Value) (h : Heap) (L : List Loc) : Prop := v = some (.ref ls) ∧ Fr n0 L ∧ h = h0
set_option maxRecDepth 65536 in
set_option maxHeartbeats 40000000 in
theorem rm_lastN (l : Launch) (Z : State) (a0 : Array Value) (hw : ∀ d ∈ tables_1, d.before a0 Z = true) (ws : List Jvm.Cond) (o : Addr) (hd ls : Addr) (h0 : Heap) (n0 : Nat) (Z0 : n0 ≤ h0.size) (F_head_o : Fld Z h0 o "com/example/round_table/roundtable/engine/OrderList" "head" "Lcom/example/round_table/roundtable/engine/OrderList$Entry;" (.ref hd)) (F_last_o : Fld Z h0 o "com/example/round_table/roundtable/engine/OrderList" "last" "Lcom/example/round_table/roundtable/engine/OrderList$Entry;" (.ref ls)) (hne : ls ≠ hd) :
    MetFree l (⟨"com/example/round_table/roundtable/engine/OrderList", "last", "()Lcom/example/round_table/roundtable/engine/OrderList$Entry;"⟩ : MethodName) (head1 (Jvm.Cond.code (⟨"com/example/round_table/roundtable/engine/OrderList", "last", "()Lcom/example/round_table/roundtable/engine/OrderList$Entry;"⟩ : MethodName) prog_60_method_3_code 1 (some (.object "com/example/round_table/roundtable/engine/OrderList$Entry")) :: ws) ({ frames := 0, cells := 0, slots := 0, locals := 0 } : Room)) (fun as' U => as' = #[(.ref o)] ∧ Z.Warmed39 U.vm ∧ U.heap = h0) (fun _ _ _ _ _ => True) (fun _ U_ o_ U'_ => ∃ v_ L_, o_ = .returned v_ ∧ Q_lastN Z o hd ls h0 n0 v_ U'_.heap L_ ∧ FrameEnd U_ o_ U'_ L_ ({ frames := 0, cells := 0, slots := 0, locals := 0 } : Room).cells ({ frames := 0, cells := 0, slots := 0, locals := 0 } : Room).slots) := by
  refine MetFree.of_bodySF (plainFor_of_name pn_1) hisR ?_
  intro p e s m args below meth c s₁ Bd hml0 hP hK
  obtain ⟨rfl, hZ, hh⟩ := hP
  have hx := Bd.exec
  have hby := Bd.bytes
  have hml : c.maxLocals = 1 := hml0
  have hown : s.vm.findClass "com/example/round_table/roundtable/engine/OrderList" = some m.cls := findClass_of_methodNamed Bd.named
  have hnm := (name_of_methodNamed Bd.named Bd.method).1
  have X0 : Stand p l e ({ frames := 0, cells := 0, slots := 0, locals := 0 } : Room) s m #[(.ref o)] below meth c s₁ [] 0 0 := Stand.of_body Bd
  have e0 : s₁.heap = h0 := by rw [← hh, Bd.state]; rfl
  have N0 := Fr.nil n0
  refine RunsTo.start (ef_rm_lastN m o) ?_
  show RunsTo p e below s s₁ (mkF m 0 #[.val (.ref o)] []) (Q_lastN Z o hd ls h0 n0) ({ frames := 0, cells := 0, slots := 0, locals := 0 } : Room).cells ({ frames := 0, cells := 0, slots := 0, locals := 0 } : Room).slots
  refine RunsTo.of (T' := s₁) (g' := (mkF m 1 #[.val (.ref o)] [(.ref o)])) (fun tgt_ kt => ?_) ?_
  · refine XS.aloadN X0.here hx rfl (hb hby d5_0) rfl rfl ?_
    show Steps p.tables e below (s₁.setTop (mkF m 1 #[.val (.ref o)] [(.ref o)])) _
    exact kt
  obtain ⟨T1, X1, e1, st1⟩ := getF X0 hx hZ hown (host := "") (Or.inl (hw _ (List.mem_of_getElem? (i := 19) rfl))) Via.refl e0 F_last_o (g := (mkF m 1 #[.val (.ref o)] [(.ref o)])) rfl rfl (hb hby d5_1)
  refine RunsTo.of (T' := T1) (g' := (mkF m 4 #[.val (.ref o)] [(.ref ls)])) st1 ?_
  refine RunsTo.of (T' := T1) (g' := (mkF m 5 #[.val (.ref o)] [(.ref o), (.ref ls)])) (fun tgt_ kt => ?_) ?_
  · refine XS.aloadN X1.here hx rfl (hb hby d5_4) rfl rfl ?_
    show Steps p.tables e below (T1.setTop (mkF m 5 #[.val (.ref o)] [(.ref o), (.ref ls)])) _
    exact kt
  obtain ⟨T2, X2, e2, st2⟩ := getF X1 hx hZ hown (host := "") (Or.inl (hw _ (List.mem_of_getElem? (i := 17) rfl))) Via.refl e1 F_head_o (g := (mkF m 5 #[.val (.ref o)] [(.ref o), (.ref ls)])) rfl rfl (hb hby d5_5)
  refine RunsTo.of (T' := T2) (g' := (mkF m 8 #[.val (.ref o)] [(.ref hd), (.ref ls)])) st2 ?_
  refine RunsTo.of (T' := T2) (g' := (mkF m 16 #[.val (.ref o)] [(.ref o)])) (fun tgt_ kt => ?_) ?_
  · refine Jvm.RoadKit.acmp (g := (mkF m 8 #[.val (.ref o)] [(.ref hd), (.ref ls)])) X2 hx rfl rfl rfl (pc0 := 8) (pc' := 15) (same := false) rfl (hb hby d5_8) rfl (decide_eq_false fun q => hne (Value.ref.inj q)) (by decide) (by decide) ?_
    show Steps p.tables e below (T2.setTop (mkF m 15 #[.val (.ref o)] [])) _
    refine XS.aloadN X2.here hx rfl (hb hby d5_15) rfl rfl ?_
    show Steps p.tables e below (T2.setTop (mkF m 16 #[.val (.ref o)] [(.ref o)])) _
    exact kt
  obtain ⟨T3, X3, e3, st3⟩ := getF X2 hx hZ hown (host := "") (Or.inl (hw _ (List.mem_of_getElem? (i := 19) rfl))) Via.refl e2 F_last_o (g := (mkF m 16 #[.val (.ref o)] [(.ref o)])) rfl rfl (hb hby d5_16)
  refine RunsTo.of (T' := T3) (g' := (mkF m 19 #[.val (.ref o)] [(.ref ls)])) st3 ?_
  refine RunsTo.retA X3 hx Bd.returns rfl rfl Bd.notSynchronized (hb hby d5_19) ?_ (by decide) (by decide)
  rw [e3]
  exact ⟨rfl, N0, rfl⟩
theorem d9_0 : decode prog_60_method_5_code 0 = .ok (.aload_n 1, 1) := by decide +kernel
theorem d9_1 : decode prog_60_method_5_code 1 = .ok (.getfield 47, 3) := by decide +kernel
theorem d9_4 : decode prog_60_method_5_code 4 = .ok (.areturn, 1) := by decide +kernel
theorem ef_rm9 (m : MethodId) (x0 : Addr) (x1 : Addr) : entryFrame m #[(.ref x0), (.ref x1)] 2 = mkF m 0 #[.val (.ref x0), .val (.ref x1)] [] := by first | (simp [entryFrame, mkF, argsToLocals, Value.category]; done) | rfl
def Q9 (Z : State) (o : Addr) (a : Addr) (w : Value) (hwr : w.isRef = true) (h0 : Heap) (n0 : Nat) (v : Option Value) (h : Heap) (L : List Loc) : Prop := v = some w ∧ Fr n0 L ∧ h = h0
set_option maxRecDepth 65536 in
set_option maxHeartbeats 40000000 in
theorem rm9 (l : Launch) (Z : State) (a0 : Array Value) (hw : ∀ d ∈ tables_1, d.before a0 Z = true) (ws : List Jvm.Cond) (o : Addr) (a : Addr) (w : Value) (hwr : w.isRef = true) (h0 : Heap) (n0 : Nat) (Z0 : n0 ≤ h0.size) (F_next_a : Fld Z h0 a "com/example/round_table/roundtable/engine/OrderList$Entry" "next" "Lcom/example/round_table/roundtable/engine/OrderList$Entry;" w) :
    MetFree l (⟨"com/example/round_table/roundtable/engine/OrderList", "next", "(Lcom/example/round_table/roundtable/engine/OrderList$Entry;)Lcom/example/round_table/roundtable/engine/OrderList$Entry;"⟩ : MethodName) (head1 (Jvm.Cond.code (⟨"com/example/round_table/roundtable/engine/OrderList", "next", "(Lcom/example/round_table/roundtable/engine/OrderList$Entry;)Lcom/example/round_table/roundtable/engine/OrderList$Entry;"⟩ : MethodName) prog_60_method_5_code 2 (some (.object "com/example/round_table/roundtable/engine/OrderList$Entry")) :: ws) ({ frames := 0, cells := 0, slots := 0, locals := 0 } : Room)) (fun as' U => as' = #[(.ref o), (.ref a)] ∧ Z.Warmed39 U.vm ∧ U.heap = h0) (fun _ _ _ _ _ => True) (fun _ U_ o_ U'_ => ∃ v_ L_, o_ = .returned v_ ∧ Q9 Z o a w hwr h0 n0 v_ U'_.heap L_ ∧ FrameEnd U_ o_ U'_ L_ ({ frames := 0, cells := 0, slots := 0, locals := 0 } : Room).cells ({ frames := 0, cells := 0, slots := 0, locals := 0 } : Room).slots) := by
  refine MetFree.of_bodySF (plainFor_of_name pn_1) hisR ?_
  intro p e s m args below meth c s₁ Bd hml0 hP hK
  obtain ⟨rfl, hZ, hh⟩ := hP
  have hx := Bd.exec
  have hby := Bd.bytes
  have hml : c.maxLocals = 2 := hml0
  have hown : s.vm.findClass "com/example/round_table/roundtable/engine/OrderList" = some m.cls := findClass_of_methodNamed Bd.named
  have hnm := (name_of_methodNamed Bd.named Bd.method).1
  have X0 : Stand p l e ({ frames := 0, cells := 0, slots := 0, locals := 0 } : Room) s m #[(.ref o), (.ref a)] below meth c s₁ [] 0 0 := Stand.of_body Bd
  have e0 : s₁.heap = h0 := by rw [← hh, Bd.state]; rfl
  have N0 := Fr.nil n0
  refine RunsTo.start (ef_rm9 m o a) ?_
  show RunsTo p e below s s₁ (mkF m 0 #[.val (.ref o), .val (.ref a)] []) (Q9 Z o a w hwr h0 n0) ({ frames := 0, cells := 0, slots := 0, locals := 0 } : Room).cells ({ frames := 0, cells := 0, slots := 0, locals := 0 } : Room).slots
  refine RunsTo.of (T' := s₁) (g' := (mkF m 1 #[.val (.ref o), .val (.ref a)] [(.ref a)])) (fun tgt_ kt => ?_) ?_
  · refine XS.aloadN X0.here hx rfl (hb hby d9_0) rfl rfl ?_
    show Steps p.tables e below (s₁.setTop (mkF m 1 #[.val (.ref o), .val (.ref a)] [(.ref a)])) _
    exact kt
  obtain ⟨T1, X1, e1, st1⟩ := getFR X0 hx hZ hown (hw _ (List.mem_of_getElem? (i := 42) rfl)) e0 F_next_a (g := (mkF m 1 #[.val (.ref o), .val (.ref a)] [(.ref a)])) rfl rfl (hb hby d9_1)
  refine RunsTo.of (T' := T1) (g' := (mkF m 4 #[.val (.ref o), .val (.ref a)] [w])) st1 ?_
  refine RunsTo.retA X1 hx Bd.returns rfl hwr Bd.notSynchronized (hb hby d9_4) ?_ (by decide) (by decide)
  rw [e1]
  exact ⟨rfl, N0, rfl⟩
theorem d10_0 : decode prog_60_method_4_code 0 = .ok (.aload_n 1, 1) := by decide +kernel
theorem d10_1 : decode prog_60_method_4_code 1 = .ok (.getfield 44, 3) := by decide +kernel
theorem d10_4 : decode prog_60_method_4_code 4 = .ok (.aload_n 0, 1) := by decide +kernel
theorem d10_5 : decode prog_60_method_4_code 5 = .ok (.getfield 10, 3) := by decide +kernel
theorem d10_8 : decode prog_60_method_4_code 8 = .ok (.if_acmp .ne 7, 3) := by decide +kernel
theorem d10_11 : decode prog_60_method_4_code 11 = .ok (.aconst_null, 1) := by decide +kernel
theorem d10_12 : decode prog_60_method_4_code 12 = .ok (.goto 7, 3) := by decide +kernel
theorem d10_19 : decode prog_60_method_4_code 19 = .ok (.areturn, 1) := by decide +kernel
theorem ef_rm_prevE (m : MethodId) (x0 : Addr) (x1 : Addr) : entryFrame m #[(.ref x0), (.ref x1)] 2 = mkF m 0 #[.val (.ref x0), .val (.ref x1)] [] := by first | (simp [entryFrame, mkF, argsToLocals, Value.category]; done) | rfl
def Q_prevE (Z : State) (o : Addr) (a : Addr) (hd : Addr) (h0 : Heap) (n0 : Nat) (v : Option Value) (h : Heap) (L : List Loc) : Prop := v = some .null ∧ Fr n0 L ∧ h = h0
set_option maxRecDepth 65536 in
set_option maxHeartbeats 40000000 in
theorem rm_prevE (l : Launch) (Z : State) (a0 : Array Value) (hw : ∀ d ∈ tables_1, d.before a0 Z = true) (ws : List Jvm.Cond) (o : Addr) (a : Addr) (hd : Addr) (h0 : Heap) (n0 : Nat) (Z0 : n0 ≤ h0.size) (F_head_o : Fld Z h0 o "com/example/round_table/roundtable/engine/OrderList" "head" "Lcom/example/round_table/roundtable/engine/OrderList$Entry;" (.ref hd)) (F_previous_a : Fld Z h0 a "com/example/round_table/roundtable/engine/OrderList$Entry" "previous" "Lcom/example/round_table/roundtable/engine/OrderList$Entry;" (.ref hd))  :
    MetFree l (⟨"com/example/round_table/roundtable/engine/OrderList", "previous", "(Lcom/example/round_table/roundtable/engine/OrderList$Entry;)Lcom/example/round_table/roundtable/engine/OrderList$Entry;"⟩ : MethodName) (head1 (Jvm.Cond.code (⟨"com/example/round_table/roundtable/engine/OrderList", "previous", "(Lcom/example/round_table/roundtable/engine/OrderList$Entry;)Lcom/example/round_table/roundtable/engine/OrderList$Entry;"⟩ : MethodName) prog_60_method_4_code 2 (some (.object "com/example/round_table/roundtable/engine/OrderList$Entry")) :: ws) ({ frames := 0, cells := 0, slots := 0, locals := 0 } : Room)) (fun as' U => as' = #[(.ref o), (.ref a)] ∧ Z.Warmed39 U.vm ∧ U.heap = h0) (fun _ _ _ _ _ => True) (fun _ U_ o_ U'_ => ∃ v_ L_, o_ = .returned v_ ∧ Q_prevE Z o a hd h0 n0 v_ U'_.heap L_ ∧ FrameEnd U_ o_ U'_ L_ ({ frames := 0, cells := 0, slots := 0, locals := 0 } : Room).cells ({ frames := 0, cells := 0, slots := 0, locals := 0 } : Room).slots) := by
  refine MetFree.of_bodySF (plainFor_of_name pn_1) hisR ?_
  intro p e s m args below meth c s₁ Bd hml0 hP hK
  obtain ⟨rfl, hZ, hh⟩ := hP
  have hx := Bd.exec
  have hby := Bd.bytes
  have hml : c.maxLocals = 2 := hml0
  have hown : s.vm.findClass "com/example/round_table/roundtable/engine/OrderList" = some m.cls := findClass_of_methodNamed Bd.named
  have hnm := (name_of_methodNamed Bd.named Bd.method).1
  have X0 : Stand p l e ({ frames := 0, cells := 0, slots := 0, locals := 0 } : Room) s m #[(.ref o), (.ref a)] below meth c s₁ [] 0 0 := Stand.of_body Bd
  have e0 : s₁.heap = h0 := by rw [← hh, Bd.state]; rfl
  have N0 := Fr.nil n0
  refine RunsTo.start (ef_rm_prevE m o a) ?_
  show RunsTo p e below s s₁ (mkF m 0 #[.val (.ref o), .val (.ref a)] []) (Q_prevE Z o a hd h0 n0) ({ frames := 0, cells := 0, slots := 0, locals := 0 } : Room).cells ({ frames := 0, cells := 0, slots := 0, locals := 0 } : Room).slots
  refine RunsTo.of (T' := s₁) (g' := (mkF m 1 #[.val (.ref o), .val (.ref a)] [(.ref a)])) (fun tgt_ kt => ?_) ?_
  · refine XS.aloadN X0.here hx rfl (hb hby d10_0) rfl rfl ?_
    show Steps p.tables e below (s₁.setTop (mkF m 1 #[.val (.ref o), .val (.ref a)] [(.ref a)])) _
    exact kt
  obtain ⟨T1, X1, e1, st1⟩ := getFR X0 hx hZ hown (hw _ (List.mem_of_getElem? (i := 44) rfl)) e0 F_previous_a (g := (mkF m 1 #[.val (.ref o), .val (.ref a)] [(.ref a)])) rfl rfl (hb hby d10_1)
  refine RunsTo.of (T' := T1) (g' := (mkF m 4 #[.val (.ref o), .val (.ref a)] [(.ref hd)])) st1 ?_
  refine RunsTo.of (T' := T1) (g' := (mkF m 5 #[.val (.ref o), .val (.ref a)] [(.ref o), (.ref hd)])) (fun tgt_ kt => ?_) ?_
  · refine XS.aloadN X1.here hx rfl (hb hby d10_4) rfl rfl ?_
    show Steps p.tables e below (T1.setTop (mkF m 5 #[.val (.ref o), .val (.ref a)] [(.ref o), (.ref hd)])) _
    exact kt
  obtain ⟨T2, X2, e2, st2⟩ := getF X1 hx hZ hown (host := "") (Or.inl (hw _ (List.mem_of_getElem? (i := 17) rfl))) Via.refl e1 F_head_o (g := (mkF m 5 #[.val (.ref o), .val (.ref a)] [(.ref o), (.ref hd)])) rfl rfl (hb hby d10_5)
  refine RunsTo.of (T' := T2) (g' := (mkF m 8 #[.val (.ref o), .val (.ref a)] [(.ref hd), (.ref hd)])) st2 ?_
  refine RunsTo.of (T' := T2) (g' := (mkF m 19 #[.val (.ref o), .val (.ref a)] [.null])) (fun tgt_ kt => ?_) ?_
  · refine Jvm.RoadKit.acmp (g := (mkF m 8 #[.val (.ref o), .val (.ref a)] [(.ref hd), (.ref hd)])) X2 hx rfl rfl rfl (pc0 := 8) (pc' := 11) (same := true) rfl (hb hby d10_8) rfl (decide_eq_true (congrArg Value.ref rfl)) (by decide) (by decide) ?_
    show Steps p.tables e below (T2.setTop (mkF m 11 #[.val (.ref o), .val (.ref a)] [])) _
    refine XS.aconstNull X2.here hx rfl (hb hby d10_11) ?_
    show Steps p.tables e below (T2.setTop (mkF m 12 #[.val (.ref o), .val (.ref a)] [.null])) _
    refine XS.goto X2.here hx rfl (pc0 := 12) (pc' := 19) rfl (hb hby d10_12) (by decide) (by decide) ?_
    show Steps p.tables e below (T2.setTop (mkF m 19 #[.val (.ref o), .val (.ref a)] [.null])) _
    exact kt
  refine RunsTo.retA X2 hx Bd.returns rfl rfl Bd.notSynchronized (hb hby d10_19) ?_ (by decide) (by decide)
  rw [e2]
  exact ⟨rfl, N0, rfl⟩
theorem d10_15 : decode prog_60_method_4_code 15 = .ok (.aload_n 1, 1) := by decide +kernel
theorem d10_16 : decode prog_60_method_4_code 16 = .ok (.getfield 44, 3) := by decide +kernel
theorem ef_rm_prevN (m : MethodId) (x0 : Addr) (x1 : Addr) : entryFrame m #[(.ref x0), (.ref x1)] 2 = mkF m 0 #[.val (.ref x0), .val (.ref x1)] [] := by first | (simp [entryFrame, mkF, argsToLocals, Value.category]; done) | rfl
def Q_prevN (Z : State) (o : Addr) (a : Addr) (hd pv : Addr) (h0 : Heap) (n0 : Nat) (v : Option Value) (h : Heap) (L : List Loc) : Prop := v = some (.ref pv) ∧ Fr n0 L ∧ h = h0
set_option maxRecDepth 65536 in
set_option maxHeartbeats 40000000 in
theorem rm_prevN (l : Launch) (Z : State) (a0 : Array Value) (hw : ∀ d ∈ tables_1, d.before a0 Z = true) (ws : List Jvm.Cond) (o : Addr) (a : Addr) (hd pv : Addr) (h0 : Heap) (n0 : Nat) (Z0 : n0 ≤ h0.size) (F_head_o : Fld Z h0 o "com/example/round_table/roundtable/engine/OrderList" "head" "Lcom/example/round_table/roundtable/engine/OrderList$Entry;" (.ref hd)) (F_previous_a : Fld Z h0 a "com/example/round_table/roundtable/engine/OrderList$Entry" "previous" "Lcom/example/round_table/roundtable/engine/OrderList$Entry;" (.ref pv)) (hne : pv ≠ hd) :
    MetFree l (⟨"com/example/round_table/roundtable/engine/OrderList", "previous", "(Lcom/example/round_table/roundtable/engine/OrderList$Entry;)Lcom/example/round_table/roundtable/engine/OrderList$Entry;"⟩ : MethodName) (head1 (Jvm.Cond.code (⟨"com/example/round_table/roundtable/engine/OrderList", "previous", "(Lcom/example/round_table/roundtable/engine/OrderList$Entry;)Lcom/example/round_table/roundtable/engine/OrderList$Entry;"⟩ : MethodName) prog_60_method_4_code 2 (some (.object "com/example/round_table/roundtable/engine/OrderList$Entry")) :: ws) ({ frames := 0, cells := 0, slots := 0, locals := 0 } : Room)) (fun as' U => as' = #[(.ref o), (.ref a)] ∧ Z.Warmed39 U.vm ∧ U.heap = h0) (fun _ _ _ _ _ => True) (fun _ U_ o_ U'_ => ∃ v_ L_, o_ = .returned v_ ∧ Q_prevN Z o a hd pv h0 n0 v_ U'_.heap L_ ∧ FrameEnd U_ o_ U'_ L_ ({ frames := 0, cells := 0, slots := 0, locals := 0 } : Room).cells ({ frames := 0, cells := 0, slots := 0, locals := 0 } : Room).slots) := by
  refine MetFree.of_bodySF (plainFor_of_name pn_1) hisR ?_
  intro p e s m args below meth c s₁ Bd hml0 hP hK
  obtain ⟨rfl, hZ, hh⟩ := hP
  have hx := Bd.exec
  have hby := Bd.bytes
  have hml : c.maxLocals = 2 := hml0
  have hown : s.vm.findClass "com/example/round_table/roundtable/engine/OrderList" = some m.cls := findClass_of_methodNamed Bd.named
  have hnm := (name_of_methodNamed Bd.named Bd.method).1
  have X0 : Stand p l e ({ frames := 0, cells := 0, slots := 0, locals := 0 } : Room) s m #[(.ref o), (.ref a)] below meth c s₁ [] 0 0 := Stand.of_body Bd
  have e0 : s₁.heap = h0 := by rw [← hh, Bd.state]; rfl
  have N0 := Fr.nil n0
  refine RunsTo.start (ef_rm_prevN m o a) ?_
  show RunsTo p e below s s₁ (mkF m 0 #[.val (.ref o), .val (.ref a)] []) (Q_prevN Z o a hd pv h0 n0) ({ frames := 0, cells := 0, slots := 0, locals := 0 } : Room).cells ({ frames := 0, cells := 0, slots := 0, locals := 0 } : Room).slots
  refine RunsTo.of (T' := s₁) (g' := (mkF m 1 #[.val (.ref o), .val (.ref a)] [(.ref a)])) (fun tgt_ kt => ?_) ?_
  · refine XS.aloadN X0.here hx rfl (hb hby d10_0) rfl rfl ?_
    show Steps p.tables e below (s₁.setTop (mkF m 1 #[.val (.ref o), .val (.ref a)] [(.ref a)])) _
    exact kt
  obtain ⟨T1, X1, e1, st1⟩ := getFR X0 hx hZ hown (hw _ (List.mem_of_getElem? (i := 44) rfl)) e0 F_previous_a (g := (mkF m 1 #[.val (.ref o), .val (.ref a)] [(.ref a)])) rfl rfl (hb hby d10_1)
  refine RunsTo.of (T' := T1) (g' := (mkF m 4 #[.val (.ref o), .val (.ref a)] [(.ref pv)])) st1 ?_
  refine RunsTo.of (T' := T1) (g' := (mkF m 5 #[.val (.ref o), .val (.ref a)] [(.ref o), (.ref pv)])) (fun tgt_ kt => ?_) ?_
  · refine XS.aloadN X1.here hx rfl (hb hby d10_4) rfl rfl ?_
    show Steps p.tables e below (T1.setTop (mkF m 5 #[.val (.ref o), .val (.ref a)] [(.ref o), (.ref pv)])) _
    exact kt
  obtain ⟨T2, X2, e2, st2⟩ := getF X1 hx hZ hown (host := "") (Or.inl (hw _ (List.mem_of_getElem? (i := 17) rfl))) Via.refl e1 F_head_o (g := (mkF m 5 #[.val (.ref o), .val (.ref a)] [(.ref o), (.ref pv)])) rfl rfl (hb hby d10_5)
  refine RunsTo.of (T' := T2) (g' := (mkF m 8 #[.val (.ref o), .val (.ref a)] [(.ref hd), (.ref pv)])) st2 ?_
  refine RunsTo.of (T' := T2) (g' := (mkF m 16 #[.val (.ref o), .val (.ref a)] [(.ref a)])) (fun tgt_ kt => ?_) ?_
  · refine Jvm.RoadKit.acmp (g := (mkF m 8 #[.val (.ref o), .val (.ref a)] [(.ref hd), (.ref pv)])) X2 hx rfl rfl rfl (pc0 := 8) (pc' := 15) (same := false) rfl (hb hby d10_8) rfl (decide_eq_false fun q => hne (Value.ref.inj q)) (by decide) (by decide) ?_
    show Steps p.tables e below (T2.setTop (mkF m 15 #[.val (.ref o), .val (.ref a)] [])) _
    refine XS.aloadN X2.here hx rfl (hb hby d10_15) rfl rfl ?_
    show Steps p.tables e below (T2.setTop (mkF m 16 #[.val (.ref o), .val (.ref a)] [(.ref a)])) _
    exact kt
  obtain ⟨T3, X3, e3, st3⟩ := getFR X2 hx hZ hown (hw _ (List.mem_of_getElem? (i := 44) rfl)) e2 F_previous_a (g := (mkF m 16 #[.val (.ref o), .val (.ref a)] [(.ref a)])) rfl rfl (hb hby d10_16)
  refine RunsTo.of (T' := T3) (g' := (mkF m 19 #[.val (.ref o), .val (.ref a)] [(.ref pv)])) st3 ?_
  refine RunsTo.retA X3 hx Bd.returns rfl rfl Bd.notSynchronized (hb hby d10_19) ?_ (by decide) (by decide)
  rw [e3]
  exact ⟨rfl, N0, rfl⟩
theorem d6_0 : decode prog_60_method_7_code 0 = .ok (.aload_n 1, 1) := by decide +kernel
theorem d6_1 : decode prog_60_method_7_code 1 = .ok (.ifnonnull 10, 3) := by decide +kernel
theorem d6_4 : decode prog_60_method_7_code 4 = .ok (.aload_n 0, 1) := by decide +kernel
theorem d6_5 : decode prog_60_method_7_code 5 = .ok (.getfield 10, 3) := by decide +kernel
theorem d6_8 : decode prog_60_method_7_code 8 = .ok (.goto 4, 3) := by decide +kernel
theorem d6_12 : decode prog_60_method_7_code 12 = .ok (.astore_n 3, 1) := by decide +kernel
theorem d6_13 : decode prog_60_method_7_code 13 = .ok (.aload_n 3, 1) := by decide +kernel
theorem d6_14 : decode prog_60_method_7_code 14 = .ok (.getfield 47, 3) := by decide +kernel
theorem d6_17 : decode prog_60_method_7_code 17 = .ok (.astore 4, 2) := by decide +kernel
theorem d6_19 : decode prog_60_method_7_code 19 = .ok (.aload_n 2, 1) := by decide +kernel
theorem d6_20 : decode prog_60_method_7_code 20 = .ok (.aload_n 3, 1) := by decide +kernel
theorem d6_21 : decode prog_60_method_7_code 21 = .ok (.putfield 44, 3) := by decide +kernel
theorem d6_24 : decode prog_60_method_7_code 24 = .ok (.aload_n 2, 1) := by decide +kernel
theorem d6_25 : decode prog_60_method_7_code 25 = .ok (.aload 4, 2) := by decide +kernel
theorem d6_27 : decode prog_60_method_7_code 27 = .ok (.putfield 47, 3) := by decide +kernel
theorem d6_30 : decode prog_60_method_7_code 30 = .ok (.aload_n 3, 1) := by decide +kernel
theorem d6_31 : decode prog_60_method_7_code 31 = .ok (.aload_n 2, 1) := by decide +kernel
theorem d6_32 : decode prog_60_method_7_code 32 = .ok (.putfield 47, 3) := by decide +kernel
theorem d6_35 : decode prog_60_method_7_code 35 = .ok (.aload 4, 2) := by decide +kernel
theorem d6_37 : decode prog_60_method_7_code 37 = .ok (.ifnonnull 11, 3) := by decide +kernel
theorem d6_40 : decode prog_60_method_7_code 40 = .ok (.aload_n 0, 1) := by decide +kernel
theorem d6_41 : decode prog_60_method_7_code 41 = .ok (.aload_n 2, 1) := by decide +kernel
theorem d6_42 : decode prog_60_method_7_code 42 = .ok (.putfield 16, 3) := by decide +kernel
theorem d6_45 : decode prog_60_method_7_code 45 = .ok (.goto 9, 3) := by decide +kernel
theorem d6_54 : decode prog_60_method_7_code 54 = .ok (.aload 4, 2) := by decide +kernel
theorem d6_56 : decode prog_60_method_7_code 56 = .ok (.ifnonnull 12, 3) := by decide +kernel
theorem d6_59 : decode prog_60_method_7_code 59 = .ok (.lconst 1, 1) := by decide +kernel
theorem d6_60 : decode prog_60_method_7_code 60 = .ok (.aload_n 0, 1) := by decide +kernel
theorem d6_61 : decode prog_60_method_7_code 61 = .ok (.getfield 28, 3) := by decide +kernel
theorem d6_64 : decode prog_60_method_7_code 64 = .ok (.lshl, 1) := by decide +kernel
theorem d6_65 : decode prog_60_method_7_code 65 = .ok (.goto 8, 3) := by decide +kernel
theorem d6_73 : decode prog_60_method_7_code 73 = .ok (.aload_n 3, 1) := by decide +kernel
theorem d6_74 : decode prog_60_method_7_code 74 = .ok (.getfield 57, 3) := by decide +kernel
theorem d6_77 : decode prog_60_method_7_code 77 = .ok (.lsub, 1) := by decide +kernel
theorem d6_78 : decode prog_60_method_7_code 78 = .ok (.lstore 5, 2) := by decide +kernel
theorem d6_80 : decode prog_60_method_7_code 80 = .ok (.lload 5, 2) := by decide +kernel
theorem d6_82 : decode prog_60_method_7_code 82 = .ok (.lconst 1, 1) := by decide +kernel
theorem d6_83 : decode prog_60_method_7_code 83 = .ok (.lcmp, 1) := by decide +kernel
theorem d6_84 : decode prog_60_method_7_code 84 = .ok (.ifCond .le 42, 3) := by decide +kernel
theorem d6_87 : decode prog_60_method_7_code 87 = .ok (.aload_n 2, 1) := by decide +kernel
theorem d6_88 : decode prog_60_method_7_code 88 = .ok (.aload_n 3, 1) := by decide +kernel
theorem d6_89 : decode prog_60_method_7_code 89 = .ok (.getfield 57, 3) := by decide +kernel
theorem d6_92 : decode prog_60_method_7_code 92 = .ok (.aload 4, 2) := by decide +kernel
theorem d6_94 : decode prog_60_method_7_code 94 = .ok (.ifnonnull 19, 3) := by decide +kernel
theorem d6_97 : decode prog_60_method_7_code 97 = .ok (.aload_n 0, 1) := by decide +kernel
theorem d6_98 : decode prog_60_method_7_code 98 = .ok (.getfield 32, 3) := by decide +kernel
theorem d6_101 : decode prog_60_method_7_code 101 = .ok (.lload 5, 2) := by decide +kernel
theorem d6_103 : decode prog_60_method_7_code 103 = .ok (.ldc2_w 60, 3) := by decide +kernel
theorem d6_106 : decode prog_60_method_7_code 106 = .ok (.ldiv, 1) := by decide +kernel
theorem pd_1 : parseMethodDescriptor "(JJ)J" = some ⟨[.long, .long], some .long⟩ := by decide +kernel
theorem d6_107 : decode prog_60_method_7_code 107 = .ok (.invokestatic 62, 3) := by decide +kernel
theorem d6_110 : decode prog_60_method_7_code 110 = .ok (.goto 9, 3) := by decide +kernel
theorem d6_119 : decode prog_60_method_7_code 119 = .ok (.ladd, 1) := by decide +kernel
theorem d6_120 : decode prog_60_method_7_code 120 = .ok (.putfield 57, 3) := by decide +kernel
theorem d6_123 : decode prog_60_method_7_code 123 = .ok (.goto 16, 3) := by decide +kernel
theorem d6_139 : decode prog_60_method_7_code 139 = .ok (.return_, 1) := by decide +kernel
theorem ef_rm_insE (m : MethodId) (x0 : Addr) (x2 : Addr) : entryFrame m #[(.ref x0), .null, (.ref x2)] 7 = mkF m 0 #[.val (.ref x0), .val .null, .val (.ref x2), .unset, .unset, .unset, .unset] [] := by first | (simp [entryFrame, mkF, argsToLocals, Value.category]; done) | rfl
def Q_insE (Z : State) (o : Addr) (en : Addr) (hd : Addr) (bits : Int32) (eg RR lb ol : Int64) (h0 : Heap) (n0 : Nat) (v : Option Value) (h : Heap) (L : List Loc) : Prop := ∃ lab : Int64, v = none ∧ Fr n0 L ∧ Keep h0 h [o, hd, en] ∧ Fld Z h o "com/example/round_table/roundtable/engine/OrderList" "head" "Lcom/example/round_table/roundtable/engine/OrderList$Entry;" (.ref hd) ∧ Fld Z h o "com/example/round_table/roundtable/engine/OrderList" "last" "Lcom/example/round_table/roundtable/engine/OrderList$Entry;" (.ref en) ∧ Fld Z h o "com/example/round_table/roundtable/engine/OrderList" "labelBits" "I" (.int bits) ∧ Fld Z h o "com/example/round_table/roundtable/engine/OrderList" "endGap" "J" (.long eg) ∧ Fld Z h hd "com/example/round_table/roundtable/engine/OrderList$Entry" "label" "J" (.long lb) ∧ Fld Z h hd "com/example/round_table/roundtable/engine/OrderList$Entry" "previous" "Lcom/example/round_table/roundtable/engine/OrderList$Entry;" .null ∧ Fld Z h hd "com/example/round_table/roundtable/engine/OrderList$Entry" "next" "Lcom/example/round_table/roundtable/engine/OrderList$Entry;" (.ref en) ∧ Fld Z h en "com/example/round_table/roundtable/engine/OrderList$Entry" "label" "J" (.long lab) ∧ Fld Z h en "com/example/round_table/roundtable/engine/OrderList$Entry" "previous" "Lcom/example/round_table/roundtable/engine/OrderList$Entry;" (.ref hd) ∧ Fld Z h en "com/example/round_table/roundtable/engine/OrderList$Entry" "next" "Lcom/example/round_table/roundtable/engine/OrderList$Entry;" .null ∧ lb.toInt + 1 ≤ lab.toInt ∧ (4 ≤ RR.toInt - lb.toInt → lb.toInt + 2 ≤ lab.toInt) ∧ RR.toInt - lb.toInt ≤ 2 * (RR.toInt - lab.toInt)
set_option maxRecDepth 65536 in
set_option maxHeartbeats 40000000 in
theorem rm_insE (l : Launch) (Z : State) (a0 : Array Value) (hw : ∀ d ∈ tables_1, d.before a0 Z = true) (ws : List Jvm.Cond) (o : Addr) (en : Addr) (hd : Addr) (bits : Int32) (eg RR lb ol : Int64) (h0 : Heap) (n0 : Nat) (Z0 : n0 ≤ h0.size) (E_o : Exa Z h0 o "com/example/round_table/roundtable/engine/OrderList") (g_o : n0 ≤ o) (F_head_o : Fld Z h0 o "com/example/round_table/roundtable/engine/OrderList" "head" "Lcom/example/round_table/roundtable/engine/OrderList$Entry;" (.ref hd)) (F_last_o : Fld Z h0 o "com/example/round_table/roundtable/engine/OrderList" "last" "Lcom/example/round_table/roundtable/engine/OrderList$Entry;" (.ref hd)) (F_labelBits_o : Fld Z h0 o "com/example/round_table/roundtable/engine/OrderList" "labelBits" "I" (.int bits)) (F_endGap_o : Fld Z h0 o "com/example/round_table/roundtable/engine/OrderList" "endGap" "J" (.long eg)) (E_hd : Exa Z h0 hd "com/example/round_table/roundtable/engine/OrderList$Entry") (g_hd : n0 ≤ hd) (F_label_hd : Fld Z h0 hd "com/example/round_table/roundtable/engine/OrderList$Entry" "label" "J" (.long lb)) (F_previous_hd : Fld Z h0 hd "com/example/round_table/roundtable/engine/OrderList$Entry" "previous" "Lcom/example/round_table/roundtable/engine/OrderList$Entry;" .null) (F_next_hd : Fld Z h0 hd "com/example/round_table/roundtable/engine/OrderList$Entry" "next" "Lcom/example/round_table/roundtable/engine/OrderList$Entry;" .null) (E_en : Exa Z h0 en "com/example/round_table/roundtable/engine/OrderList$Entry") (g_en : n0 ≤ en) (F_label_en : Fld Z h0 en "com/example/round_table/roundtable/engine/OrderList$Entry" "label" "J" (.long ol)) (F_previous_en : Fld Z h0 en "com/example/round_table/roundtable/engine/OrderList$Entry" "previous" "Lcom/example/round_table/roundtable/engine/OrderList$Entry;" .null) (F_next_en : Fld Z h0 en "com/example/round_table/roundtable/engine/OrderList$Entry" "next" "Lcom/example/round_table/roundtable/engine/OrderList$Entry;" .null) (ne_o_hd : o ≠ hd) (ne_o_en : o ≠ en) (ne_hd_en : hd ≠ en) (hRR : RR = (1 : Int64) <<< (bits &&& 0x3f).toInt64) (hR : RR.toInt ≤ 4611686018427387904) (heg : 2 ≤ eg.toInt) (hlb : 0 ≤ lb.toInt) (hroom : lb.toInt + 2 ≤ RR.toInt)  :
    MetFree l (⟨"com/example/round_table/roundtable/engine/OrderList", "insertAfter", "(Lcom/example/round_table/roundtable/engine/OrderList$Entry;Lcom/example/round_table/roundtable/engine/OrderList$Entry;)V"⟩ : MethodName) (head1 (Jvm.Cond.code (⟨"com/example/round_table/roundtable/engine/OrderList", "insertAfter", "(Lcom/example/round_table/roundtable/engine/OrderList$Entry;Lcom/example/round_table/roundtable/engine/OrderList$Entry;)V"⟩ : MethodName) prog_60_method_7_code 7 none :: ws) ({ frames := 1, cells := 0, slots := 0, locals := 18 } : Room)) (fun as' U => as' = #[(.ref o), .null, (.ref en)] ∧ Z.Warmed39 U.vm ∧ U.heap = h0) (fun _ _ _ _ _ => True) (fun _ U_ o_ U'_ => ∃ v_ L_, o_ = .returned v_ ∧ Q_insE Z o en hd bits eg RR lb ol h0 n0 v_ U'_.heap L_ ∧ FrameEnd U_ o_ U'_ L_ ({ frames := 1, cells := 0, slots := 0, locals := 18 } : Room).cells ({ frames := 1, cells := 0, slots := 0, locals := 18 } : Room).slots) := by
  refine MetFree.of_bodySF (plainFor_of_name pn_1) hisR ?_
  intro p e s m args below meth c s₁ Bd hml0 hP hK
  obtain ⟨rfl, hZ, hh⟩ := hP
  have hx := Bd.exec
  have hby := Bd.bytes
  have hml : c.maxLocals = 7 := hml0
  have hown : s.vm.findClass "com/example/round_table/roundtable/engine/OrderList" = some m.cls := findClass_of_methodNamed Bd.named
  have hnm := (name_of_methodNamed Bd.named Bd.method).1
  have X0 : Stand p l e ({ frames := 1, cells := 0, slots := 0, locals := 18 } : Room) s m #[(.ref o), .null, (.ref en)] below meth c s₁ [] 0 0 := Stand.of_body Bd
  have e0 : s₁.heap = h0 := by rw [← hh, Bd.state]; rfl
  have N0 := Fr.nil n0
  refine RunsTo.start (ef_rm_insE m o en) ?_
  show RunsTo p e below s s₁ (mkF m 0 #[.val (.ref o), .val .null, .val (.ref en), .unset, .unset, .unset, .unset] []) (Q_insE Z o en hd bits eg RR lb ol h0 n0) ({ frames := 1, cells := 0, slots := 0, locals := 18 } : Room).cells ({ frames := 1, cells := 0, slots := 0, locals := 18 } : Room).slots
  have KP := Keep.refl h0 [o, hd, en]
  refine RunsTo.of (T' := s₁) (g' := (mkF m 5 #[.val (.ref o), .val .null, .val (.ref en), .unset, .unset, .unset, .unset] [(.ref o)])) (fun tgt_ kt => ?_) ?_
  · refine XS.aloadN X0.here hx rfl (hb hby d6_0) rfl rfl ?_
    show Steps p.tables e below (s₁.setTop (mkF m 1 #[.val (.ref o), .val .null, .val (.ref en), .unset, .unset, .unset, .unset] [.null])) _
    refine XS.ifnonnullNo X0.here hx rfl (hb hby d6_1) rfl ?_
    show Steps p.tables e below (s₁.setTop (mkF m 4 #[.val (.ref o), .val .null, .val (.ref en), .unset, .unset, .unset, .unset] [])) _
    refine XS.aloadN X0.here hx rfl (hb hby d6_4) rfl rfl ?_
    show Steps p.tables e below (s₁.setTop (mkF m 5 #[.val (.ref o), .val .null, .val (.ref en), .unset, .unset, .unset, .unset] [(.ref o)])) _
    exact kt
  obtain ⟨T1, X1, e1, st1⟩ := getF X0 hx hZ hown (host := "") (Or.inl (hw _ (List.mem_of_getElem? (i := 17) rfl))) Via.refl e0 F_head_o (g := (mkF m 5 #[.val (.ref o), .val .null, .val (.ref en), .unset, .unset, .unset, .unset] [(.ref o)])) rfl rfl (hb hby d6_5)
  refine RunsTo.of (T' := T1) (g' := (mkF m 8 #[.val (.ref o), .val .null, .val (.ref en), .unset, .unset, .unset, .unset] [(.ref hd)])) st1 ?_
  refine RunsTo.of (T' := T1) (g' := (mkF m 14 #[.val (.ref o), .val .null, .val (.ref en), .val (.ref hd), .unset, .unset, .unset] [(.ref hd)])) (fun tgt_ kt => ?_) ?_
  · refine XS.goto X1.here hx rfl (pc0 := 8) (pc' := 12) rfl (hb hby d6_8) (by decide) (by decide) ?_
    show Steps p.tables e below (T1.setTop (mkF m 12 #[.val (.ref o), .val .null, .val (.ref en), .unset, .unset, .unset, .unset] [(.ref hd)])) _
    refine XS.astoreN X1.here hx rfl (hb hby d6_12) rfl rfl (l' := #[.val (.ref o), .val .null, .val (.ref en), .val (.ref hd), .unset, .unset, .unset]) rfl ?_
    show Steps p.tables e below (T1.setTop (mkF m 13 #[.val (.ref o), .val .null, .val (.ref en), .val (.ref hd), .unset, .unset, .unset] [])) _
    refine XS.aloadN X1.here hx rfl (hb hby d6_13) rfl rfl ?_
    show Steps p.tables e below (T1.setTop (mkF m 14 #[.val (.ref o), .val .null, .val (.ref en), .val (.ref hd), .unset, .unset, .unset] [(.ref hd)])) _
    exact kt
  obtain ⟨T2, X2, e2, st2⟩ := getFR X1 hx hZ hown (hw _ (List.mem_of_getElem? (i := 42) rfl)) e1 F_next_hd (g := (mkF m 14 #[.val (.ref o), .val .null, .val (.ref en), .val (.ref hd), .unset, .unset, .unset] [(.ref hd)])) rfl rfl (hb hby d6_14)
  refine RunsTo.of (T' := T2) (g' := (mkF m 17 #[.val (.ref o), .val .null, .val (.ref en), .val (.ref hd), .unset, .unset, .unset] [.null])) st2 ?_
  refine RunsTo.of (T' := T2) (g' := (mkF m 21 #[.val (.ref o), .val .null, .val (.ref en), .val (.ref hd), .val .null, .unset, .unset] [(.ref hd), (.ref en)])) (fun tgt_ kt => ?_) ?_
  · refine XS.astore X2.here hx rfl (hb hby d6_17) rfl rfl (l' := #[.val (.ref o), .val .null, .val (.ref en), .val (.ref hd), .val .null, .unset, .unset]) rfl ?_
    show Steps p.tables e below (T2.setTop (mkF m 19 #[.val (.ref o), .val .null, .val (.ref en), .val (.ref hd), .val .null, .unset, .unset] [])) _
    refine XS.aloadN X2.here hx rfl (hb hby d6_19) rfl rfl ?_
    show Steps p.tables e below (T2.setTop (mkF m 20 #[.val (.ref o), .val .null, .val (.ref en), .val (.ref hd), .val .null, .unset, .unset] [(.ref en)])) _
    refine XS.aloadN X2.here hx rfl (hb hby d6_20) rfl rfl ?_
    show Steps p.tables e below (T2.setTop (mkF m 21 #[.val (.ref o), .val .null, .val (.ref en), .val (.ref hd), .val .null, .unset, .unset] [(.ref hd), (.ref en)])) _
    exact kt
  obtain ⟨T3, h3, X3, e3, W3, st3⟩ := putFR X2 hx hZ hown (hw _ (List.mem_of_getElem? (i := 44) rfl)) e2 F_previous_en E_en (hw _ (List.mem_of_getElem? (i := 45) rfl)) (hw _ (List.mem_of_getElem? (i := 11) rfl)) (ty := (.object "com/example/round_table/roundtable/engine/OrderList$Entry")) (by decide) rfl rfl (g := (mkF m 21 #[.val (.ref o), .val .null, .val (.ref en), .val (.ref hd), .val .null, .unset, .unset] [(.ref hd), (.ref en)])) rfl rfl (hb hby d6_21)
  have N3 := Fr.snoc X3 N0 g_en
  have Z3 : n0 ≤ h3.size := Nat.le_trans Z0 (Nat.le_of_eq W3.size.symm)
  have E_o := E_o.wr W3
  have F_head_o := F_head_o.other W3 (Or.inl ne_o_en)
  have F_last_o := F_last_o.other W3 (Or.inl ne_o_en)
  have F_labelBits_o := F_labelBits_o.other W3 (Or.inl ne_o_en)
  have F_endGap_o := F_endGap_o.other W3 (Or.inl ne_o_en)
  have E_hd := E_hd.wr W3
  have F_label_hd := F_label_hd.other W3 (Or.inl ne_hd_en)
  have F_previous_hd := F_previous_hd.other W3 (Or.inl ne_hd_en)
  have F_next_hd := F_next_hd.other W3 (Or.inl ne_hd_en)
  have E_en := E_en.wr W3
  have F_label_en := F_label_en.other W3 (Or.inr (slot_ne (Or.inl (hw _ (List.mem_of_getElem? (i := 47) rfl))) (Or.inl (hw _ (List.mem_of_getElem? (i := 45) rfl))) (by decide) (t := .long) (t' := (.object "com/example/round_table/roundtable/engine/OrderList$Entry")) (by decide) (by decide)))
  have F_previous_en := F_previous_en.same W3
  have F_next_en := F_next_en.other W3 (Or.inr (slot_ne (Or.inl (hw _ (List.mem_of_getElem? (i := 43) rfl))) (Or.inl (hw _ (List.mem_of_getElem? (i := 45) rfl))) (by decide) (t := (.object "com/example/round_table/roundtable/engine/OrderList$Entry")) (t' := (.object "com/example/round_table/roundtable/engine/OrderList$Entry")) (by decide) (by decide)))
  have KP := KP.wr W3 (Or.inl (List.mem_of_getElem? (i := 2) rfl))
  refine RunsTo.of (T' := T3) (g' := (mkF m 24 #[.val (.ref o), .val .null, .val (.ref en), .val (.ref hd), .val .null, .unset, .unset] [])) st3 ?_
  refine RunsTo.of (T' := T3) (g' := (mkF m 27 #[.val (.ref o), .val .null, .val (.ref en), .val (.ref hd), .val .null, .unset, .unset] [.null, (.ref en)])) (fun tgt_ kt => ?_) ?_
  · refine XS.aloadN X3.here hx rfl (hb hby d6_24) rfl rfl ?_
    show Steps p.tables e below (T3.setTop (mkF m 25 #[.val (.ref o), .val .null, .val (.ref en), .val (.ref hd), .val .null, .unset, .unset] [(.ref en)])) _
    refine XS.aload X3.here hx rfl (hb hby d6_25) rfl rfl ?_
    show Steps p.tables e below (T3.setTop (mkF m 27 #[.val (.ref o), .val .null, .val (.ref en), .val (.ref hd), .val .null, .unset, .unset] [.null, (.ref en)])) _
    exact kt
  obtain ⟨T4, h4, X4, e4, W4, st4⟩ := putFR X3 hx hZ hown (hw _ (List.mem_of_getElem? (i := 42) rfl)) e3 F_next_en E_en (hw _ (List.mem_of_getElem? (i := 43) rfl)) (hw _ (List.mem_of_getElem? (i := 11) rfl)) (ty := (.object "com/example/round_table/roundtable/engine/OrderList$Entry")) (by decide) rfl rfl (g := (mkF m 27 #[.val (.ref o), .val .null, .val (.ref en), .val (.ref hd), .val .null, .unset, .unset] [.null, (.ref en)])) rfl rfl (hb hby d6_27)
  have N4 := Fr.snoc X4 N3 g_en
  have Z4 : n0 ≤ h4.size := Nat.le_trans Z3 (Nat.le_of_eq W4.size.symm)
  have E_o := E_o.wr W4
  have F_head_o := F_head_o.other W4 (Or.inl ne_o_en)
  have F_last_o := F_last_o.other W4 (Or.inl ne_o_en)
  have F_labelBits_o := F_labelBits_o.other W4 (Or.inl ne_o_en)
  have F_endGap_o := F_endGap_o.other W4 (Or.inl ne_o_en)
  have E_hd := E_hd.wr W4
  have F_label_hd := F_label_hd.other W4 (Or.inl ne_hd_en)
  have F_previous_hd := F_previous_hd.other W4 (Or.inl ne_hd_en)
  have F_next_hd := F_next_hd.other W4 (Or.inl ne_hd_en)
  have E_en := E_en.wr W4
  have F_label_en := F_label_en.other W4 (Or.inr (slot_ne (Or.inl (hw _ (List.mem_of_getElem? (i := 47) rfl))) (Or.inl (hw _ (List.mem_of_getElem? (i := 43) rfl))) (by decide) (t := .long) (t' := (.object "com/example/round_table/roundtable/engine/OrderList$Entry")) (by decide) (by decide)))
  have F_previous_en := F_previous_en.other W4 (Or.inr (slot_ne (Or.inl (hw _ (List.mem_of_getElem? (i := 45) rfl))) (Or.inl (hw _ (List.mem_of_getElem? (i := 43) rfl))) (by decide) (t := (.object "com/example/round_table/roundtable/engine/OrderList$Entry")) (t' := (.object "com/example/round_table/roundtable/engine/OrderList$Entry")) (by decide) (by decide)))
  have F_next_en := F_next_en.same W4
  have KP := KP.wr W4 (Or.inl (List.mem_of_getElem? (i := 2) rfl))
  refine RunsTo.of (T' := T4) (g' := (mkF m 30 #[.val (.ref o), .val .null, .val (.ref en), .val (.ref hd), .val .null, .unset, .unset] [])) st4 ?_
  refine RunsTo.of (T' := T4) (g' := (mkF m 32 #[.val (.ref o), .val .null, .val (.ref en), .val (.ref hd), .val .null, .unset, .unset] [(.ref en), (.ref hd)])) (fun tgt_ kt => ?_) ?_
  · refine XS.aloadN X4.here hx rfl (hb hby d6_30) rfl rfl ?_
    show Steps p.tables e below (T4.setTop (mkF m 31 #[.val (.ref o), .val .null, .val (.ref en), .val (.ref hd), .val .null, .unset, .unset] [(.ref hd)])) _
    refine XS.aloadN X4.here hx rfl (hb hby d6_31) rfl rfl ?_
    show Steps p.tables e below (T4.setTop (mkF m 32 #[.val (.ref o), .val .null, .val (.ref en), .val (.ref hd), .val .null, .unset, .unset] [(.ref en), (.ref hd)])) _
    exact kt
  obtain ⟨T5, h5, X5, e5, W5, st5⟩ := putFR X4 hx hZ hown (hw _ (List.mem_of_getElem? (i := 42) rfl)) e4 F_next_hd E_hd (hw _ (List.mem_of_getElem? (i := 43) rfl)) (hw _ (List.mem_of_getElem? (i := 11) rfl)) (ty := (.object "com/example/round_table/roundtable/engine/OrderList$Entry")) (by decide) rfl rfl (g := (mkF m 32 #[.val (.ref o), .val .null, .val (.ref en), .val (.ref hd), .val .null, .unset, .unset] [(.ref en), (.ref hd)])) rfl rfl (hb hby d6_32)
  have N5 := Fr.snoc X5 N4 g_hd
  have Z5 : n0 ≤ h5.size := Nat.le_trans Z4 (Nat.le_of_eq W5.size.symm)
  have E_o := E_o.wr W5
  have F_head_o := F_head_o.other W5 (Or.inl ne_o_hd)
  have F_last_o := F_last_o.other W5 (Or.inl ne_o_hd)
  have F_labelBits_o := F_labelBits_o.other W5 (Or.inl ne_o_hd)
  have F_endGap_o := F_endGap_o.other W5 (Or.inl ne_o_hd)
  have E_hd := E_hd.wr W5
  have F_label_hd := F_label_hd.other W5 (Or.inr (slot_ne (Or.inl (hw _ (List.mem_of_getElem? (i := 47) rfl))) (Or.inl (hw _ (List.mem_of_getElem? (i := 43) rfl))) (by decide) (t := .long) (t' := (.object "com/example/round_table/roundtable/engine/OrderList$Entry")) (by decide) (by decide)))
  have F_previous_hd := F_previous_hd.other W5 (Or.inr (slot_ne (Or.inl (hw _ (List.mem_of_getElem? (i := 45) rfl))) (Or.inl (hw _ (List.mem_of_getElem? (i := 43) rfl))) (by decide) (t := (.object "com/example/round_table/roundtable/engine/OrderList$Entry")) (t' := (.object "com/example/round_table/roundtable/engine/OrderList$Entry")) (by decide) (by decide)))
  have F_next_hd := F_next_hd.same W5
  have E_en := E_en.wr W5
  have F_label_en := F_label_en.other W5 (Or.inl (Ne.symm ne_hd_en))
  have F_previous_en := F_previous_en.other W5 (Or.inl (Ne.symm ne_hd_en))
  have F_next_en := F_next_en.other W5 (Or.inl (Ne.symm ne_hd_en))
  have KP := KP.wr W5 (Or.inl (List.mem_of_getElem? (i := 1) rfl))
  refine RunsTo.of (T' := T5) (g' := (mkF m 35 #[.val (.ref o), .val .null, .val (.ref en), .val (.ref hd), .val .null, .unset, .unset] [])) st5 ?_
  refine RunsTo.of (T' := T5) (g' := (mkF m 42 #[.val (.ref o), .val .null, .val (.ref en), .val (.ref hd), .val .null, .unset, .unset] [(.ref en), (.ref o)])) (fun tgt_ kt => ?_) ?_
  · refine XS.aload X5.here hx rfl (hb hby d6_35) rfl rfl ?_
    show Steps p.tables e below (T5.setTop (mkF m 37 #[.val (.ref o), .val .null, .val (.ref en), .val (.ref hd), .val .null, .unset, .unset] [.null])) _
    refine XS.ifnonnullNo X5.here hx rfl (hb hby d6_37) rfl ?_
    show Steps p.tables e below (T5.setTop (mkF m 40 #[.val (.ref o), .val .null, .val (.ref en), .val (.ref hd), .val .null, .unset, .unset] [])) _
    refine XS.aloadN X5.here hx rfl (hb hby d6_40) rfl rfl ?_
    show Steps p.tables e below (T5.setTop (mkF m 41 #[.val (.ref o), .val .null, .val (.ref en), .val (.ref hd), .val .null, .unset, .unset] [(.ref o)])) _
    refine XS.aloadN X5.here hx rfl (hb hby d6_41) rfl rfl ?_
    show Steps p.tables e below (T5.setTop (mkF m 42 #[.val (.ref o), .val .null, .val (.ref en), .val (.ref hd), .val .null, .unset, .unset] [(.ref en), (.ref o)])) _
    exact kt
  obtain ⟨T6, h6, X6, e6, W6, st6⟩ := putF X5 hx hZ hown (host := "") (Or.inl (hw _ (List.mem_of_getElem? (i := 19) rfl))) Via.refl e5 F_last_o E_o (Or.inl (hw _ (List.mem_of_getElem? (i := 20) rfl))) (hw _ (List.mem_of_getElem? (i := 2) rfl)) (ty := (.object "com/example/round_table/roundtable/engine/OrderList$Entry")) (by decide) rfl rfl (g := (mkF m 42 #[.val (.ref o), .val .null, .val (.ref en), .val (.ref hd), .val .null, .unset, .unset] [(.ref en), (.ref o)])) rfl rfl (hb hby d6_42)
  have N6 := Fr.snoc X6 N5 g_o
  have Z6 : n0 ≤ h6.size := Nat.le_trans Z5 (Nat.le_of_eq W6.size.symm)
  have E_o := E_o.wr W6
  have F_head_o := F_head_o.other W6 (Or.inr (slot_ne (Or.inr (hw _ (List.mem_of_getElem? (i := 18) rfl))) (Or.inl (hw _ (List.mem_of_getElem? (i := 20) rfl))) (by decide) (t := (.object "com/example/round_table/roundtable/engine/OrderList$Entry")) (t' := (.object "com/example/round_table/roundtable/engine/OrderList$Entry")) (by decide) (by decide)))
  have F_last_o := F_last_o.same W6
  have F_labelBits_o := F_labelBits_o.other W6 (Or.inr (slot_ne (Or.inr (hw _ (List.mem_of_getElem? (i := 22) rfl))) (Or.inl (hw _ (List.mem_of_getElem? (i := 20) rfl))) (by decide) (t := .int) (t' := (.object "com/example/round_table/roundtable/engine/OrderList$Entry")) (by decide) (by decide)))
  have F_endGap_o := F_endGap_o.other W6 (Or.inr (slot_ne (Or.inr (hw _ (List.mem_of_getElem? (i := 24) rfl))) (Or.inl (hw _ (List.mem_of_getElem? (i := 20) rfl))) (by decide) (t := .long) (t' := (.object "com/example/round_table/roundtable/engine/OrderList$Entry")) (by decide) (by decide)))
  have E_hd := E_hd.wr W6
  have F_label_hd := F_label_hd.other W6 (Or.inl (Ne.symm ne_o_hd))
  have F_previous_hd := F_previous_hd.other W6 (Or.inl (Ne.symm ne_o_hd))
  have F_next_hd := F_next_hd.other W6 (Or.inl (Ne.symm ne_o_hd))
  have E_en := E_en.wr W6
  have F_label_en := F_label_en.other W6 (Or.inl (Ne.symm ne_o_en))
  have F_previous_en := F_previous_en.other W6 (Or.inl (Ne.symm ne_o_en))
  have F_next_en := F_next_en.other W6 (Or.inl (Ne.symm ne_o_en))
  have KP := KP.wr W6 (Or.inl (List.mem_of_getElem? (i := 0) rfl))
  refine RunsTo.of (T' := T6) (g' := (mkF m 45 #[.val (.ref o), .val .null, .val (.ref en), .val (.ref hd), .val .null, .unset, .unset] [])) st6 ?_
  refine RunsTo.of (T' := T6) (g' := (mkF m 61 #[.val (.ref o), .val .null, .val (.ref en), .val (.ref hd), .val .null, .unset, .unset] [(.ref o), (.long (1 : Int64))])) (fun tgt_ kt => ?_) ?_
  · refine XS.goto X6.here hx rfl (pc0 := 45) (pc' := 54) rfl (hb hby d6_45) (by decide) (by decide) ?_
    show Steps p.tables e below (T6.setTop (mkF m 54 #[.val (.ref o), .val .null, .val (.ref en), .val (.ref hd), .val .null, .unset, .unset] [])) _
    refine XS.aload X6.here hx rfl (hb hby d6_54) rfl rfl ?_
    show Steps p.tables e below (T6.setTop (mkF m 56 #[.val (.ref o), .val .null, .val (.ref en), .val (.ref hd), .val .null, .unset, .unset] [.null])) _
    refine XS.ifnonnullNo X6.here hx rfl (hb hby d6_56) rfl ?_
    show Steps p.tables e below (T6.setTop (mkF m 59 #[.val (.ref o), .val .null, .val (.ref en), .val (.ref hd), .val .null, .unset, .unset] [])) _
    refine XS.lconst X6.here hx rfl (hb hby d6_59) ?_
    show Steps p.tables e below (T6.setTop (mkF m 60 #[.val (.ref o), .val .null, .val (.ref en), .val (.ref hd), .val .null, .unset, .unset] [(.long (1 : Int64))])) _
    refine XS.aloadN X6.here hx rfl (hb hby d6_60) rfl rfl ?_
    show Steps p.tables e below (T6.setTop (mkF m 61 #[.val (.ref o), .val .null, .val (.ref en), .val (.ref hd), .val .null, .unset, .unset] [(.ref o), (.long (1 : Int64))])) _
    exact kt
  obtain ⟨T7, X7, e7, st7⟩ := getF X6 hx hZ hown (host := "") (Or.inl (hw _ (List.mem_of_getElem? (i := 21) rfl))) Via.refl e6 F_labelBits_o (g := (mkF m 61 #[.val (.ref o), .val .null, .val (.ref en), .val (.ref hd), .val .null, .unset, .unset] [(.ref o), (.long (1 : Int64))])) rfl rfl (hb hby d6_61)
  refine RunsTo.of (T' := T7) (g' := (mkF m 64 #[.val (.ref o), .val .null, .val (.ref en), .val (.ref hd), .val .null, .unset, .unset] [(.int bits), (.long (1 : Int64))])) st7 ?_
  refine RunsTo.of (T' := T7) (g' := (mkF m 74 #[.val (.ref o), .val .null, .val (.ref en), .val (.ref hd), .val .null, .unset, .unset] [(.ref hd), (.long ((1 : Int64) <<< (bits &&& 0x3f).toInt64))])) (fun tgt_ kt => ?_) ?_
  · refine XS.lshl X7.here hx rfl (hb hby d6_64) rfl ?_
    show Steps p.tables e below (T7.setTop (mkF m 65 #[.val (.ref o), .val .null, .val (.ref en), .val (.ref hd), .val .null, .unset, .unset] [(.long ((1 : Int64) <<< (bits &&& 0x3f).toInt64))])) _
    refine XS.goto X7.here hx rfl (pc0 := 65) (pc' := 73) rfl (hb hby d6_65) (by decide) (by decide) ?_
    show Steps p.tables e below (T7.setTop (mkF m 73 #[.val (.ref o), .val .null, .val (.ref en), .val (.ref hd), .val .null, .unset, .unset] [(.long ((1 : Int64) <<< (bits &&& 0x3f).toInt64))])) _
    refine XS.aloadN X7.here hx rfl (hb hby d6_73) rfl rfl ?_
    show Steps p.tables e below (T7.setTop (mkF m 74 #[.val (.ref o), .val .null, .val (.ref en), .val (.ref hd), .val .null, .unset, .unset] [(.ref hd), (.long ((1 : Int64) <<< (bits &&& 0x3f).toInt64))])) _
    exact kt
  obtain ⟨T8, X8, e8, st8⟩ := getFR X7 hx hZ hown (hw _ (List.mem_of_getElem? (i := 46) rfl)) e7 F_label_hd (g := (mkF m 74 #[.val (.ref o), .val .null, .val (.ref en), .val (.ref hd), .val .null, .unset, .unset] [(.ref hd), (.long ((1 : Int64) <<< (bits &&& 0x3f).toInt64))])) rfl rfl (hb hby d6_74)
  refine RunsTo.of (T' := T8) (g' := (mkF m 77 #[.val (.ref o), .val .null, .val (.ref en), .val (.ref hd), .val .null, .unset, .unset] [(.long lb), (.long ((1 : Int64) <<< (bits &&& 0x3f).toInt64))])) st8 ?_
  refine RunsTo.of (T' := T8) (g' := (mkF m 84 #[.val (.ref o), .val .null, .val (.ref en), .val (.ref hd), .val .null, .val (.long (((1 : Int64) <<< (bits &&& 0x3f).toInt64) - lb)), .second] [(.int (lcmpW (((1 : Int64) <<< (bits &&& 0x3f).toInt64) - lb) (1 : Int64)))])) (fun tgt_ kt => ?_) ?_
  · refine XS.lsub X8.here hx rfl (hb hby d6_77) rfl ?_
    show Steps p.tables e below (T8.setTop (mkF m 78 #[.val (.ref o), .val .null, .val (.ref en), .val (.ref hd), .val .null, .unset, .unset] [(.long (((1 : Int64) <<< (bits &&& 0x3f).toInt64) - lb))])) _
    refine XS.lstore X8.here hx rfl (hb hby d6_78) rfl (l' := #[.val (.ref o), .val .null, .val (.ref en), .val (.ref hd), .val .null, .val (.long (((1 : Int64) <<< (bits &&& 0x3f).toInt64) - lb)), .second]) rfl ?_
    show Steps p.tables e below (T8.setTop (mkF m 80 #[.val (.ref o), .val .null, .val (.ref en), .val (.ref hd), .val .null, .val (.long (((1 : Int64) <<< (bits &&& 0x3f).toInt64) - lb)), .second] [])) _
    refine XS.lload X8.here hx rfl (hb hby d6_80) rfl ?_
    show Steps p.tables e below (T8.setTop (mkF m 82 #[.val (.ref o), .val .null, .val (.ref en), .val (.ref hd), .val .null, .val (.long (((1 : Int64) <<< (bits &&& 0x3f).toInt64) - lb)), .second] [(.long (((1 : Int64) <<< (bits &&& 0x3f).toInt64) - lb))])) _
    refine XS.lconst X8.here hx rfl (hb hby d6_82) ?_
    show Steps p.tables e below (T8.setTop (mkF m 83 #[.val (.ref o), .val .null, .val (.ref en), .val (.ref hd), .val .null, .val (.long (((1 : Int64) <<< (bits &&& 0x3f).toInt64) - lb)), .second] [(.long (1 : Int64)), (.long (((1 : Int64) <<< (bits &&& 0x3f).toInt64) - lb))])) _
    refine XS.lcmp X8.here hx rfl (hb hby d6_83) rfl ?_
    show Steps p.tables e below (T8.setTop (mkF m 84 #[.val (.ref o), .val .null, .val (.ref en), .val (.ref hd), .val .null, .val (.long (((1 : Int64) <<< (bits &&& 0x3f).toInt64) - lb)), .second] [(.int (lcmpW (((1 : Int64) <<< (bits &&& 0x3f).toInt64) - lb) (1 : Int64)))])) _
    exact kt
  rw [← hRR]
  have hrm := own_room RR lb hlb (by omega)
  refine RunsTo.of (T' := T8) (g' := (mkF m 89 #[.val (.ref o), .val .null, .val (.ref en), .val (.ref hd), .val .null, .val (.long (RR - lb)), .second] [(.ref hd), (.ref en)])) (fun tgt_ kt => ?_) ?_
  · refine XS.ifNo X8.here hx rfl (hb hby d6_84) rfl ((if0 _ _).trans (tlt ((lw_gt (RR - lb) (1 : Int64)).mpr (own_lt64 (show (1 : Int64).toInt < (RR - lb).toInt by rw [hrm, show (1 : Int64).toInt = 1 from rfl]; omega)))).2.2.2) ?_
    show Steps p.tables e below (T8.setTop (mkF m 87 #[.val (.ref o), .val .null, .val (.ref en), .val (.ref hd), .val .null, .val (.long (RR - lb)), .second] [])) _
    refine XS.aloadN X8.here hx rfl (hb hby d6_87) rfl rfl ?_
    show Steps p.tables e below (T8.setTop (mkF m 88 #[.val (.ref o), .val .null, .val (.ref en), .val (.ref hd), .val .null, .val (.long (RR - lb)), .second] [(.ref en)])) _
    refine XS.aloadN X8.here hx rfl (hb hby d6_88) rfl rfl ?_
    show Steps p.tables e below (T8.setTop (mkF m 89 #[.val (.ref o), .val .null, .val (.ref en), .val (.ref hd), .val .null, .val (.long (RR - lb)), .second] [(.ref hd), (.ref en)])) _
    exact kt
  obtain ⟨T9, X9, e9, st9⟩ := getFR X8 hx hZ hown (hw _ (List.mem_of_getElem? (i := 46) rfl)) e8 F_label_hd (g := (mkF m 89 #[.val (.ref o), .val .null, .val (.ref en), .val (.ref hd), .val .null, .val (.long (RR - lb)), .second] [(.ref hd), (.ref en)])) rfl rfl (hb hby d6_89)
  refine RunsTo.of (T' := T9) (g' := (mkF m 92 #[.val (.ref o), .val .null, .val (.ref en), .val (.ref hd), .val .null, .val (.long (RR - lb)), .second] [(.long lb), (.ref en)])) st9 ?_
  refine RunsTo.of (T' := T9) (g' := (mkF m 98 #[.val (.ref o), .val .null, .val (.ref en), .val (.ref hd), .val .null, .val (.long (RR - lb)), .second] [(.ref o), (.long lb), (.ref en)])) (fun tgt_ kt => ?_) ?_
  · refine XS.aload X9.here hx rfl (hb hby d6_92) rfl rfl ?_
    show Steps p.tables e below (T9.setTop (mkF m 94 #[.val (.ref o), .val .null, .val (.ref en), .val (.ref hd), .val .null, .val (.long (RR - lb)), .second] [.null, (.long lb), (.ref en)])) _
    refine XS.ifnonnullNo X9.here hx rfl (hb hby d6_94) rfl ?_
    show Steps p.tables e below (T9.setTop (mkF m 97 #[.val (.ref o), .val .null, .val (.ref en), .val (.ref hd), .val .null, .val (.long (RR - lb)), .second] [(.long lb), (.ref en)])) _
    refine XS.aloadN X9.here hx rfl (hb hby d6_97) rfl rfl ?_
    show Steps p.tables e below (T9.setTop (mkF m 98 #[.val (.ref o), .val .null, .val (.ref en), .val (.ref hd), .val .null, .val (.long (RR - lb)), .second] [(.ref o), (.long lb), (.ref en)])) _
    exact kt
  obtain ⟨T10, X10, e10, st10⟩ := getF X9 hx hZ hown (host := "") (Or.inl (hw _ (List.mem_of_getElem? (i := 23) rfl))) Via.refl e9 F_endGap_o (g := (mkF m 98 #[.val (.ref o), .val .null, .val (.ref en), .val (.ref hd), .val .null, .val (.long (RR - lb)), .second] [(.ref o), (.long lb), (.ref en)])) rfl rfl (hb hby d6_98)
  refine RunsTo.of (T' := T10) (g' := (mkF m 101 #[.val (.ref o), .val .null, .val (.ref en), .val (.ref hd), .val .null, .val (.long (RR - lb)), .second] [(.long eg), (.long lb), (.ref en)])) st10 ?_
  refine RunsTo.of (T' := T10) (g' := (mkF m 107 #[.val (.ref o), .val .null, .val (.ref en), .val (.ref hd), .val .null, .val (.long (RR - lb)), .second] [(.long ((RR - lb) / (2 : Int64))), (.long eg), (.long lb), (.ref en)])) (fun tgt_ kt => ?_) ?_
  · refine XS.lload X10.here hx rfl (hb hby d6_101) rfl ?_
    show Steps p.tables e below (T10.setTop (mkF m 103 #[.val (.ref o), .val .null, .val (.ref en), .val (.ref hd), .val .null, .val (.long (RR - lb)), .second] [(.long (RR - lb)), (.long eg), (.long lb), (.ref en)])) _
    refine X10.ldc2Long hx hown (mvT hZ (hw _ (List.mem_of_getElem? (i := 48) rfl))) (g := (mkF m 103 #[.val (.ref o), .val .null, .val (.ref en), .val (.ref hd), .val .null, .val (.long (RR - lb)), .second] [(.long (RR - lb)), (.long eg), (.long lb), (.ref en)])) rfl (hb hby d6_103) _ ?_
    show Steps p.tables e below (T10.setTop (mkF m 106 #[.val (.ref o), .val .null, .val (.ref en), .val (.ref hd), .val .null, .val (.long (RR - lb)), .second] [(.long (2 : Int64)), (.long (RR - lb)), (.long eg), (.long lb), (.ref en)])) _
    refine XS.ldiv X10.here hx rfl (hb hby d6_106) rfl (by decide) ?_
    show Steps p.tables e below (T10.setTop (mkF m 107 #[.val (.ref o), .val .null, .val (.ref en), .val (.ref hd), .val .null, .val (.long (RR - lb)), .second] [(.long ((RR - lb) / (2 : Int64))), (.long eg), (.long lb), (.ref en)])) _
    exact kt
  obtain ⟨_, _, ⟨T11, L11, k11, n11⟩, -, X11, ⟨Lc11, hQ11, l11, y11, z11⟩, st11⟩ := Jvm.LawKit.callS X10 hx (y := (⟨"java/lang/Math", "min", "(JJ)J"⟩ : MethodName)) hown (mvT hZ (hw _ (List.mem_of_getElem? (i := 49) rfl))) (mvT hZ (hw _ (List.mem_of_getElem? (i := 50) rfl))) (mvT hZ (hw _ (List.mem_of_getElem? (i := 51) rfl))) (mvT hZ (hw _ (List.mem_of_getElem? (i := 52) rfl))) (by decide) (backOf (W := 3) (rm7 l Z a0 hw [] eg ((RR - lb) / 2) h6 n0 Z6 ) hZ (hw _ (List.mem_of_getElem? (i := 52) rfl)) (hw _ (List.mem_of_getElem? (i := 51) rfl)) (by decide) (by decide)) (g := (mkF m 107 #[.val (.ref o), .val .null, .val (.ref en), .val (.ref hd), .val .null, .val (.long (RR - lb)), .second] [(.long ((RR - lb) / (2 : Int64))), (.long eg), (.long lb), (.ref en)])) rfl (by rw [hml]; rfl) (argsL := [(.long eg), (.long ((RR - lb) / (2 : Int64)))]) (rest := [(.long lb), (.ref en)]) (lenOf pd_1 rfl) rfl (by show 2 * 0 + _ ≤ _; exact Nat.le_of_eq rfl) (hb hby d6_107) (fun _ _ => ⟨rfl, e10, (by decide : 0 + 0 ≤ _), (by decide : 0 + 0 ≤ _)⟩)
  dsimp only [Pt.U, Pt.locs, Pt.cells, Pt.slots] at X11 l11 y11 z11 st11 hQ11
  subst l11 y11 z11
  obtain ⟨rfl, N11q, e11⟩ := hQ11
  have N11 := Fr.app N6 N11q
  refine RunsTo.of (T' := T11) (g' := (mkF m 110 #[.val (.ref o), .val .null, .val (.ref en), .val (.ref hd), .val .null, .val (.long (RR - lb)), .second] [(.long (own_min eg ((RR - lb) / 2))), (.long lb), (.ref en)])) st11 ?_
  refine RunsTo.of (T' := T11) (g' := (mkF m 120 #[.val (.ref o), .val .null, .val (.ref en), .val (.ref hd), .val .null, .val (.long (RR - lb)), .second] [(.long (lb + (own_min eg ((RR - lb) / 2)))), (.ref en)])) (fun tgt_ kt => ?_) ?_
  · refine XS.goto X11.here hx rfl (pc0 := 110) (pc' := 119) rfl (hb hby d6_110) (by decide) (by decide) ?_
    show Steps p.tables e below (T11.setTop (mkF m 119 #[.val (.ref o), .val .null, .val (.ref en), .val (.ref hd), .val .null, .val (.long (RR - lb)), .second] [(.long (own_min eg ((RR - lb) / 2))), (.long lb), (.ref en)])) _
    refine XS.ladd X11.here hx rfl (hb hby d6_119) rfl ?_
    show Steps p.tables e below (T11.setTop (mkF m 120 #[.val (.ref o), .val .null, .val (.ref en), .val (.ref hd), .val .null, .val (.long (RR - lb)), .second] [(.long (lb + (own_min eg ((RR - lb) / 2)))), (.ref en)])) _
    exact kt
  obtain ⟨T12, h12, X12, e12, W12, st12⟩ := putFR X11 hx hZ hown (hw _ (List.mem_of_getElem? (i := 46) rfl)) e11 F_label_en E_en (hw _ (List.mem_of_getElem? (i := 47) rfl)) (hw _ (List.mem_of_getElem? (i := 11) rfl)) (ty := .long) (by decide) rfl rfl (g := (mkF m 120 #[.val (.ref o), .val .null, .val (.ref en), .val (.ref hd), .val .null, .val (.long (RR - lb)), .second] [(.long (lb + (own_min eg ((RR - lb) / 2)))), (.ref en)])) rfl rfl (hb hby d6_120)
  have N12 := Fr.snoc X12 N11 g_en
  have Z12 : n0 ≤ h12.size := Nat.le_trans Z6 (Nat.le_of_eq W12.size.symm)
  have E_o := E_o.wr W12
  have F_head_o := F_head_o.other W12 (Or.inl ne_o_en)
  have F_last_o := F_last_o.other W12 (Or.inl ne_o_en)
  have F_labelBits_o := F_labelBits_o.other W12 (Or.inl ne_o_en)
  have F_endGap_o := F_endGap_o.other W12 (Or.inl ne_o_en)
  have E_hd := E_hd.wr W12
  have F_label_hd := F_label_hd.other W12 (Or.inl ne_hd_en)
  have F_previous_hd := F_previous_hd.other W12 (Or.inl ne_hd_en)
  have F_next_hd := F_next_hd.other W12 (Or.inl ne_hd_en)
  have E_en := E_en.wr W12
  have F_label_en := F_label_en.same W12
  have F_previous_en := F_previous_en.other W12 (Or.inr (slot_ne (Or.inl (hw _ (List.mem_of_getElem? (i := 45) rfl))) (Or.inl (hw _ (List.mem_of_getElem? (i := 47) rfl))) (by decide) (t := (.object "com/example/round_table/roundtable/engine/OrderList$Entry")) (t' := .long) (by decide) (by decide)))
  have F_next_en := F_next_en.other W12 (Or.inr (slot_ne (Or.inl (hw _ (List.mem_of_getElem? (i := 43) rfl))) (Or.inl (hw _ (List.mem_of_getElem? (i := 47) rfl))) (by decide) (t := (.object "com/example/round_table/roundtable/engine/OrderList$Entry")) (t' := .long) (by decide) (by decide)))
  have KP := KP.wr W12 (Or.inl (List.mem_of_getElem? (i := 2) rfl))
  refine RunsTo.of (T' := T12) (g' := (mkF m 123 #[.val (.ref o), .val .null, .val (.ref en), .val (.ref hd), .val .null, .val (.long (RR - lb)), .second] [])) st12 ?_
  refine RunsTo.of (T' := T12) (g' := (mkF m 139 #[.val (.ref o), .val .null, .val (.ref en), .val (.ref hd), .val .null, .val (.long (RR - lb)), .second] [])) (fun tgt_ kt => ?_) ?_
  · refine XS.goto X12.here hx rfl (pc0 := 123) (pc' := 139) rfl (hb hby d6_123) (by decide) (by decide) ?_
    show Steps p.tables e below (T12.setTop (mkF m 139 #[.val (.ref o), .val .null, .val (.ref en), .val (.ref hd), .val .null, .val (.long (RR - lb)), .second] [])) _
    exact kt
  refine RunsTo.retV X12 hx Bd.returns Bd.notSynchronized (hb hby d6_139) ?_ (by decide) (by decide)
  rw [e12]
  exact ⟨lb + own_min eg ((RR - lb) / 2), rfl, N12, KP, F_head_o, F_last_o, F_labelBits_o, F_endGap_o, F_label_hd, F_previous_hd, F_next_hd, F_label_en, F_previous_en, F_next_en, own_label RR lb eg hlb hroom hR heg⟩
theorem d6_11 : decode prog_60_method_7_code 11 = .ok (.aload_n 1, 1) := by decide +kernel
theorem ef_rm_insN (m : MethodId) (x0 : Addr) (x1 : Addr) (x2 : Addr) : entryFrame m #[(.ref x0), (.ref x1), (.ref x2)] 7 = mkF m 0 #[.val (.ref x0), .val (.ref x1), .val (.ref x2), .unset, .unset, .unset, .unset] [] := by first | (simp [entryFrame, mkF, argsToLocals, Value.category]; done) | rfl
def Q_insN (Z : State) (o : Addr) (be : Addr) (en : Addr) (hd : Addr) (ls : Value) (pb : Value) (bits : Int32) (eg RR lb ol : Int64) (h0 : Heap) (n0 : Nat) (v : Option Value) (h : Heap) (L : List Loc) : Prop := ∃ lab : Int64, v = none ∧ Fr n0 L ∧ Keep h0 h [o, be, en] ∧ Fld Z h o "com/example/round_table/roundtable/engine/OrderList" "head" "Lcom/example/round_table/roundtable/engine/OrderList$Entry;" (.ref hd) ∧ Fld Z h o "com/example/round_table/roundtable/engine/OrderList" "last" "Lcom/example/round_table/roundtable/engine/OrderList$Entry;" (.ref en) ∧ Fld Z h o "com/example/round_table/roundtable/engine/OrderList" "labelBits" "I" (.int bits) ∧ Fld Z h o "com/example/round_table/roundtable/engine/OrderList" "endGap" "J" (.long eg) ∧ Fld Z h be "com/example/round_table/roundtable/engine/OrderList$Entry" "label" "J" (.long lb) ∧ Fld Z h be "com/example/round_table/roundtable/engine/OrderList$Entry" "previous" "Lcom/example/round_table/roundtable/engine/OrderList$Entry;" pb ∧ Fld Z h be "com/example/round_table/roundtable/engine/OrderList$Entry" "next" "Lcom/example/round_table/roundtable/engine/OrderList$Entry;" (.ref en) ∧ Fld Z h en "com/example/round_table/roundtable/engine/OrderList$Entry" "label" "J" (.long lab) ∧ Fld Z h en "com/example/round_table/roundtable/engine/OrderList$Entry" "previous" "Lcom/example/round_table/roundtable/engine/OrderList$Entry;" (.ref be) ∧ Fld Z h en "com/example/round_table/roundtable/engine/OrderList$Entry" "next" "Lcom/example/round_table/roundtable/engine/OrderList$Entry;" .null ∧ lb.toInt + 1 ≤ lab.toInt ∧ (4 ≤ RR.toInt - lb.toInt → lb.toInt + 2 ≤ lab.toInt) ∧ RR.toInt - lb.toInt ≤ 2 * (RR.toInt - lab.toInt)
set_option maxRecDepth 65536 in
set_option maxHeartbeats 40000000 in
theorem rm_insN (l : Launch) (Z : State) (a0 : Array Value) (hw : ∀ d ∈ tables_1, d.before a0 Z = true) (ws : List Jvm.Cond) (o : Addr) (be : Addr) (en : Addr) (hd : Addr) (ls : Value) (pb : Value) (bits : Int32) (eg RR lb ol : Int64) (h0 : Heap) (n0 : Nat) (Z0 : n0 ≤ h0.size) (E_o : Exa Z h0 o "com/example/round_table/roundtable/engine/OrderList") (g_o : n0 ≤ o) (F_head_o : Fld Z h0 o "com/example/round_table/roundtable/engine/OrderList" "head" "Lcom/example/round_table/roundtable/engine/OrderList$Entry;" (.ref hd)) (F_last_o : Fld Z h0 o "com/example/round_table/roundtable/engine/OrderList" "last" "Lcom/example/round_table/roundtable/engine/OrderList$Entry;" ls) (F_labelBits_o : Fld Z h0 o "com/example/round_table/roundtable/engine/OrderList" "labelBits" "I" (.int bits)) (F_endGap_o : Fld Z h0 o "com/example/round_table/roundtable/engine/OrderList" "endGap" "J" (.long eg)) (E_be : Exa Z h0 be "com/example/round_table/roundtable/engine/OrderList$Entry") (g_be : n0 ≤ be) (F_label_be : Fld Z h0 be "com/example/round_table/roundtable/engine/OrderList$Entry" "label" "J" (.long lb)) (F_previous_be : Fld Z h0 be "com/example/round_table/roundtable/engine/OrderList$Entry" "previous" "Lcom/example/round_table/roundtable/engine/OrderList$Entry;" pb) (F_next_be : Fld Z h0 be "com/example/round_table/roundtable/engine/OrderList$Entry" "next" "Lcom/example/round_table/roundtable/engine/OrderList$Entry;" .null) (E_en : Exa Z h0 en "com/example/round_table/roundtable/engine/OrderList$Entry") (g_en : n0 ≤ en) (F_label_en : Fld Z h0 en "com/example/round_table/roundtable/engine/OrderList$Entry" "label" "J" (.long ol)) (F_previous_en : Fld Z h0 en "com/example/round_table/roundtable/engine/OrderList$Entry" "previous" "Lcom/example/round_table/roundtable/engine/OrderList$Entry;" .null) (F_next_en : Fld Z h0 en "com/example/round_table/roundtable/engine/OrderList$Entry" "next" "Lcom/example/round_table/roundtable/engine/OrderList$Entry;" .null) (ne_o_be : o ≠ be) (ne_o_en : o ≠ en) (ne_be_en : be ≠ en) (hRR : RR = (1 : Int64) <<< (bits &&& 0x3f).toInt64) (hR : RR.toInt ≤ 4611686018427387904) (heg : 2 ≤ eg.toInt) (hlb : 0 ≤ lb.toInt) (hroom : lb.toInt + 2 ≤ RR.toInt)  :
    MetFree l (⟨"com/example/round_table/roundtable/engine/OrderList", "insertAfter", "(Lcom/example/round_table/roundtable/engine/OrderList$Entry;Lcom/example/round_table/roundtable/engine/OrderList$Entry;)V"⟩ : MethodName) (head1 (Jvm.Cond.code (⟨"com/example/round_table/roundtable/engine/OrderList", "insertAfter", "(Lcom/example/round_table/roundtable/engine/OrderList$Entry;Lcom/example/round_table/roundtable/engine/OrderList$Entry;)V"⟩ : MethodName) prog_60_method_7_code 7 none :: ws) ({ frames := 1, cells := 0, slots := 0, locals := 18 } : Room)) (fun as' U => as' = #[(.ref o), (.ref be), (.ref en)] ∧ Z.Warmed39 U.vm ∧ U.heap = h0) (fun _ _ _ _ _ => True) (fun _ U_ o_ U'_ => ∃ v_ L_, o_ = .returned v_ ∧ Q_insN Z o be en hd ls pb bits eg RR lb ol h0 n0 v_ U'_.heap L_ ∧ FrameEnd U_ o_ U'_ L_ ({ frames := 1, cells := 0, slots := 0, locals := 18 } : Room).cells ({ frames := 1, cells := 0, slots := 0, locals := 18 } : Room).slots) := by
  refine MetFree.of_bodySF (plainFor_of_name pn_1) hisR ?_
  intro p e s m args below meth c s₁ Bd hml0 hP hK
  obtain ⟨rfl, hZ, hh⟩ := hP
  have hx := Bd.exec
  have hby := Bd.bytes
  have hml : c.maxLocals = 7 := hml0
  have hown : s.vm.findClass "com/example/round_table/roundtable/engine/OrderList" = some m.cls := findClass_of_methodNamed Bd.named
  have hnm := (name_of_methodNamed Bd.named Bd.method).1
  have X0 : Stand p l e ({ frames := 1, cells := 0, slots := 0, locals := 18 } : Room) s m #[(.ref o), (.ref be), (.ref en)] below meth c s₁ [] 0 0 := Stand.of_body Bd
  have e0 : s₁.heap = h0 := by rw [← hh, Bd.state]; rfl
  have N0 := Fr.nil n0
  refine RunsTo.start (ef_rm_insN m o be en) ?_
  show RunsTo p e below s s₁ (mkF m 0 #[.val (.ref o), .val (.ref be), .val (.ref en), .unset, .unset, .unset, .unset] []) (Q_insN Z o be en hd ls pb bits eg RR lb ol h0 n0) ({ frames := 1, cells := 0, slots := 0, locals := 18 } : Room).cells ({ frames := 1, cells := 0, slots := 0, locals := 18 } : Room).slots
  have KP := Keep.refl h0 [o, be, en]
  refine RunsTo.of (T' := s₁) (g' := (mkF m 14 #[.val (.ref o), .val (.ref be), .val (.ref en), .val (.ref be), .unset, .unset, .unset] [(.ref be)])) (fun tgt_ kt => ?_) ?_
  · refine XS.aloadN X0.here hx rfl (hb hby d6_0) rfl rfl ?_
    show Steps p.tables e below (s₁.setTop (mkF m 1 #[.val (.ref o), .val (.ref be), .val (.ref en), .unset, .unset, .unset, .unset] [(.ref be)])) _
    refine XS.ifnonnullYes X0.here hx rfl (pc0 := 1) (pc' := 11) rfl (hb hby d6_1) rfl (by decide) (by decide) ?_
    show Steps p.tables e below (s₁.setTop (mkF m 11 #[.val (.ref o), .val (.ref be), .val (.ref en), .unset, .unset, .unset, .unset] [])) _
    refine XS.aloadN X0.here hx rfl (hb hby d6_11) rfl rfl ?_
    show Steps p.tables e below (s₁.setTop (mkF m 12 #[.val (.ref o), .val (.ref be), .val (.ref en), .unset, .unset, .unset, .unset] [(.ref be)])) _
    refine XS.astoreN X0.here hx rfl (hb hby d6_12) rfl rfl (l' := #[.val (.ref o), .val (.ref be), .val (.ref en), .val (.ref be), .unset, .unset, .unset]) rfl ?_
    show Steps p.tables e below (s₁.setTop (mkF m 13 #[.val (.ref o), .val (.ref be), .val (.ref en), .val (.ref be), .unset, .unset, .unset] [])) _
    refine XS.aloadN X0.here hx rfl (hb hby d6_13) rfl rfl ?_
    show Steps p.tables e below (s₁.setTop (mkF m 14 #[.val (.ref o), .val (.ref be), .val (.ref en), .val (.ref be), .unset, .unset, .unset] [(.ref be)])) _
    exact kt
  obtain ⟨T1, X1, e1, st1⟩ := getFR X0 hx hZ hown (hw _ (List.mem_of_getElem? (i := 42) rfl)) e0 F_next_be (g := (mkF m 14 #[.val (.ref o), .val (.ref be), .val (.ref en), .val (.ref be), .unset, .unset, .unset] [(.ref be)])) rfl rfl (hb hby d6_14)
  refine RunsTo.of (T' := T1) (g' := (mkF m 17 #[.val (.ref o), .val (.ref be), .val (.ref en), .val (.ref be), .unset, .unset, .unset] [.null])) st1 ?_
  refine RunsTo.of (T' := T1) (g' := (mkF m 21 #[.val (.ref o), .val (.ref be), .val (.ref en), .val (.ref be), .val .null, .unset, .unset] [(.ref be), (.ref en)])) (fun tgt_ kt => ?_) ?_
  · refine XS.astore X1.here hx rfl (hb hby d6_17) rfl rfl (l' := #[.val (.ref o), .val (.ref be), .val (.ref en), .val (.ref be), .val .null, .unset, .unset]) rfl ?_
    show Steps p.tables e below (T1.setTop (mkF m 19 #[.val (.ref o), .val (.ref be), .val (.ref en), .val (.ref be), .val .null, .unset, .unset] [])) _
    refine XS.aloadN X1.here hx rfl (hb hby d6_19) rfl rfl ?_
    show Steps p.tables e below (T1.setTop (mkF m 20 #[.val (.ref o), .val (.ref be), .val (.ref en), .val (.ref be), .val .null, .unset, .unset] [(.ref en)])) _
    refine XS.aloadN X1.here hx rfl (hb hby d6_20) rfl rfl ?_
    show Steps p.tables e below (T1.setTop (mkF m 21 #[.val (.ref o), .val (.ref be), .val (.ref en), .val (.ref be), .val .null, .unset, .unset] [(.ref be), (.ref en)])) _
    exact kt
  obtain ⟨T2, h2, X2, e2, W2, st2⟩ := putFR X1 hx hZ hown (hw _ (List.mem_of_getElem? (i := 44) rfl)) e1 F_previous_en E_en (hw _ (List.mem_of_getElem? (i := 45) rfl)) (hw _ (List.mem_of_getElem? (i := 11) rfl)) (ty := (.object "com/example/round_table/roundtable/engine/OrderList$Entry")) (by decide) rfl rfl (g := (mkF m 21 #[.val (.ref o), .val (.ref be), .val (.ref en), .val (.ref be), .val .null, .unset, .unset] [(.ref be), (.ref en)])) rfl rfl (hb hby d6_21)
  have N2 := Fr.snoc X2 N0 g_en
  have Z2 : n0 ≤ h2.size := Nat.le_trans Z0 (Nat.le_of_eq W2.size.symm)
  have E_o := E_o.wr W2
  have F_head_o := F_head_o.other W2 (Or.inl ne_o_en)
  have F_last_o := F_last_o.other W2 (Or.inl ne_o_en)
  have F_labelBits_o := F_labelBits_o.other W2 (Or.inl ne_o_en)
  have F_endGap_o := F_endGap_o.other W2 (Or.inl ne_o_en)
  have E_be := E_be.wr W2
  have F_label_be := F_label_be.other W2 (Or.inl ne_be_en)
  have F_previous_be := F_previous_be.other W2 (Or.inl ne_be_en)
  have F_next_be := F_next_be.other W2 (Or.inl ne_be_en)
  have E_en := E_en.wr W2
  have F_label_en := F_label_en.other W2 (Or.inr (slot_ne (Or.inl (hw _ (List.mem_of_getElem? (i := 47) rfl))) (Or.inl (hw _ (List.mem_of_getElem? (i := 45) rfl))) (by decide) (t := .long) (t' := (.object "com/example/round_table/roundtable/engine/OrderList$Entry")) (by decide) (by decide)))
  have F_previous_en := F_previous_en.same W2
  have F_next_en := F_next_en.other W2 (Or.inr (slot_ne (Or.inl (hw _ (List.mem_of_getElem? (i := 43) rfl))) (Or.inl (hw _ (List.mem_of_getElem? (i := 45) rfl))) (by decide) (t := (.object "com/example/round_table/roundtable/engine/OrderList$Entry")) (t' := (.object "com/example/round_table/roundtable/engine/OrderList$Entry")) (by decide) (by decide)))
  have KP := KP.wr W2 (Or.inl (List.mem_of_getElem? (i := 2) rfl))
  refine RunsTo.of (T' := T2) (g' := (mkF m 24 #[.val (.ref o), .val (.ref be), .val (.ref en), .val (.ref be), .val .null, .unset, .unset] [])) st2 ?_
  refine RunsTo.of (T' := T2) (g' := (mkF m 27 #[.val (.ref o), .val (.ref be), .val (.ref en), .val (.ref be), .val .null, .unset, .unset] [.null, (.ref en)])) (fun tgt_ kt => ?_) ?_
  · refine XS.aloadN X2.here hx rfl (hb hby d6_24) rfl rfl ?_
    show Steps p.tables e below (T2.setTop (mkF m 25 #[.val (.ref o), .val (.ref be), .val (.ref en), .val (.ref be), .val .null, .unset, .unset] [(.ref en)])) _
    refine XS.aload X2.here hx rfl (hb hby d6_25) rfl rfl ?_
    show Steps p.tables e below (T2.setTop (mkF m 27 #[.val (.ref o), .val (.ref be), .val (.ref en), .val (.ref be), .val .null, .unset, .unset] [.null, (.ref en)])) _
    exact kt
  obtain ⟨T3, h3, X3, e3, W3, st3⟩ := putFR X2 hx hZ hown (hw _ (List.mem_of_getElem? (i := 42) rfl)) e2 F_next_en E_en (hw _ (List.mem_of_getElem? (i := 43) rfl)) (hw _ (List.mem_of_getElem? (i := 11) rfl)) (ty := (.object "com/example/round_table/roundtable/engine/OrderList$Entry")) (by decide) rfl rfl (g := (mkF m 27 #[.val (.ref o), .val (.ref be), .val (.ref en), .val (.ref be), .val .null, .unset, .unset] [.null, (.ref en)])) rfl rfl (hb hby d6_27)
  have N3 := Fr.snoc X3 N2 g_en
  have Z3 : n0 ≤ h3.size := Nat.le_trans Z2 (Nat.le_of_eq W3.size.symm)
  have E_o := E_o.wr W3
  have F_head_o := F_head_o.other W3 (Or.inl ne_o_en)
  have F_last_o := F_last_o.other W3 (Or.inl ne_o_en)
  have F_labelBits_o := F_labelBits_o.other W3 (Or.inl ne_o_en)
  have F_endGap_o := F_endGap_o.other W3 (Or.inl ne_o_en)
  have E_be := E_be.wr W3
  have F_label_be := F_label_be.other W3 (Or.inl ne_be_en)
  have F_previous_be := F_previous_be.other W3 (Or.inl ne_be_en)
  have F_next_be := F_next_be.other W3 (Or.inl ne_be_en)
  have E_en := E_en.wr W3
  have F_label_en := F_label_en.other W3 (Or.inr (slot_ne (Or.inl (hw _ (List.mem_of_getElem? (i := 47) rfl))) (Or.inl (hw _ (List.mem_of_getElem? (i := 43) rfl))) (by decide) (t := .long) (t' := (.object "com/example/round_table/roundtable/engine/OrderList$Entry")) (by decide) (by decide)))
  have F_previous_en := F_previous_en.other W3 (Or.inr (slot_ne (Or.inl (hw _ (List.mem_of_getElem? (i := 45) rfl))) (Or.inl (hw _ (List.mem_of_getElem? (i := 43) rfl))) (by decide) (t := (.object "com/example/round_table/roundtable/engine/OrderList$Entry")) (t' := (.object "com/example/round_table/roundtable/engine/OrderList$Entry")) (by decide) (by decide)))
  have F_next_en := F_next_en.same W3
  have KP := KP.wr W3 (Or.inl (List.mem_of_getElem? (i := 2) rfl))
  refine RunsTo.of (T' := T3) (g' := (mkF m 30 #[.val (.ref o), .val (.ref be), .val (.ref en), .val (.ref be), .val .null, .unset, .unset] [])) st3 ?_
  refine RunsTo.of (T' := T3) (g' := (mkF m 32 #[.val (.ref o), .val (.ref be), .val (.ref en), .val (.ref be), .val .null, .unset, .unset] [(.ref en), (.ref be)])) (fun tgt_ kt => ?_) ?_
  · refine XS.aloadN X3.here hx rfl (hb hby d6_30) rfl rfl ?_
    show Steps p.tables e below (T3.setTop (mkF m 31 #[.val (.ref o), .val (.ref be), .val (.ref en), .val (.ref be), .val .null, .unset, .unset] [(.ref be)])) _
    refine XS.aloadN X3.here hx rfl (hb hby d6_31) rfl rfl ?_
    show Steps p.tables e below (T3.setTop (mkF m 32 #[.val (.ref o), .val (.ref be), .val (.ref en), .val (.ref be), .val .null, .unset, .unset] [(.ref en), (.ref be)])) _
    exact kt
  obtain ⟨T4, h4, X4, e4, W4, st4⟩ := putFR X3 hx hZ hown (hw _ (List.mem_of_getElem? (i := 42) rfl)) e3 F_next_be E_be (hw _ (List.mem_of_getElem? (i := 43) rfl)) (hw _ (List.mem_of_getElem? (i := 11) rfl)) (ty := (.object "com/example/round_table/roundtable/engine/OrderList$Entry")) (by decide) rfl rfl (g := (mkF m 32 #[.val (.ref o), .val (.ref be), .val (.ref en), .val (.ref be), .val .null, .unset, .unset] [(.ref en), (.ref be)])) rfl rfl (hb hby d6_32)
  have N4 := Fr.snoc X4 N3 g_be
  have Z4 : n0 ≤ h4.size := Nat.le_trans Z3 (Nat.le_of_eq W4.size.symm)
  have E_o := E_o.wr W4
  have F_head_o := F_head_o.other W4 (Or.inl ne_o_be)
  have F_last_o := F_last_o.other W4 (Or.inl ne_o_be)
  have F_labelBits_o := F_labelBits_o.other W4 (Or.inl ne_o_be)
  have F_endGap_o := F_endGap_o.other W4 (Or.inl ne_o_be)
  have E_be := E_be.wr W4
  have F_label_be := F_label_be.other W4 (Or.inr (slot_ne (Or.inl (hw _ (List.mem_of_getElem? (i := 47) rfl))) (Or.inl (hw _ (List.mem_of_getElem? (i := 43) rfl))) (by decide) (t := .long) (t' := (.object "com/example/round_table/roundtable/engine/OrderList$Entry")) (by decide) (by decide)))
  have F_previous_be := F_previous_be.other W4 (Or.inr (slot_ne (Or.inl (hw _ (List.mem_of_getElem? (i := 45) rfl))) (Or.inl (hw _ (List.mem_of_getElem? (i := 43) rfl))) (by decide) (t := (.object "com/example/round_table/roundtable/engine/OrderList$Entry")) (t' := (.object "com/example/round_table/roundtable/engine/OrderList$Entry")) (by decide) (by decide)))
  have F_next_be := F_next_be.same W4
  have E_en := E_en.wr W4
  have F_label_en := F_label_en.other W4 (Or.inl (Ne.symm ne_be_en))
  have F_previous_en := F_previous_en.other W4 (Or.inl (Ne.symm ne_be_en))
  have F_next_en := F_next_en.other W4 (Or.inl (Ne.symm ne_be_en))
  have KP := KP.wr W4 (Or.inl (List.mem_of_getElem? (i := 1) rfl))
  refine RunsTo.of (T' := T4) (g' := (mkF m 35 #[.val (.ref o), .val (.ref be), .val (.ref en), .val (.ref be), .val .null, .unset, .unset] [])) st4 ?_
  refine RunsTo.of (T' := T4) (g' := (mkF m 42 #[.val (.ref o), .val (.ref be), .val (.ref en), .val (.ref be), .val .null, .unset, .unset] [(.ref en), (.ref o)])) (fun tgt_ kt => ?_) ?_
  · refine XS.aload X4.here hx rfl (hb hby d6_35) rfl rfl ?_
    show Steps p.tables e below (T4.setTop (mkF m 37 #[.val (.ref o), .val (.ref be), .val (.ref en), .val (.ref be), .val .null, .unset, .unset] [.null])) _
    refine XS.ifnonnullNo X4.here hx rfl (hb hby d6_37) rfl ?_
    show Steps p.tables e below (T4.setTop (mkF m 40 #[.val (.ref o), .val (.ref be), .val (.ref en), .val (.ref be), .val .null, .unset, .unset] [])) _
    refine XS.aloadN X4.here hx rfl (hb hby d6_40) rfl rfl ?_
    show Steps p.tables e below (T4.setTop (mkF m 41 #[.val (.ref o), .val (.ref be), .val (.ref en), .val (.ref be), .val .null, .unset, .unset] [(.ref o)])) _
    refine XS.aloadN X4.here hx rfl (hb hby d6_41) rfl rfl ?_
    show Steps p.tables e below (T4.setTop (mkF m 42 #[.val (.ref o), .val (.ref be), .val (.ref en), .val (.ref be), .val .null, .unset, .unset] [(.ref en), (.ref o)])) _
    exact kt
  obtain ⟨T5, h5, X5, e5, W5, st5⟩ := putF X4 hx hZ hown (host := "") (Or.inl (hw _ (List.mem_of_getElem? (i := 19) rfl))) Via.refl e4 F_last_o E_o (Or.inl (hw _ (List.mem_of_getElem? (i := 20) rfl))) (hw _ (List.mem_of_getElem? (i := 2) rfl)) (ty := (.object "com/example/round_table/roundtable/engine/OrderList$Entry")) (by decide) rfl rfl (g := (mkF m 42 #[.val (.ref o), .val (.ref be), .val (.ref en), .val (.ref be), .val .null, .unset, .unset] [(.ref en), (.ref o)])) rfl rfl (hb hby d6_42)
  have N5 := Fr.snoc X5 N4 g_o
  have Z5 : n0 ≤ h5.size := Nat.le_trans Z4 (Nat.le_of_eq W5.size.symm)
  have E_o := E_o.wr W5
  have F_head_o := F_head_o.other W5 (Or.inr (slot_ne (Or.inr (hw _ (List.mem_of_getElem? (i := 18) rfl))) (Or.inl (hw _ (List.mem_of_getElem? (i := 20) rfl))) (by decide) (t := (.object "com/example/round_table/roundtable/engine/OrderList$Entry")) (t' := (.object "com/example/round_table/roundtable/engine/OrderList$Entry")) (by decide) (by decide)))
  have F_last_o := F_last_o.same W5
  have F_labelBits_o := F_labelBits_o.other W5 (Or.inr (slot_ne (Or.inr (hw _ (List.mem_of_getElem? (i := 22) rfl))) (Or.inl (hw _ (List.mem_of_getElem? (i := 20) rfl))) (by decide) (t := .int) (t' := (.object "com/example/round_table/roundtable/engine/OrderList$Entry")) (by decide) (by decide)))
  have F_endGap_o := F_endGap_o.other W5 (Or.inr (slot_ne (Or.inr (hw _ (List.mem_of_getElem? (i := 24) rfl))) (Or.inl (hw _ (List.mem_of_getElem? (i := 20) rfl))) (by decide) (t := .long) (t' := (.object "com/example/round_table/roundtable/engine/OrderList$Entry")) (by decide) (by decide)))
  have E_be := E_be.wr W5
  have F_label_be := F_label_be.other W5 (Or.inl (Ne.symm ne_o_be))
  have F_previous_be := F_previous_be.other W5 (Or.inl (Ne.symm ne_o_be))
  have F_next_be := F_next_be.other W5 (Or.inl (Ne.symm ne_o_be))
  have E_en := E_en.wr W5
  have F_label_en := F_label_en.other W5 (Or.inl (Ne.symm ne_o_en))
  have F_previous_en := F_previous_en.other W5 (Or.inl (Ne.symm ne_o_en))
  have F_next_en := F_next_en.other W5 (Or.inl (Ne.symm ne_o_en))
  have KP := KP.wr W5 (Or.inl (List.mem_of_getElem? (i := 0) rfl))
  refine RunsTo.of (T' := T5) (g' := (mkF m 45 #[.val (.ref o), .val (.ref be), .val (.ref en), .val (.ref be), .val .null, .unset, .unset] [])) st5 ?_
  refine RunsTo.of (T' := T5) (g' := (mkF m 61 #[.val (.ref o), .val (.ref be), .val (.ref en), .val (.ref be), .val .null, .unset, .unset] [(.ref o), (.long (1 : Int64))])) (fun tgt_ kt => ?_) ?_
  · refine XS.goto X5.here hx rfl (pc0 := 45) (pc' := 54) rfl (hb hby d6_45) (by decide) (by decide) ?_
    show Steps p.tables e below (T5.setTop (mkF m 54 #[.val (.ref o), .val (.ref be), .val (.ref en), .val (.ref be), .val .null, .unset, .unset] [])) _
    refine XS.aload X5.here hx rfl (hb hby d6_54) rfl rfl ?_
    show Steps p.tables e below (T5.setTop (mkF m 56 #[.val (.ref o), .val (.ref be), .val (.ref en), .val (.ref be), .val .null, .unset, .unset] [.null])) _
    refine XS.ifnonnullNo X5.here hx rfl (hb hby d6_56) rfl ?_
    show Steps p.tables e below (T5.setTop (mkF m 59 #[.val (.ref o), .val (.ref be), .val (.ref en), .val (.ref be), .val .null, .unset, .unset] [])) _
    refine XS.lconst X5.here hx rfl (hb hby d6_59) ?_
    show Steps p.tables e below (T5.setTop (mkF m 60 #[.val (.ref o), .val (.ref be), .val (.ref en), .val (.ref be), .val .null, .unset, .unset] [(.long (1 : Int64))])) _
    refine XS.aloadN X5.here hx rfl (hb hby d6_60) rfl rfl ?_
    show Steps p.tables e below (T5.setTop (mkF m 61 #[.val (.ref o), .val (.ref be), .val (.ref en), .val (.ref be), .val .null, .unset, .unset] [(.ref o), (.long (1 : Int64))])) _
    exact kt
  obtain ⟨T6, X6, e6, st6⟩ := getF X5 hx hZ hown (host := "") (Or.inl (hw _ (List.mem_of_getElem? (i := 21) rfl))) Via.refl e5 F_labelBits_o (g := (mkF m 61 #[.val (.ref o), .val (.ref be), .val (.ref en), .val (.ref be), .val .null, .unset, .unset] [(.ref o), (.long (1 : Int64))])) rfl rfl (hb hby d6_61)
  refine RunsTo.of (T' := T6) (g' := (mkF m 64 #[.val (.ref o), .val (.ref be), .val (.ref en), .val (.ref be), .val .null, .unset, .unset] [(.int bits), (.long (1 : Int64))])) st6 ?_
  refine RunsTo.of (T' := T6) (g' := (mkF m 74 #[.val (.ref o), .val (.ref be), .val (.ref en), .val (.ref be), .val .null, .unset, .unset] [(.ref be), (.long ((1 : Int64) <<< (bits &&& 0x3f).toInt64))])) (fun tgt_ kt => ?_) ?_
  · refine XS.lshl X6.here hx rfl (hb hby d6_64) rfl ?_
    show Steps p.tables e below (T6.setTop (mkF m 65 #[.val (.ref o), .val (.ref be), .val (.ref en), .val (.ref be), .val .null, .unset, .unset] [(.long ((1 : Int64) <<< (bits &&& 0x3f).toInt64))])) _
    refine XS.goto X6.here hx rfl (pc0 := 65) (pc' := 73) rfl (hb hby d6_65) (by decide) (by decide) ?_
    show Steps p.tables e below (T6.setTop (mkF m 73 #[.val (.ref o), .val (.ref be), .val (.ref en), .val (.ref be), .val .null, .unset, .unset] [(.long ((1 : Int64) <<< (bits &&& 0x3f).toInt64))])) _
    refine XS.aloadN X6.here hx rfl (hb hby d6_73) rfl rfl ?_
    show Steps p.tables e below (T6.setTop (mkF m 74 #[.val (.ref o), .val (.ref be), .val (.ref en), .val (.ref be), .val .null, .unset, .unset] [(.ref be), (.long ((1 : Int64) <<< (bits &&& 0x3f).toInt64))])) _
    exact kt
  obtain ⟨T7, X7, e7, st7⟩ := getFR X6 hx hZ hown (hw _ (List.mem_of_getElem? (i := 46) rfl)) e6 F_label_be (g := (mkF m 74 #[.val (.ref o), .val (.ref be), .val (.ref en), .val (.ref be), .val .null, .unset, .unset] [(.ref be), (.long ((1 : Int64) <<< (bits &&& 0x3f).toInt64))])) rfl rfl (hb hby d6_74)
  refine RunsTo.of (T' := T7) (g' := (mkF m 77 #[.val (.ref o), .val (.ref be), .val (.ref en), .val (.ref be), .val .null, .unset, .unset] [(.long lb), (.long ((1 : Int64) <<< (bits &&& 0x3f).toInt64))])) st7 ?_
  refine RunsTo.of (T' := T7) (g' := (mkF m 84 #[.val (.ref o), .val (.ref be), .val (.ref en), .val (.ref be), .val .null, .val (.long (((1 : Int64) <<< (bits &&& 0x3f).toInt64) - lb)), .second] [(.int (lcmpW (((1 : Int64) <<< (bits &&& 0x3f).toInt64) - lb) (1 : Int64)))])) (fun tgt_ kt => ?_) ?_
  · refine XS.lsub X7.here hx rfl (hb hby d6_77) rfl ?_
    show Steps p.tables e below (T7.setTop (mkF m 78 #[.val (.ref o), .val (.ref be), .val (.ref en), .val (.ref be), .val .null, .unset, .unset] [(.long (((1 : Int64) <<< (bits &&& 0x3f).toInt64) - lb))])) _
    refine XS.lstore X7.here hx rfl (hb hby d6_78) rfl (l' := #[.val (.ref o), .val (.ref be), .val (.ref en), .val (.ref be), .val .null, .val (.long (((1 : Int64) <<< (bits &&& 0x3f).toInt64) - lb)), .second]) rfl ?_
    show Steps p.tables e below (T7.setTop (mkF m 80 #[.val (.ref o), .val (.ref be), .val (.ref en), .val (.ref be), .val .null, .val (.long (((1 : Int64) <<< (bits &&& 0x3f).toInt64) - lb)), .second] [])) _
    refine XS.lload X7.here hx rfl (hb hby d6_80) rfl ?_
    show Steps p.tables e below (T7.setTop (mkF m 82 #[.val (.ref o), .val (.ref be), .val (.ref en), .val (.ref be), .val .null, .val (.long (((1 : Int64) <<< (bits &&& 0x3f).toInt64) - lb)), .second] [(.long (((1 : Int64) <<< (bits &&& 0x3f).toInt64) - lb))])) _
    refine XS.lconst X7.here hx rfl (hb hby d6_82) ?_
    show Steps p.tables e below (T7.setTop (mkF m 83 #[.val (.ref o), .val (.ref be), .val (.ref en), .val (.ref be), .val .null, .val (.long (((1 : Int64) <<< (bits &&& 0x3f).toInt64) - lb)), .second] [(.long (1 : Int64)), (.long (((1 : Int64) <<< (bits &&& 0x3f).toInt64) - lb))])) _
    refine XS.lcmp X7.here hx rfl (hb hby d6_83) rfl ?_
    show Steps p.tables e below (T7.setTop (mkF m 84 #[.val (.ref o), .val (.ref be), .val (.ref en), .val (.ref be), .val .null, .val (.long (((1 : Int64) <<< (bits &&& 0x3f).toInt64) - lb)), .second] [(.int (lcmpW (((1 : Int64) <<< (bits &&& 0x3f).toInt64) - lb) (1 : Int64)))])) _
    exact kt
  rw [← hRR]
  have hrm := own_room RR lb hlb (by omega)
  refine RunsTo.of (T' := T7) (g' := (mkF m 89 #[.val (.ref o), .val (.ref be), .val (.ref en), .val (.ref be), .val .null, .val (.long (RR - lb)), .second] [(.ref be), (.ref en)])) (fun tgt_ kt => ?_) ?_
  · refine XS.ifNo X7.here hx rfl (hb hby d6_84) rfl ((if0 _ _).trans (tlt ((lw_gt (RR - lb) (1 : Int64)).mpr (own_lt64 (show (1 : Int64).toInt < (RR - lb).toInt by rw [hrm, show (1 : Int64).toInt = 1 from rfl]; omega)))).2.2.2) ?_
    show Steps p.tables e below (T7.setTop (mkF m 87 #[.val (.ref o), .val (.ref be), .val (.ref en), .val (.ref be), .val .null, .val (.long (RR - lb)), .second] [])) _
    refine XS.aloadN X7.here hx rfl (hb hby d6_87) rfl rfl ?_
    show Steps p.tables e below (T7.setTop (mkF m 88 #[.val (.ref o), .val (.ref be), .val (.ref en), .val (.ref be), .val .null, .val (.long (RR - lb)), .second] [(.ref en)])) _
    refine XS.aloadN X7.here hx rfl (hb hby d6_88) rfl rfl ?_
    show Steps p.tables e below (T7.setTop (mkF m 89 #[.val (.ref o), .val (.ref be), .val (.ref en), .val (.ref be), .val .null, .val (.long (RR - lb)), .second] [(.ref be), (.ref en)])) _
    exact kt
  obtain ⟨T8, X8, e8, st8⟩ := getFR X7 hx hZ hown (hw _ (List.mem_of_getElem? (i := 46) rfl)) e7 F_label_be (g := (mkF m 89 #[.val (.ref o), .val (.ref be), .val (.ref en), .val (.ref be), .val .null, .val (.long (RR - lb)), .second] [(.ref be), (.ref en)])) rfl rfl (hb hby d6_89)
  refine RunsTo.of (T' := T8) (g' := (mkF m 92 #[.val (.ref o), .val (.ref be), .val (.ref en), .val (.ref be), .val .null, .val (.long (RR - lb)), .second] [(.long lb), (.ref en)])) st8 ?_
  refine RunsTo.of (T' := T8) (g' := (mkF m 98 #[.val (.ref o), .val (.ref be), .val (.ref en), .val (.ref be), .val .null, .val (.long (RR - lb)), .second] [(.ref o), (.long lb), (.ref en)])) (fun tgt_ kt => ?_) ?_
  · refine XS.aload X8.here hx rfl (hb hby d6_92) rfl rfl ?_
    show Steps p.tables e below (T8.setTop (mkF m 94 #[.val (.ref o), .val (.ref be), .val (.ref en), .val (.ref be), .val .null, .val (.long (RR - lb)), .second] [.null, (.long lb), (.ref en)])) _
    refine XS.ifnonnullNo X8.here hx rfl (hb hby d6_94) rfl ?_
    show Steps p.tables e below (T8.setTop (mkF m 97 #[.val (.ref o), .val (.ref be), .val (.ref en), .val (.ref be), .val .null, .val (.long (RR - lb)), .second] [(.long lb), (.ref en)])) _
    refine XS.aloadN X8.here hx rfl (hb hby d6_97) rfl rfl ?_
    show Steps p.tables e below (T8.setTop (mkF m 98 #[.val (.ref o), .val (.ref be), .val (.ref en), .val (.ref be), .val .null, .val (.long (RR - lb)), .second] [(.ref o), (.long lb), (.ref en)])) _
    exact kt
  obtain ⟨T9, X9, e9, st9⟩ := getF X8 hx hZ hown (host := "") (Or.inl (hw _ (List.mem_of_getElem? (i := 23) rfl))) Via.refl e8 F_endGap_o (g := (mkF m 98 #[.val (.ref o), .val (.ref be), .val (.ref en), .val (.ref be), .val .null, .val (.long (RR - lb)), .second] [(.ref o), (.long lb), (.ref en)])) rfl rfl (hb hby d6_98)
  refine RunsTo.of (T' := T9) (g' := (mkF m 101 #[.val (.ref o), .val (.ref be), .val (.ref en), .val (.ref be), .val .null, .val (.long (RR - lb)), .second] [(.long eg), (.long lb), (.ref en)])) st9 ?_
  refine RunsTo.of (T' := T9) (g' := (mkF m 107 #[.val (.ref o), .val (.ref be), .val (.ref en), .val (.ref be), .val .null, .val (.long (RR - lb)), .second] [(.long ((RR - lb) / (2 : Int64))), (.long eg), (.long lb), (.ref en)])) (fun tgt_ kt => ?_) ?_
  · refine XS.lload X9.here hx rfl (hb hby d6_101) rfl ?_
    show Steps p.tables e below (T9.setTop (mkF m 103 #[.val (.ref o), .val (.ref be), .val (.ref en), .val (.ref be), .val .null, .val (.long (RR - lb)), .second] [(.long (RR - lb)), (.long eg), (.long lb), (.ref en)])) _
    refine X9.ldc2Long hx hown (mvT hZ (hw _ (List.mem_of_getElem? (i := 48) rfl))) (g := (mkF m 103 #[.val (.ref o), .val (.ref be), .val (.ref en), .val (.ref be), .val .null, .val (.long (RR - lb)), .second] [(.long (RR - lb)), (.long eg), (.long lb), (.ref en)])) rfl (hb hby d6_103) _ ?_
    show Steps p.tables e below (T9.setTop (mkF m 106 #[.val (.ref o), .val (.ref be), .val (.ref en), .val (.ref be), .val .null, .val (.long (RR - lb)), .second] [(.long (2 : Int64)), (.long (RR - lb)), (.long eg), (.long lb), (.ref en)])) _
    refine XS.ldiv X9.here hx rfl (hb hby d6_106) rfl (by decide) ?_
    show Steps p.tables e below (T9.setTop (mkF m 107 #[.val (.ref o), .val (.ref be), .val (.ref en), .val (.ref be), .val .null, .val (.long (RR - lb)), .second] [(.long ((RR - lb) / (2 : Int64))), (.long eg), (.long lb), (.ref en)])) _
    exact kt
  obtain ⟨_, _, ⟨T10, L10, k10, n10⟩, -, X10, ⟨Lc10, hQ10, l10, y10, z10⟩, st10⟩ := Jvm.LawKit.callS X9 hx (y := (⟨"java/lang/Math", "min", "(JJ)J"⟩ : MethodName)) hown (mvT hZ (hw _ (List.mem_of_getElem? (i := 49) rfl))) (mvT hZ (hw _ (List.mem_of_getElem? (i := 50) rfl))) (mvT hZ (hw _ (List.mem_of_getElem? (i := 51) rfl))) (mvT hZ (hw _ (List.mem_of_getElem? (i := 52) rfl))) (by decide) (backOf (W := 3) (rm7 l Z a0 hw [] eg ((RR - lb) / 2) h5 n0 Z5 ) hZ (hw _ (List.mem_of_getElem? (i := 52) rfl)) (hw _ (List.mem_of_getElem? (i := 51) rfl)) (by decide) (by decide)) (g := (mkF m 107 #[.val (.ref o), .val (.ref be), .val (.ref en), .val (.ref be), .val .null, .val (.long (RR - lb)), .second] [(.long ((RR - lb) / (2 : Int64))), (.long eg), (.long lb), (.ref en)])) rfl (by rw [hml]; rfl) (argsL := [(.long eg), (.long ((RR - lb) / (2 : Int64)))]) (rest := [(.long lb), (.ref en)]) (lenOf pd_1 rfl) rfl (by show 2 * 0 + _ ≤ _; exact Nat.le_of_eq rfl) (hb hby d6_107) (fun _ _ => ⟨rfl, e9, (by decide : 0 + 0 ≤ _), (by decide : 0 + 0 ≤ _)⟩)
  dsimp only [Pt.U, Pt.locs, Pt.cells, Pt.slots] at X10 l10 y10 z10 st10 hQ10
  subst l10 y10 z10
  obtain ⟨rfl, N10q, e10⟩ := hQ10
  have N10 := Fr.app N5 N10q
  refine RunsTo.of (T' := T10) (g' := (mkF m 110 #[.val (.ref o), .val (.ref be), .val (.ref en), .val (.ref be), .val .null, .val (.long (RR - lb)), .second] [(.long (own_min eg ((RR - lb) / 2))), (.long lb), (.ref en)])) st10 ?_
  refine RunsTo.of (T' := T10) (g' := (mkF m 120 #[.val (.ref o), .val (.ref be), .val (.ref en), .val (.ref be), .val .null, .val (.long (RR - lb)), .second] [(.long (lb + (own_min eg ((RR - lb) / 2)))), (.ref en)])) (fun tgt_ kt => ?_) ?_
  · refine XS.goto X10.here hx rfl (pc0 := 110) (pc' := 119) rfl (hb hby d6_110) (by decide) (by decide) ?_
    show Steps p.tables e below (T10.setTop (mkF m 119 #[.val (.ref o), .val (.ref be), .val (.ref en), .val (.ref be), .val .null, .val (.long (RR - lb)), .second] [(.long (own_min eg ((RR - lb) / 2))), (.long lb), (.ref en)])) _
    refine XS.ladd X10.here hx rfl (hb hby d6_119) rfl ?_
    show Steps p.tables e below (T10.setTop (mkF m 120 #[.val (.ref o), .val (.ref be), .val (.ref en), .val (.ref be), .val .null, .val (.long (RR - lb)), .second] [(.long (lb + (own_min eg ((RR - lb) / 2)))), (.ref en)])) _
    exact kt
  obtain ⟨T11, h11, X11, e11, W11, st11⟩ := putFR X10 hx hZ hown (hw _ (List.mem_of_getElem? (i := 46) rfl)) e10 F_label_en E_en (hw _ (List.mem_of_getElem? (i := 47) rfl)) (hw _ (List.mem_of_getElem? (i := 11) rfl)) (ty := .long) (by decide) rfl rfl (g := (mkF m 120 #[.val (.ref o), .val (.ref be), .val (.ref en), .val (.ref be), .val .null, .val (.long (RR - lb)), .second] [(.long (lb + (own_min eg ((RR - lb) / 2)))), (.ref en)])) rfl rfl (hb hby d6_120)
  have N11 := Fr.snoc X11 N10 g_en
  have Z11 : n0 ≤ h11.size := Nat.le_trans Z5 (Nat.le_of_eq W11.size.symm)
  have E_o := E_o.wr W11
  have F_head_o := F_head_o.other W11 (Or.inl ne_o_en)
  have F_last_o := F_last_o.other W11 (Or.inl ne_o_en)
  have F_labelBits_o := F_labelBits_o.other W11 (Or.inl ne_o_en)
  have F_endGap_o := F_endGap_o.other W11 (Or.inl ne_o_en)
  have E_be := E_be.wr W11
  have F_label_be := F_label_be.other W11 (Or.inl ne_be_en)
  have F_previous_be := F_previous_be.other W11 (Or.inl ne_be_en)
  have F_next_be := F_next_be.other W11 (Or.inl ne_be_en)
  have E_en := E_en.wr W11
  have F_label_en := F_label_en.same W11
  have F_previous_en := F_previous_en.other W11 (Or.inr (slot_ne (Or.inl (hw _ (List.mem_of_getElem? (i := 45) rfl))) (Or.inl (hw _ (List.mem_of_getElem? (i := 47) rfl))) (by decide) (t := (.object "com/example/round_table/roundtable/engine/OrderList$Entry")) (t' := .long) (by decide) (by decide)))
  have F_next_en := F_next_en.other W11 (Or.inr (slot_ne (Or.inl (hw _ (List.mem_of_getElem? (i := 43) rfl))) (Or.inl (hw _ (List.mem_of_getElem? (i := 47) rfl))) (by decide) (t := (.object "com/example/round_table/roundtable/engine/OrderList$Entry")) (t' := .long) (by decide) (by decide)))
  have KP := KP.wr W11 (Or.inl (List.mem_of_getElem? (i := 2) rfl))
  refine RunsTo.of (T' := T11) (g' := (mkF m 123 #[.val (.ref o), .val (.ref be), .val (.ref en), .val (.ref be), .val .null, .val (.long (RR - lb)), .second] [])) st11 ?_
  refine RunsTo.of (T' := T11) (g' := (mkF m 139 #[.val (.ref o), .val (.ref be), .val (.ref en), .val (.ref be), .val .null, .val (.long (RR - lb)), .second] [])) (fun tgt_ kt => ?_) ?_
  · refine XS.goto X11.here hx rfl (pc0 := 123) (pc' := 139) rfl (hb hby d6_123) (by decide) (by decide) ?_
    show Steps p.tables e below (T11.setTop (mkF m 139 #[.val (.ref o), .val (.ref be), .val (.ref en), .val (.ref be), .val .null, .val (.long (RR - lb)), .second] [])) _
    exact kt
  refine RunsTo.retV X11 hx Bd.returns Bd.notSynchronized (hb hby d6_139) ?_ (by decide) (by decide)
  rw [e11]
  exact ⟨lb + own_min eg ((RR - lb) / 2), rfl, N11, KP, F_head_o, F_last_o, F_labelBits_o, F_endGap_o, F_label_be, F_previous_be, F_next_be, F_label_en, F_previous_en, F_next_en, own_label RR lb eg hlb hroom hR heg⟩
theorem d6_48 : decode prog_60_method_7_code 48 = .ok (.aload 4, 2) := by decide +kernel
theorem d6_50 : decode prog_60_method_7_code 50 = .ok (.aload_n 2, 1) := by decide +kernel
theorem d6_51 : decode prog_60_method_7_code 51 = .ok (.putfield 44, 3) := by decide +kernel
theorem d6_68 : decode prog_60_method_7_code 68 = .ok (.aload 4, 2) := by decide +kernel
theorem d6_70 : decode prog_60_method_7_code 70 = .ok (.getfield 57, 3) := by decide +kernel
theorem d6_113 : decode prog_60_method_7_code 113 = .ok (.lload 5, 2) := by decide +kernel
theorem d6_115 : decode prog_60_method_7_code 115 = .ok (.ldc2_w 60, 3) := by decide +kernel
theorem d6_118 : decode prog_60_method_7_code 118 = .ok (.ldiv, 1) := by decide +kernel
theorem ef_rm_insF (m : MethodId) (x0 : Addr) (x2 : Addr) : entryFrame m #[(.ref x0), .null, (.ref x2)] 7 = mkF m 0 #[.val (.ref x0), .val .null, .val (.ref x2), .unset, .unset, .unset, .unset] [] := by first | (simp [entryFrame, mkF, argsToLocals, Value.category]; done) | rfl
def Q_insF (Z : State) (o : Addr) (en : Addr) (hd r : Addr) (ls : Value) (bits : Int32) (eg lr ol : Int64) (rn : Value) (h0 : Heap) (n0 : Nat) (v : Option Value) (h : Heap) (L : List Loc) : Prop := v = none ∧ Fr n0 L ∧ Keep h0 h [o, hd, r, en] ∧ Fld Z h en "com/example/round_table/roundtable/engine/OrderList$Entry" "next" "Lcom/example/round_table/roundtable/engine/OrderList$Entry;" (.ref r)
set_option maxRecDepth 65536 in
set_option maxHeartbeats 40000000 in
theorem rm_insF (l : Launch) (Z : State) (a0 : Array Value) (hw : ∀ d ∈ tables_1, d.before a0 Z = true) (ws : List Jvm.Cond) (o : Addr) (en : Addr) (hd r : Addr) (ls : Value) (bits : Int32) (eg lr ol : Int64) (rn : Value) (h0 : Heap) (n0 : Nat) (Z0 : n0 ≤ h0.size) (E_o : Exa Z h0 o "com/example/round_table/roundtable/engine/OrderList") (g_o : n0 ≤ o) (F_head_o : Fld Z h0 o "com/example/round_table/roundtable/engine/OrderList" "head" "Lcom/example/round_table/roundtable/engine/OrderList$Entry;" (.ref hd)) (F_last_o : Fld Z h0 o "com/example/round_table/roundtable/engine/OrderList" "last" "Lcom/example/round_table/roundtable/engine/OrderList$Entry;" ls) (F_labelBits_o : Fld Z h0 o "com/example/round_table/roundtable/engine/OrderList" "labelBits" "I" (.int bits)) (F_endGap_o : Fld Z h0 o "com/example/round_table/roundtable/engine/OrderList" "endGap" "J" (.long eg)) (E_hd : Exa Z h0 hd "com/example/round_table/roundtable/engine/OrderList$Entry") (g_hd : n0 ≤ hd) (F_label_hd : Fld Z h0 hd "com/example/round_table/roundtable/engine/OrderList$Entry" "label" "J" (.long (0 : Int64))) (F_previous_hd : Fld Z h0 hd "com/example/round_table/roundtable/engine/OrderList$Entry" "previous" "Lcom/example/round_table/roundtable/engine/OrderList$Entry;" .null) (F_next_hd : Fld Z h0 hd "com/example/round_table/roundtable/engine/OrderList$Entry" "next" "Lcom/example/round_table/roundtable/engine/OrderList$Entry;" (.ref r)) (E_r : Exa Z h0 r "com/example/round_table/roundtable/engine/OrderList$Entry") (g_r : n0 ≤ r) (F_label_r : Fld Z h0 r "com/example/round_table/roundtable/engine/OrderList$Entry" "label" "J" (.long lr)) (F_previous_r : Fld Z h0 r "com/example/round_table/roundtable/engine/OrderList$Entry" "previous" "Lcom/example/round_table/roundtable/engine/OrderList$Entry;" (.ref hd)) (F_next_r : Fld Z h0 r "com/example/round_table/roundtable/engine/OrderList$Entry" "next" "Lcom/example/round_table/roundtable/engine/OrderList$Entry;" rn) (E_en : Exa Z h0 en "com/example/round_table/roundtable/engine/OrderList$Entry") (g_en : n0 ≤ en) (F_label_en : Fld Z h0 en "com/example/round_table/roundtable/engine/OrderList$Entry" "label" "J" (.long ol)) (F_previous_en : Fld Z h0 en "com/example/round_table/roundtable/engine/OrderList$Entry" "previous" "Lcom/example/round_table/roundtable/engine/OrderList$Entry;" .null) (F_next_en : Fld Z h0 en "com/example/round_table/roundtable/engine/OrderList$Entry" "next" "Lcom/example/round_table/roundtable/engine/OrderList$Entry;" .null) (ne_o_hd : o ≠ hd) (ne_o_en : o ≠ en) (ne_o_r : o ≠ r) (ne_hd_en : hd ≠ en) (ne_hd_r : hd ≠ r) (ne_r_en : r ≠ en) (hlr : 2 ≤ lr.toInt) :
    MetFree l (⟨"com/example/round_table/roundtable/engine/OrderList", "insertAfter", "(Lcom/example/round_table/roundtable/engine/OrderList$Entry;Lcom/example/round_table/roundtable/engine/OrderList$Entry;)V"⟩ : MethodName) (head1 (Jvm.Cond.code (⟨"com/example/round_table/roundtable/engine/OrderList", "insertAfter", "(Lcom/example/round_table/roundtable/engine/OrderList$Entry;Lcom/example/round_table/roundtable/engine/OrderList$Entry;)V"⟩ : MethodName) prog_60_method_7_code 7 none :: ws) ({ frames := 0, cells := 0, slots := 0, locals := 0 } : Room)) (fun as' U => as' = #[(.ref o), .null, (.ref en)] ∧ Z.Warmed39 U.vm ∧ U.heap = h0) (fun _ _ _ _ _ => True) (fun _ U_ o_ U'_ => ∃ v_ L_, o_ = .returned v_ ∧ Q_insF Z o en hd r ls bits eg lr ol rn h0 n0 v_ U'_.heap L_ ∧ FrameEnd U_ o_ U'_ L_ ({ frames := 0, cells := 0, slots := 0, locals := 0 } : Room).cells ({ frames := 0, cells := 0, slots := 0, locals := 0 } : Room).slots) := by
  refine MetFree.of_bodySF (plainFor_of_name pn_1) hisR ?_
  intro p e s m args below meth c s₁ Bd hml0 hP hK
  obtain ⟨rfl, hZ, hh⟩ := hP
  have hx := Bd.exec
  have hby := Bd.bytes
  have hml : c.maxLocals = 7 := hml0
  have hown : s.vm.findClass "com/example/round_table/roundtable/engine/OrderList" = some m.cls := findClass_of_methodNamed Bd.named
  have hnm := (name_of_methodNamed Bd.named Bd.method).1
  have X0 : Stand p l e ({ frames := 0, cells := 0, slots := 0, locals := 0 } : Room) s m #[(.ref o), .null, (.ref en)] below meth c s₁ [] 0 0 := Stand.of_body Bd
  have e0 : s₁.heap = h0 := by rw [← hh, Bd.state]; rfl
  have N0 := Fr.nil n0
  refine RunsTo.start (ef_rm_insF m o en) ?_
  show RunsTo p e below s s₁ (mkF m 0 #[.val (.ref o), .val .null, .val (.ref en), .unset, .unset, .unset, .unset] []) (Q_insF Z o en hd r ls bits eg lr ol rn h0 n0) ({ frames := 0, cells := 0, slots := 0, locals := 0 } : Room).cells ({ frames := 0, cells := 0, slots := 0, locals := 0 } : Room).slots
  have KP := Keep.refl h0 [o, hd, r, en]
  refine RunsTo.of (T' := s₁) (g' := (mkF m 5 #[.val (.ref o), .val .null, .val (.ref en), .unset, .unset, .unset, .unset] [(.ref o)])) (fun tgt_ kt => ?_) ?_
  · refine XS.aloadN X0.here hx rfl (hb hby d6_0) rfl rfl ?_
    show Steps p.tables e below (s₁.setTop (mkF m 1 #[.val (.ref o), .val .null, .val (.ref en), .unset, .unset, .unset, .unset] [.null])) _
    refine XS.ifnonnullNo X0.here hx rfl (hb hby d6_1) rfl ?_
    show Steps p.tables e below (s₁.setTop (mkF m 4 #[.val (.ref o), .val .null, .val (.ref en), .unset, .unset, .unset, .unset] [])) _
    refine XS.aloadN X0.here hx rfl (hb hby d6_4) rfl rfl ?_
    show Steps p.tables e below (s₁.setTop (mkF m 5 #[.val (.ref o), .val .null, .val (.ref en), .unset, .unset, .unset, .unset] [(.ref o)])) _
    exact kt
  obtain ⟨T1, X1, e1, st1⟩ := getF X0 hx hZ hown (host := "") (Or.inl (hw _ (List.mem_of_getElem? (i := 17) rfl))) Via.refl e0 F_head_o (g := (mkF m 5 #[.val (.ref o), .val .null, .val (.ref en), .unset, .unset, .unset, .unset] [(.ref o)])) rfl rfl (hb hby d6_5)
  refine RunsTo.of (T' := T1) (g' := (mkF m 8 #[.val (.ref o), .val .null, .val (.ref en), .unset, .unset, .unset, .unset] [(.ref hd)])) st1 ?_
  refine RunsTo.of (T' := T1) (g' := (mkF m 14 #[.val (.ref o), .val .null, .val (.ref en), .val (.ref hd), .unset, .unset, .unset] [(.ref hd)])) (fun tgt_ kt => ?_) ?_
  · refine XS.goto X1.here hx rfl (pc0 := 8) (pc' := 12) rfl (hb hby d6_8) (by decide) (by decide) ?_
    show Steps p.tables e below (T1.setTop (mkF m 12 #[.val (.ref o), .val .null, .val (.ref en), .unset, .unset, .unset, .unset] [(.ref hd)])) _
    refine XS.astoreN X1.here hx rfl (hb hby d6_12) rfl rfl (l' := #[.val (.ref o), .val .null, .val (.ref en), .val (.ref hd), .unset, .unset, .unset]) rfl ?_
    show Steps p.tables e below (T1.setTop (mkF m 13 #[.val (.ref o), .val .null, .val (.ref en), .val (.ref hd), .unset, .unset, .unset] [])) _
    refine XS.aloadN X1.here hx rfl (hb hby d6_13) rfl rfl ?_
    show Steps p.tables e below (T1.setTop (mkF m 14 #[.val (.ref o), .val .null, .val (.ref en), .val (.ref hd), .unset, .unset, .unset] [(.ref hd)])) _
    exact kt
  obtain ⟨T2, X2, e2, st2⟩ := getFR X1 hx hZ hown (hw _ (List.mem_of_getElem? (i := 42) rfl)) e1 F_next_hd (g := (mkF m 14 #[.val (.ref o), .val .null, .val (.ref en), .val (.ref hd), .unset, .unset, .unset] [(.ref hd)])) rfl rfl (hb hby d6_14)
  refine RunsTo.of (T' := T2) (g' := (mkF m 17 #[.val (.ref o), .val .null, .val (.ref en), .val (.ref hd), .unset, .unset, .unset] [(.ref r)])) st2 ?_
  refine RunsTo.of (T' := T2) (g' := (mkF m 21 #[.val (.ref o), .val .null, .val (.ref en), .val (.ref hd), .val (.ref r), .unset, .unset] [(.ref hd), (.ref en)])) (fun tgt_ kt => ?_) ?_
  · refine XS.astore X2.here hx rfl (hb hby d6_17) rfl rfl (l' := #[.val (.ref o), .val .null, .val (.ref en), .val (.ref hd), .val (.ref r), .unset, .unset]) rfl ?_
    show Steps p.tables e below (T2.setTop (mkF m 19 #[.val (.ref o), .val .null, .val (.ref en), .val (.ref hd), .val (.ref r), .unset, .unset] [])) _
    refine XS.aloadN X2.here hx rfl (hb hby d6_19) rfl rfl ?_
    show Steps p.tables e below (T2.setTop (mkF m 20 #[.val (.ref o), .val .null, .val (.ref en), .val (.ref hd), .val (.ref r), .unset, .unset] [(.ref en)])) _
    refine XS.aloadN X2.here hx rfl (hb hby d6_20) rfl rfl ?_
    show Steps p.tables e below (T2.setTop (mkF m 21 #[.val (.ref o), .val .null, .val (.ref en), .val (.ref hd), .val (.ref r), .unset, .unset] [(.ref hd), (.ref en)])) _
    exact kt
  obtain ⟨T3, h3, X3, e3, W3, st3⟩ := putFR X2 hx hZ hown (hw _ (List.mem_of_getElem? (i := 44) rfl)) e2 F_previous_en E_en (hw _ (List.mem_of_getElem? (i := 45) rfl)) (hw _ (List.mem_of_getElem? (i := 11) rfl)) (ty := (.object "com/example/round_table/roundtable/engine/OrderList$Entry")) (by decide) rfl rfl (g := (mkF m 21 #[.val (.ref o), .val .null, .val (.ref en), .val (.ref hd), .val (.ref r), .unset, .unset] [(.ref hd), (.ref en)])) rfl rfl (hb hby d6_21)
  have N3 := Fr.snoc X3 N0 g_en
  have Z3 : n0 ≤ h3.size := Nat.le_trans Z0 (Nat.le_of_eq W3.size.symm)
  have E_o := E_o.wr W3
  have F_head_o := F_head_o.other W3 (Or.inl ne_o_en)
  have F_last_o := F_last_o.other W3 (Or.inl ne_o_en)
  have F_labelBits_o := F_labelBits_o.other W3 (Or.inl ne_o_en)
  have F_endGap_o := F_endGap_o.other W3 (Or.inl ne_o_en)
  have E_hd := E_hd.wr W3
  have F_label_hd := F_label_hd.other W3 (Or.inl ne_hd_en)
  have F_previous_hd := F_previous_hd.other W3 (Or.inl ne_hd_en)
  have F_next_hd := F_next_hd.other W3 (Or.inl ne_hd_en)
  have E_r := E_r.wr W3
  have F_label_r := F_label_r.other W3 (Or.inl ne_r_en)
  have F_previous_r := F_previous_r.other W3 (Or.inl ne_r_en)
  have F_next_r := F_next_r.other W3 (Or.inl ne_r_en)
  have E_en := E_en.wr W3
  have F_label_en := F_label_en.other W3 (Or.inr (slot_ne (Or.inl (hw _ (List.mem_of_getElem? (i := 47) rfl))) (Or.inl (hw _ (List.mem_of_getElem? (i := 45) rfl))) (by decide) (t := .long) (t' := (.object "com/example/round_table/roundtable/engine/OrderList$Entry")) (by decide) (by decide)))
  have F_previous_en := F_previous_en.same W3
  have F_next_en := F_next_en.other W3 (Or.inr (slot_ne (Or.inl (hw _ (List.mem_of_getElem? (i := 43) rfl))) (Or.inl (hw _ (List.mem_of_getElem? (i := 45) rfl))) (by decide) (t := (.object "com/example/round_table/roundtable/engine/OrderList$Entry")) (t' := (.object "com/example/round_table/roundtable/engine/OrderList$Entry")) (by decide) (by decide)))
  have KP := KP.wr W3 (Or.inl (List.mem_of_getElem? (i := 3) rfl))
  refine RunsTo.of (T' := T3) (g' := (mkF m 24 #[.val (.ref o), .val .null, .val (.ref en), .val (.ref hd), .val (.ref r), .unset, .unset] [])) st3 ?_
  refine RunsTo.of (T' := T3) (g' := (mkF m 27 #[.val (.ref o), .val .null, .val (.ref en), .val (.ref hd), .val (.ref r), .unset, .unset] [(.ref r), (.ref en)])) (fun tgt_ kt => ?_) ?_
  · refine XS.aloadN X3.here hx rfl (hb hby d6_24) rfl rfl ?_
    show Steps p.tables e below (T3.setTop (mkF m 25 #[.val (.ref o), .val .null, .val (.ref en), .val (.ref hd), .val (.ref r), .unset, .unset] [(.ref en)])) _
    refine XS.aload X3.here hx rfl (hb hby d6_25) rfl rfl ?_
    show Steps p.tables e below (T3.setTop (mkF m 27 #[.val (.ref o), .val .null, .val (.ref en), .val (.ref hd), .val (.ref r), .unset, .unset] [(.ref r), (.ref en)])) _
    exact kt
  obtain ⟨T4, h4, X4, e4, W4, st4⟩ := putFR X3 hx hZ hown (hw _ (List.mem_of_getElem? (i := 42) rfl)) e3 F_next_en E_en (hw _ (List.mem_of_getElem? (i := 43) rfl)) (hw _ (List.mem_of_getElem? (i := 11) rfl)) (ty := (.object "com/example/round_table/roundtable/engine/OrderList$Entry")) (by decide) rfl rfl (g := (mkF m 27 #[.val (.ref o), .val .null, .val (.ref en), .val (.ref hd), .val (.ref r), .unset, .unset] [(.ref r), (.ref en)])) rfl rfl (hb hby d6_27)
  have N4 := Fr.snoc X4 N3 g_en
  have Z4 : n0 ≤ h4.size := Nat.le_trans Z3 (Nat.le_of_eq W4.size.symm)
  have E_o := E_o.wr W4
  have F_head_o := F_head_o.other W4 (Or.inl ne_o_en)
  have F_last_o := F_last_o.other W4 (Or.inl ne_o_en)
  have F_labelBits_o := F_labelBits_o.other W4 (Or.inl ne_o_en)
  have F_endGap_o := F_endGap_o.other W4 (Or.inl ne_o_en)
  have E_hd := E_hd.wr W4
  have F_label_hd := F_label_hd.other W4 (Or.inl ne_hd_en)
  have F_previous_hd := F_previous_hd.other W4 (Or.inl ne_hd_en)
  have F_next_hd := F_next_hd.other W4 (Or.inl ne_hd_en)
  have E_r := E_r.wr W4
  have F_label_r := F_label_r.other W4 (Or.inl ne_r_en)
  have F_previous_r := F_previous_r.other W4 (Or.inl ne_r_en)
  have F_next_r := F_next_r.other W4 (Or.inl ne_r_en)
  have E_en := E_en.wr W4
  have F_label_en := F_label_en.other W4 (Or.inr (slot_ne (Or.inl (hw _ (List.mem_of_getElem? (i := 47) rfl))) (Or.inl (hw _ (List.mem_of_getElem? (i := 43) rfl))) (by decide) (t := .long) (t' := (.object "com/example/round_table/roundtable/engine/OrderList$Entry")) (by decide) (by decide)))
  have F_previous_en := F_previous_en.other W4 (Or.inr (slot_ne (Or.inl (hw _ (List.mem_of_getElem? (i := 45) rfl))) (Or.inl (hw _ (List.mem_of_getElem? (i := 43) rfl))) (by decide) (t := (.object "com/example/round_table/roundtable/engine/OrderList$Entry")) (t' := (.object "com/example/round_table/roundtable/engine/OrderList$Entry")) (by decide) (by decide)))
  have F_next_en := F_next_en.same W4
  have KP := KP.wr W4 (Or.inl (List.mem_of_getElem? (i := 3) rfl))
  refine RunsTo.of (T' := T4) (g' := (mkF m 30 #[.val (.ref o), .val .null, .val (.ref en), .val (.ref hd), .val (.ref r), .unset, .unset] [])) st4 ?_
  refine RunsTo.of (T' := T4) (g' := (mkF m 32 #[.val (.ref o), .val .null, .val (.ref en), .val (.ref hd), .val (.ref r), .unset, .unset] [(.ref en), (.ref hd)])) (fun tgt_ kt => ?_) ?_
  · refine XS.aloadN X4.here hx rfl (hb hby d6_30) rfl rfl ?_
    show Steps p.tables e below (T4.setTop (mkF m 31 #[.val (.ref o), .val .null, .val (.ref en), .val (.ref hd), .val (.ref r), .unset, .unset] [(.ref hd)])) _
    refine XS.aloadN X4.here hx rfl (hb hby d6_31) rfl rfl ?_
    show Steps p.tables e below (T4.setTop (mkF m 32 #[.val (.ref o), .val .null, .val (.ref en), .val (.ref hd), .val (.ref r), .unset, .unset] [(.ref en), (.ref hd)])) _
    exact kt
  obtain ⟨T5, h5, X5, e5, W5, st5⟩ := putFR X4 hx hZ hown (hw _ (List.mem_of_getElem? (i := 42) rfl)) e4 F_next_hd E_hd (hw _ (List.mem_of_getElem? (i := 43) rfl)) (hw _ (List.mem_of_getElem? (i := 11) rfl)) (ty := (.object "com/example/round_table/roundtable/engine/OrderList$Entry")) (by decide) rfl rfl (g := (mkF m 32 #[.val (.ref o), .val .null, .val (.ref en), .val (.ref hd), .val (.ref r), .unset, .unset] [(.ref en), (.ref hd)])) rfl rfl (hb hby d6_32)
  have N5 := Fr.snoc X5 N4 g_hd
  have Z5 : n0 ≤ h5.size := Nat.le_trans Z4 (Nat.le_of_eq W5.size.symm)
  have E_o := E_o.wr W5
  have F_head_o := F_head_o.other W5 (Or.inl ne_o_hd)
  have F_last_o := F_last_o.other W5 (Or.inl ne_o_hd)
  have F_labelBits_o := F_labelBits_o.other W5 (Or.inl ne_o_hd)
  have F_endGap_o := F_endGap_o.other W5 (Or.inl ne_o_hd)
  have E_hd := E_hd.wr W5
  have F_label_hd := F_label_hd.other W5 (Or.inr (slot_ne (Or.inl (hw _ (List.mem_of_getElem? (i := 47) rfl))) (Or.inl (hw _ (List.mem_of_getElem? (i := 43) rfl))) (by decide) (t := .long) (t' := (.object "com/example/round_table/roundtable/engine/OrderList$Entry")) (by decide) (by decide)))
  have F_previous_hd := F_previous_hd.other W5 (Or.inr (slot_ne (Or.inl (hw _ (List.mem_of_getElem? (i := 45) rfl))) (Or.inl (hw _ (List.mem_of_getElem? (i := 43) rfl))) (by decide) (t := (.object "com/example/round_table/roundtable/engine/OrderList$Entry")) (t' := (.object "com/example/round_table/roundtable/engine/OrderList$Entry")) (by decide) (by decide)))
  have F_next_hd := F_next_hd.same W5
  have E_r := E_r.wr W5
  have F_label_r := F_label_r.other W5 (Or.inl (Ne.symm ne_hd_r))
  have F_previous_r := F_previous_r.other W5 (Or.inl (Ne.symm ne_hd_r))
  have F_next_r := F_next_r.other W5 (Or.inl (Ne.symm ne_hd_r))
  have E_en := E_en.wr W5
  have F_label_en := F_label_en.other W5 (Or.inl (Ne.symm ne_hd_en))
  have F_previous_en := F_previous_en.other W5 (Or.inl (Ne.symm ne_hd_en))
  have F_next_en := F_next_en.other W5 (Or.inl (Ne.symm ne_hd_en))
  have KP := KP.wr W5 (Or.inl (List.mem_of_getElem? (i := 1) rfl))
  refine RunsTo.of (T' := T5) (g' := (mkF m 35 #[.val (.ref o), .val .null, .val (.ref en), .val (.ref hd), .val (.ref r), .unset, .unset] [])) st5 ?_
  refine RunsTo.of (T' := T5) (g' := (mkF m 51 #[.val (.ref o), .val .null, .val (.ref en), .val (.ref hd), .val (.ref r), .unset, .unset] [(.ref en), (.ref r)])) (fun tgt_ kt => ?_) ?_
  · refine XS.aload X5.here hx rfl (hb hby d6_35) rfl rfl ?_
    show Steps p.tables e below (T5.setTop (mkF m 37 #[.val (.ref o), .val .null, .val (.ref en), .val (.ref hd), .val (.ref r), .unset, .unset] [(.ref r)])) _
    refine XS.ifnonnullYes X5.here hx rfl (pc0 := 37) (pc' := 48) rfl (hb hby d6_37) rfl (by decide) (by decide) ?_
    show Steps p.tables e below (T5.setTop (mkF m 48 #[.val (.ref o), .val .null, .val (.ref en), .val (.ref hd), .val (.ref r), .unset, .unset] [])) _
    refine XS.aload X5.here hx rfl (hb hby d6_48) rfl rfl ?_
    show Steps p.tables e below (T5.setTop (mkF m 50 #[.val (.ref o), .val .null, .val (.ref en), .val (.ref hd), .val (.ref r), .unset, .unset] [(.ref r)])) _
    refine XS.aloadN X5.here hx rfl (hb hby d6_50) rfl rfl ?_
    show Steps p.tables e below (T5.setTop (mkF m 51 #[.val (.ref o), .val .null, .val (.ref en), .val (.ref hd), .val (.ref r), .unset, .unset] [(.ref en), (.ref r)])) _
    exact kt
  obtain ⟨T6, h6, X6, e6, W6, st6⟩ := putFR X5 hx hZ hown (hw _ (List.mem_of_getElem? (i := 44) rfl)) e5 F_previous_r E_r (hw _ (List.mem_of_getElem? (i := 45) rfl)) (hw _ (List.mem_of_getElem? (i := 11) rfl)) (ty := (.object "com/example/round_table/roundtable/engine/OrderList$Entry")) (by decide) rfl rfl (g := (mkF m 51 #[.val (.ref o), .val .null, .val (.ref en), .val (.ref hd), .val (.ref r), .unset, .unset] [(.ref en), (.ref r)])) rfl rfl (hb hby d6_51)
  have N6 := Fr.snoc X6 N5 g_r
  have Z6 : n0 ≤ h6.size := Nat.le_trans Z5 (Nat.le_of_eq W6.size.symm)
  have E_o := E_o.wr W6
  have F_head_o := F_head_o.other W6 (Or.inl ne_o_r)
  have F_last_o := F_last_o.other W6 (Or.inl ne_o_r)
  have F_labelBits_o := F_labelBits_o.other W6 (Or.inl ne_o_r)
  have F_endGap_o := F_endGap_o.other W6 (Or.inl ne_o_r)
  have E_hd := E_hd.wr W6
  have F_label_hd := F_label_hd.other W6 (Or.inl ne_hd_r)
  have F_previous_hd := F_previous_hd.other W6 (Or.inl ne_hd_r)
  have F_next_hd := F_next_hd.other W6 (Or.inl ne_hd_r)
  have E_r := E_r.wr W6
  have F_label_r := F_label_r.other W6 (Or.inr (slot_ne (Or.inl (hw _ (List.mem_of_getElem? (i := 47) rfl))) (Or.inl (hw _ (List.mem_of_getElem? (i := 45) rfl))) (by decide) (t := .long) (t' := (.object "com/example/round_table/roundtable/engine/OrderList$Entry")) (by decide) (by decide)))
  have F_previous_r := F_previous_r.same W6
  have F_next_r := F_next_r.other W6 (Or.inr (slot_ne (Or.inl (hw _ (List.mem_of_getElem? (i := 43) rfl))) (Or.inl (hw _ (List.mem_of_getElem? (i := 45) rfl))) (by decide) (t := (.object "com/example/round_table/roundtable/engine/OrderList$Entry")) (t' := (.object "com/example/round_table/roundtable/engine/OrderList$Entry")) (by decide) (by decide)))
  have E_en := E_en.wr W6
  have F_label_en := F_label_en.other W6 (Or.inl (Ne.symm ne_r_en))
  have F_previous_en := F_previous_en.other W6 (Or.inl (Ne.symm ne_r_en))
  have F_next_en := F_next_en.other W6 (Or.inl (Ne.symm ne_r_en))
  have KP := KP.wr W6 (Or.inl (List.mem_of_getElem? (i := 2) rfl))
  refine RunsTo.of (T' := T6) (g' := (mkF m 54 #[.val (.ref o), .val .null, .val (.ref en), .val (.ref hd), .val (.ref r), .unset, .unset] [])) st6 ?_
  refine RunsTo.of (T' := T6) (g' := (mkF m 70 #[.val (.ref o), .val .null, .val (.ref en), .val (.ref hd), .val (.ref r), .unset, .unset] [(.ref r)])) (fun tgt_ kt => ?_) ?_
  · refine XS.aload X6.here hx rfl (hb hby d6_54) rfl rfl ?_
    show Steps p.tables e below (T6.setTop (mkF m 56 #[.val (.ref o), .val .null, .val (.ref en), .val (.ref hd), .val (.ref r), .unset, .unset] [(.ref r)])) _
    refine XS.ifnonnullYes X6.here hx rfl (pc0 := 56) (pc' := 68) rfl (hb hby d6_56) rfl (by decide) (by decide) ?_
    show Steps p.tables e below (T6.setTop (mkF m 68 #[.val (.ref o), .val .null, .val (.ref en), .val (.ref hd), .val (.ref r), .unset, .unset] [])) _
    refine XS.aload X6.here hx rfl (hb hby d6_68) rfl rfl ?_
    show Steps p.tables e below (T6.setTop (mkF m 70 #[.val (.ref o), .val .null, .val (.ref en), .val (.ref hd), .val (.ref r), .unset, .unset] [(.ref r)])) _
    exact kt
  obtain ⟨T7, X7, e7, st7⟩ := getFR X6 hx hZ hown (hw _ (List.mem_of_getElem? (i := 46) rfl)) e6 F_label_r (g := (mkF m 70 #[.val (.ref o), .val .null, .val (.ref en), .val (.ref hd), .val (.ref r), .unset, .unset] [(.ref r)])) rfl rfl (hb hby d6_70)
  refine RunsTo.of (T' := T7) (g' := (mkF m 73 #[.val (.ref o), .val .null, .val (.ref en), .val (.ref hd), .val (.ref r), .unset, .unset] [(.long lr)])) st7 ?_
  refine RunsTo.of (T' := T7) (g' := (mkF m 74 #[.val (.ref o), .val .null, .val (.ref en), .val (.ref hd), .val (.ref r), .unset, .unset] [(.ref hd), (.long lr)])) (fun tgt_ kt => ?_) ?_
  · refine XS.aloadN X7.here hx rfl (hb hby d6_73) rfl rfl ?_
    show Steps p.tables e below (T7.setTop (mkF m 74 #[.val (.ref o), .val .null, .val (.ref en), .val (.ref hd), .val (.ref r), .unset, .unset] [(.ref hd), (.long lr)])) _
    exact kt
  obtain ⟨T8, X8, e8, st8⟩ := getFR X7 hx hZ hown (hw _ (List.mem_of_getElem? (i := 46) rfl)) e7 F_label_hd (g := (mkF m 74 #[.val (.ref o), .val .null, .val (.ref en), .val (.ref hd), .val (.ref r), .unset, .unset] [(.ref hd), (.long lr)])) rfl rfl (hb hby d6_74)
  refine RunsTo.of (T' := T8) (g' := (mkF m 77 #[.val (.ref o), .val .null, .val (.ref en), .val (.ref hd), .val (.ref r), .unset, .unset] [(.long (0 : Int64)), (.long lr)])) st8 ?_
  refine RunsTo.of (T' := T8) (g' := (mkF m 84 #[.val (.ref o), .val .null, .val (.ref en), .val (.ref hd), .val (.ref r), .val (.long (lr - (0 : Int64))), .second] [(.int (lcmpW (lr - (0 : Int64)) (1 : Int64)))])) (fun tgt_ kt => ?_) ?_
  · refine XS.lsub X8.here hx rfl (hb hby d6_77) rfl ?_
    show Steps p.tables e below (T8.setTop (mkF m 78 #[.val (.ref o), .val .null, .val (.ref en), .val (.ref hd), .val (.ref r), .unset, .unset] [(.long (lr - (0 : Int64)))])) _
    refine XS.lstore X8.here hx rfl (hb hby d6_78) rfl (l' := #[.val (.ref o), .val .null, .val (.ref en), .val (.ref hd), .val (.ref r), .val (.long (lr - (0 : Int64))), .second]) rfl ?_
    show Steps p.tables e below (T8.setTop (mkF m 80 #[.val (.ref o), .val .null, .val (.ref en), .val (.ref hd), .val (.ref r), .val (.long (lr - (0 : Int64))), .second] [])) _
    refine XS.lload X8.here hx rfl (hb hby d6_80) rfl ?_
    show Steps p.tables e below (T8.setTop (mkF m 82 #[.val (.ref o), .val .null, .val (.ref en), .val (.ref hd), .val (.ref r), .val (.long (lr - (0 : Int64))), .second] [(.long (lr - (0 : Int64)))])) _
    refine XS.lconst X8.here hx rfl (hb hby d6_82) ?_
    show Steps p.tables e below (T8.setTop (mkF m 83 #[.val (.ref o), .val .null, .val (.ref en), .val (.ref hd), .val (.ref r), .val (.long (lr - (0 : Int64))), .second] [(.long (1 : Int64)), (.long (lr - (0 : Int64)))])) _
    refine XS.lcmp X8.here hx rfl (hb hby d6_83) rfl ?_
    show Steps p.tables e below (T8.setTop (mkF m 84 #[.val (.ref o), .val .null, .val (.ref en), .val (.ref hd), .val (.ref r), .val (.long (lr - (0 : Int64))), .second] [(.int (lcmpW (lr - (0 : Int64)) (1 : Int64)))])) _
    exact kt
  have hrm := own_room lr 0 (Int.le_refl 0) (by show (0 : Int) ≤ _; omega)
  refine RunsTo.of (T' := T8) (g' := (mkF m 89 #[.val (.ref o), .val .null, .val (.ref en), .val (.ref hd), .val (.ref r), .val (.long (lr - (0 : Int64))), .second] [(.ref hd), (.ref en)])) (fun tgt_ kt => ?_) ?_
  · refine XS.ifNo X8.here hx rfl (hb hby d6_84) rfl ((if0 _ _).trans (tlt ((lw_gt (lr - (0 : Int64)) (1 : Int64)).mpr (own_lt64 (show (1 : Int64).toInt < (lr - 0).toInt by rw [hrm, show (1 : Int64).toInt = 1 from rfl, show (0 : Int64).toInt = 0 from rfl]; omega)))).2.2.2) ?_
    show Steps p.tables e below (T8.setTop (mkF m 87 #[.val (.ref o), .val .null, .val (.ref en), .val (.ref hd), .val (.ref r), .val (.long (lr - (0 : Int64))), .second] [])) _
    refine XS.aloadN X8.here hx rfl (hb hby d6_87) rfl rfl ?_
    show Steps p.tables e below (T8.setTop (mkF m 88 #[.val (.ref o), .val .null, .val (.ref en), .val (.ref hd), .val (.ref r), .val (.long (lr - (0 : Int64))), .second] [(.ref en)])) _
    refine XS.aloadN X8.here hx rfl (hb hby d6_88) rfl rfl ?_
    show Steps p.tables e below (T8.setTop (mkF m 89 #[.val (.ref o), .val .null, .val (.ref en), .val (.ref hd), .val (.ref r), .val (.long (lr - (0 : Int64))), .second] [(.ref hd), (.ref en)])) _
    exact kt
  obtain ⟨T9, X9, e9, st9⟩ := getFR X8 hx hZ hown (hw _ (List.mem_of_getElem? (i := 46) rfl)) e8 F_label_hd (g := (mkF m 89 #[.val (.ref o), .val .null, .val (.ref en), .val (.ref hd), .val (.ref r), .val (.long (lr - (0 : Int64))), .second] [(.ref hd), (.ref en)])) rfl rfl (hb hby d6_89)
  refine RunsTo.of (T' := T9) (g' := (mkF m 92 #[.val (.ref o), .val .null, .val (.ref en), .val (.ref hd), .val (.ref r), .val (.long (lr - (0 : Int64))), .second] [(.long (0 : Int64)), (.ref en)])) st9 ?_
  refine RunsTo.of (T' := T9) (g' := (mkF m 120 #[.val (.ref o), .val .null, .val (.ref en), .val (.ref hd), .val (.ref r), .val (.long (lr - (0 : Int64))), .second] [(.long ((0 : Int64) + ((lr - (0 : Int64)) / (2 : Int64)))), (.ref en)])) (fun tgt_ kt => ?_) ?_
  · refine XS.aload X9.here hx rfl (hb hby d6_92) rfl rfl ?_
    show Steps p.tables e below (T9.setTop (mkF m 94 #[.val (.ref o), .val .null, .val (.ref en), .val (.ref hd), .val (.ref r), .val (.long (lr - (0 : Int64))), .second] [(.ref r), (.long (0 : Int64)), (.ref en)])) _
    refine XS.ifnonnullYes X9.here hx rfl (pc0 := 94) (pc' := 113) rfl (hb hby d6_94) rfl (by decide) (by decide) ?_
    show Steps p.tables e below (T9.setTop (mkF m 113 #[.val (.ref o), .val .null, .val (.ref en), .val (.ref hd), .val (.ref r), .val (.long (lr - (0 : Int64))), .second] [(.long (0 : Int64)), (.ref en)])) _
    refine XS.lload X9.here hx rfl (hb hby d6_113) rfl ?_
    show Steps p.tables e below (T9.setTop (mkF m 115 #[.val (.ref o), .val .null, .val (.ref en), .val (.ref hd), .val (.ref r), .val (.long (lr - (0 : Int64))), .second] [(.long (lr - (0 : Int64))), (.long (0 : Int64)), (.ref en)])) _
    refine X9.ldc2Long hx hown (mvT hZ (hw _ (List.mem_of_getElem? (i := 48) rfl))) (g := (mkF m 115 #[.val (.ref o), .val .null, .val (.ref en), .val (.ref hd), .val (.ref r), .val (.long (lr - (0 : Int64))), .second] [(.long (lr - (0 : Int64))), (.long (0 : Int64)), (.ref en)])) rfl (hb hby d6_115) _ ?_
    show Steps p.tables e below (T9.setTop (mkF m 118 #[.val (.ref o), .val .null, .val (.ref en), .val (.ref hd), .val (.ref r), .val (.long (lr - (0 : Int64))), .second] [(.long (2 : Int64)), (.long (lr - (0 : Int64))), (.long (0 : Int64)), (.ref en)])) _
    refine XS.ldiv X9.here hx rfl (hb hby d6_118) rfl (by decide) ?_
    show Steps p.tables e below (T9.setTop (mkF m 119 #[.val (.ref o), .val .null, .val (.ref en), .val (.ref hd), .val (.ref r), .val (.long (lr - (0 : Int64))), .second] [(.long ((lr - (0 : Int64)) / (2 : Int64))), (.long (0 : Int64)), (.ref en)])) _
    refine XS.ladd X9.here hx rfl (hb hby d6_119) rfl ?_
    show Steps p.tables e below (T9.setTop (mkF m 120 #[.val (.ref o), .val .null, .val (.ref en), .val (.ref hd), .val (.ref r), .val (.long (lr - (0 : Int64))), .second] [(.long ((0 : Int64) + ((lr - (0 : Int64)) / (2 : Int64)))), (.ref en)])) _
    exact kt
  obtain ⟨T10, h10, X10, e10, W10, st10⟩ := putFR X9 hx hZ hown (hw _ (List.mem_of_getElem? (i := 46) rfl)) e9 F_label_en E_en (hw _ (List.mem_of_getElem? (i := 47) rfl)) (hw _ (List.mem_of_getElem? (i := 11) rfl)) (ty := .long) (by decide) rfl rfl (g := (mkF m 120 #[.val (.ref o), .val .null, .val (.ref en), .val (.ref hd), .val (.ref r), .val (.long (lr - (0 : Int64))), .second] [(.long ((0 : Int64) + ((lr - (0 : Int64)) / (2 : Int64)))), (.ref en)])) rfl rfl (hb hby d6_120)
  have N10 := Fr.snoc X10 N6 g_en
  have Z10 : n0 ≤ h10.size := Nat.le_trans Z6 (Nat.le_of_eq W10.size.symm)
  have E_o := E_o.wr W10
  have F_head_o := F_head_o.other W10 (Or.inl ne_o_en)
  have F_last_o := F_last_o.other W10 (Or.inl ne_o_en)
  have F_labelBits_o := F_labelBits_o.other W10 (Or.inl ne_o_en)
  have F_endGap_o := F_endGap_o.other W10 (Or.inl ne_o_en)
  have E_hd := E_hd.wr W10
  have F_label_hd := F_label_hd.other W10 (Or.inl ne_hd_en)
  have F_previous_hd := F_previous_hd.other W10 (Or.inl ne_hd_en)
  have F_next_hd := F_next_hd.other W10 (Or.inl ne_hd_en)
  have E_r := E_r.wr W10
  have F_label_r := F_label_r.other W10 (Or.inl ne_r_en)
  have F_previous_r := F_previous_r.other W10 (Or.inl ne_r_en)
  have F_next_r := F_next_r.other W10 (Or.inl ne_r_en)
  have E_en := E_en.wr W10
  have F_label_en := F_label_en.same W10
  have F_previous_en := F_previous_en.other W10 (Or.inr (slot_ne (Or.inl (hw _ (List.mem_of_getElem? (i := 45) rfl))) (Or.inl (hw _ (List.mem_of_getElem? (i := 47) rfl))) (by decide) (t := (.object "com/example/round_table/roundtable/engine/OrderList$Entry")) (t' := .long) (by decide) (by decide)))
  have F_next_en := F_next_en.other W10 (Or.inr (slot_ne (Or.inl (hw _ (List.mem_of_getElem? (i := 43) rfl))) (Or.inl (hw _ (List.mem_of_getElem? (i := 47) rfl))) (by decide) (t := (.object "com/example/round_table/roundtable/engine/OrderList$Entry")) (t' := .long) (by decide) (by decide)))
  have KP := KP.wr W10 (Or.inl (List.mem_of_getElem? (i := 3) rfl))
  refine RunsTo.of (T' := T10) (g' := (mkF m 123 #[.val (.ref o), .val .null, .val (.ref en), .val (.ref hd), .val (.ref r), .val (.long (lr - (0 : Int64))), .second] [])) st10 ?_
  refine RunsTo.of (T' := T10) (g' := (mkF m 139 #[.val (.ref o), .val .null, .val (.ref en), .val (.ref hd), .val (.ref r), .val (.long (lr - (0 : Int64))), .second] [])) (fun tgt_ kt => ?_) ?_
  · refine XS.goto X10.here hx rfl (pc0 := 123) (pc' := 139) rfl (hb hby d6_123) (by decide) (by decide) ?_
    show Steps p.tables e below (T10.setTop (mkF m 139 #[.val (.ref o), .val .null, .val (.ref en), .val (.ref hd), .val (.ref r), .val (.long (lr - (0 : Int64))), .second] [])) _
    exact kt
  refine RunsTo.retV X10 hx Bd.returns Bd.notSynchronized (hb hby d6_139) ?_ (by decide) (by decide)
  rw [e10]
  exact ⟨rfl, N10, KP, F_next_en⟩
theorem d4_0 : decode prog_60_method_6_code 0 = .ok (.aload_n 0, 1) := by decide +kernel
theorem d4_1 : decode prog_60_method_6_code 1 = .ok (.aload_n 0, 1) := by decide +kernel
theorem pd_2 : parseMethodDescriptor "()Lcom/example/round_table/roundtable/engine/OrderList$Entry;" = some ⟨[], some (.object "com/example/round_table/roundtable/engine/OrderList$Entry")⟩ := by decide +kernel
theorem d4_2 : decode prog_60_method_6_code 2 = .ok (.invokevirtual 50, 3) := by decide +kernel
theorem d4_5 : decode prog_60_method_6_code 5 = .ok (.aload_n 1, 1) := by decide +kernel
theorem pd_3 : parseMethodDescriptor "(Lcom/example/round_table/roundtable/engine/OrderList$Entry;Lcom/example/round_table/roundtable/engine/OrderList$Entry;)V" = some ⟨[(.object "com/example/round_table/roundtable/engine/OrderList$Entry"), (.object "com/example/round_table/roundtable/engine/OrderList$Entry")], none⟩ := by decide +kernel
theorem d4_6 : decode prog_60_method_6_code 6 = .ok (.invokevirtual 53, 3) := by decide +kernel
theorem d4_9 : decode prog_60_method_6_code 9 = .ok (.return_, 1) := by decide +kernel
theorem ef_rm_appE (m : MethodId) (x0 : Addr) (x1 : Addr) : entryFrame m #[(.ref x0), (.ref x1)] 2 = mkF m 0 #[.val (.ref x0), .val (.ref x1)] [] := by first | (simp [entryFrame, mkF, argsToLocals, Value.category]; done) | rfl
def Q_appE (Z : State) (o : Addr) (en : Addr) (hd : Addr) (bits : Int32) (eg RR lb ol : Int64) (h0 : Heap) (n0 : Nat) (v : Option Value) (h : Heap) (L : List Loc) : Prop := ∃ lab : Int64, v = none ∧ Fr n0 L ∧ Keep h0 h [o, hd, en] ∧ Fld Z h o "com/example/round_table/roundtable/engine/OrderList" "head" "Lcom/example/round_table/roundtable/engine/OrderList$Entry;" (.ref hd) ∧ Fld Z h o "com/example/round_table/roundtable/engine/OrderList" "last" "Lcom/example/round_table/roundtable/engine/OrderList$Entry;" (.ref en) ∧ Fld Z h o "com/example/round_table/roundtable/engine/OrderList" "labelBits" "I" (.int bits) ∧ Fld Z h o "com/example/round_table/roundtable/engine/OrderList" "endGap" "J" (.long eg) ∧ Fld Z h hd "com/example/round_table/roundtable/engine/OrderList$Entry" "label" "J" (.long lb) ∧ Fld Z h hd "com/example/round_table/roundtable/engine/OrderList$Entry" "previous" "Lcom/example/round_table/roundtable/engine/OrderList$Entry;" .null ∧ Fld Z h hd "com/example/round_table/roundtable/engine/OrderList$Entry" "next" "Lcom/example/round_table/roundtable/engine/OrderList$Entry;" (.ref en) ∧ Fld Z h en "com/example/round_table/roundtable/engine/OrderList$Entry" "label" "J" (.long lab) ∧ Fld Z h en "com/example/round_table/roundtable/engine/OrderList$Entry" "previous" "Lcom/example/round_table/roundtable/engine/OrderList$Entry;" (.ref hd) ∧ Fld Z h en "com/example/round_table/roundtable/engine/OrderList$Entry" "next" "Lcom/example/round_table/roundtable/engine/OrderList$Entry;" .null ∧ lb.toInt + 1 ≤ lab.toInt ∧ (4 ≤ RR.toInt - lb.toInt → lb.toInt + 2 ≤ lab.toInt) ∧ RR.toInt - lb.toInt ≤ 2 * (RR.toInt - lab.toInt)
set_option maxRecDepth 65536 in
set_option maxHeartbeats 40000000 in
theorem rm_appE (l : Launch) (Z : State) (a0 : Array Value) (hw : ∀ d ∈ tables_1, d.before a0 Z = true) (ws : List Jvm.Cond) (o : Addr) (en : Addr) (hd : Addr) (bits : Int32) (eg RR lb ol : Int64) (h0 : Heap) (n0 : Nat) (Z0 : n0 ≤ h0.size) (E_o : Exa Z h0 o "com/example/round_table/roundtable/engine/OrderList") (g_o : n0 ≤ o) (F_head_o : Fld Z h0 o "com/example/round_table/roundtable/engine/OrderList" "head" "Lcom/example/round_table/roundtable/engine/OrderList$Entry;" (.ref hd)) (F_last_o : Fld Z h0 o "com/example/round_table/roundtable/engine/OrderList" "last" "Lcom/example/round_table/roundtable/engine/OrderList$Entry;" (.ref hd)) (F_labelBits_o : Fld Z h0 o "com/example/round_table/roundtable/engine/OrderList" "labelBits" "I" (.int bits)) (F_endGap_o : Fld Z h0 o "com/example/round_table/roundtable/engine/OrderList" "endGap" "J" (.long eg)) (E_hd : Exa Z h0 hd "com/example/round_table/roundtable/engine/OrderList$Entry") (g_hd : n0 ≤ hd) (F_label_hd : Fld Z h0 hd "com/example/round_table/roundtable/engine/OrderList$Entry" "label" "J" (.long lb)) (F_previous_hd : Fld Z h0 hd "com/example/round_table/roundtable/engine/OrderList$Entry" "previous" "Lcom/example/round_table/roundtable/engine/OrderList$Entry;" .null) (F_next_hd : Fld Z h0 hd "com/example/round_table/roundtable/engine/OrderList$Entry" "next" "Lcom/example/round_table/roundtable/engine/OrderList$Entry;" .null) (E_en : Exa Z h0 en "com/example/round_table/roundtable/engine/OrderList$Entry") (g_en : n0 ≤ en) (F_label_en : Fld Z h0 en "com/example/round_table/roundtable/engine/OrderList$Entry" "label" "J" (.long ol)) (F_previous_en : Fld Z h0 en "com/example/round_table/roundtable/engine/OrderList$Entry" "previous" "Lcom/example/round_table/roundtable/engine/OrderList$Entry;" .null) (F_next_en : Fld Z h0 en "com/example/round_table/roundtable/engine/OrderList$Entry" "next" "Lcom/example/round_table/roundtable/engine/OrderList$Entry;" .null) (ne_o_hd : o ≠ hd) (ne_o_en : o ≠ en) (ne_hd_en : hd ≠ en) (hRR : RR = (1 : Int64) <<< (bits &&& 0x3f).toInt64) (hR : RR.toInt ≤ 4611686018427387904) (heg : 2 ≤ eg.toInt) (hlb : 0 ≤ lb.toInt) (hroom : lb.toInt + 2 ≤ RR.toInt)  :
    MetFree l (⟨"com/example/round_table/roundtable/engine/OrderList", "append", "(Lcom/example/round_table/roundtable/engine/OrderList$Entry;)V"⟩ : MethodName) (head1 (Jvm.Cond.code (⟨"com/example/round_table/roundtable/engine/OrderList", "append", "(Lcom/example/round_table/roundtable/engine/OrderList$Entry;)V"⟩ : MethodName) prog_60_method_6_code 2 none :: ws) ({ frames := 2, cells := 0, slots := 0, locals := 36 } : Room)) (fun as' U => as' = #[(.ref o), (.ref en)] ∧ Z.Warmed39 U.vm ∧ U.heap = h0) (fun _ _ _ _ _ => True) (fun _ U_ o_ U'_ => ∃ v_ L_, o_ = .returned v_ ∧ Q_appE Z o en hd bits eg RR lb ol h0 n0 v_ U'_.heap L_ ∧ FrameEnd U_ o_ U'_ L_ ({ frames := 2, cells := 0, slots := 0, locals := 36 } : Room).cells ({ frames := 2, cells := 0, slots := 0, locals := 36 } : Room).slots) := by
  refine MetFree.of_bodySF (plainFor_of_name pn_1) hisR ?_
  intro p e s m args below meth c s₁ Bd hml0 hP hK
  obtain ⟨rfl, hZ, hh⟩ := hP
  have hx := Bd.exec
  have hby := Bd.bytes
  have hml : c.maxLocals = 2 := hml0
  have hown : s.vm.findClass "com/example/round_table/roundtable/engine/OrderList" = some m.cls := findClass_of_methodNamed Bd.named
  have hnm := (name_of_methodNamed Bd.named Bd.method).1
  have X0 : Stand p l e ({ frames := 2, cells := 0, slots := 0, locals := 36 } : Room) s m #[(.ref o), (.ref en)] below meth c s₁ [] 0 0 := Stand.of_body Bd
  have e0 : s₁.heap = h0 := by rw [← hh, Bd.state]; rfl
  have N0 := Fr.nil n0
  refine RunsTo.start (ef_rm_appE m o en) ?_
  show RunsTo p e below s s₁ (mkF m 0 #[.val (.ref o), .val (.ref en)] []) (Q_appE Z o en hd bits eg RR lb ol h0 n0) ({ frames := 2, cells := 0, slots := 0, locals := 36 } : Room).cells ({ frames := 2, cells := 0, slots := 0, locals := 36 } : Room).slots
  refine RunsTo.of (T' := s₁) (g' := (mkF m 2 #[.val (.ref o), .val (.ref en)] [(.ref o), (.ref o)])) (fun tgt_ kt => ?_) ?_
  · refine XS.aloadN X0.here hx rfl (hb hby d4_0) rfl rfl ?_
    show Steps p.tables e below (s₁.setTop (mkF m 1 #[.val (.ref o), .val (.ref en)] [(.ref o)])) _
    refine XS.aloadN X0.here hx rfl (hb hby d4_1) rfl rfl ?_
    show Steps p.tables e below (s₁.setTop (mkF m 2 #[.val (.ref o), .val (.ref en)] [(.ref o), (.ref o)])) _
    exact kt
  obtain ⟨cq1, kq1, q1a, q1b, q1c⟩ := isOf hZ e0 E_o
  obtain ⟨_, _, ⟨T1, L1, k1, n1⟩, -, X1, ⟨Lc1, hQ1, l1, y1, z1⟩, st1⟩ := X0.virtualBack hx (y := (⟨"com/example/round_table/roundtable/engine/OrderList", "last", "()Lcom/example/round_table/roundtable/engine/OrderList$Entry;"⟩ : MethodName)) (z := (⟨"com/example/round_table/roundtable/engine/OrderList", "last", "()Lcom/example/round_table/roundtable/engine/OrderList$Entry;"⟩ : MethodName)) hown (mvT hZ (hw _ (List.mem_of_getElem? (i := 32) rfl))) (mvT hZ (hw _ (List.mem_of_getElem? (i := 33) rfl))) (notFace_of_selects (args := #[]) (mvT hZ (hw _ (List.mem_of_getElem? (i := 35) rfl)))) (mvT hZ (hw _ (List.mem_of_getElem? (i := 35) rfl))) (mvT hZ (hw _ (List.mem_of_getElem? (i := 34) rfl))) (by decide) (backOf (W := 1) (rm_lastE l Z a0 hw [] o hd h0 n0 Z0 F_head_o F_last_o) hZ (hw _ (List.mem_of_getElem? (i := 36) rfl)) (hw _ (List.mem_of_getElem? (i := 3) rfl)) (by decide) (by decide)) q1a q1c (g := (mkF m 2 #[.val (.ref o), .val (.ref en)] [(.ref o), (.ref o)])) rfl (by rw [hml]; rfl) (Steps.refl _) (argsL := []) (rest := [(.ref o)]) (lenOf pd_2 rfl) rfl (by show 2 * 0 + _ ≤ _; exact Nat.le_of_eq rfl) (hb hby d4_2) (fun _ _ => ⟨rfl, e0, (by decide : 0 + 0 ≤ _), (by decide : 0 + 0 ≤ _)⟩)
  dsimp only [Pt.U, Pt.locs, Pt.cells, Pt.slots] at X1 l1 y1 z1 st1 hQ1
  subst l1 y1 z1
  obtain ⟨rfl, N1q, e1⟩ := hQ1
  have N1 := Fr.app N0 N1q
  refine RunsTo.of (T' := T1) (g' := (mkF m 5 #[.val (.ref o), .val (.ref en)] [.null, (.ref o)])) (fun _ kt => st1.trans kt) ?_
  refine RunsTo.of (T' := T1) (g' := (mkF m 6 #[.val (.ref o), .val (.ref en)] [(.ref en), .null, (.ref o)])) (fun tgt_ kt => ?_) ?_
  · refine XS.aloadN X1.here hx rfl (hb hby d4_5) rfl rfl ?_
    show Steps p.tables e below (T1.setTop (mkF m 6 #[.val (.ref o), .val (.ref en)] [(.ref en), .null, (.ref o)])) _
    exact kt
  obtain ⟨cq2, kq2, q2a, q2b, q2c⟩ := isOf hZ e1 E_o
  obtain ⟨_, _, ⟨T2, L2, k2, n2⟩, -, X2, ⟨Lc2, hQ2, l2, y2, z2⟩, st2⟩ := X1.virtualBack hx (y := (⟨"com/example/round_table/roundtable/engine/OrderList", "insertAfter", "(Lcom/example/round_table/roundtable/engine/OrderList$Entry;Lcom/example/round_table/roundtable/engine/OrderList$Entry;)V"⟩ : MethodName)) (z := (⟨"com/example/round_table/roundtable/engine/OrderList", "insertAfter", "(Lcom/example/round_table/roundtable/engine/OrderList$Entry;Lcom/example/round_table/roundtable/engine/OrderList$Entry;)V"⟩ : MethodName)) hown (mvT hZ (hw _ (List.mem_of_getElem? (i := 37) rfl))) (mvT hZ (hw _ (List.mem_of_getElem? (i := 38) rfl))) (notFace_of_selects (args := #[]) (mvT hZ (hw _ (List.mem_of_getElem? (i := 40) rfl)))) (mvT hZ (hw _ (List.mem_of_getElem? (i := 40) rfl))) (mvT hZ (hw _ (List.mem_of_getElem? (i := 39) rfl))) (by decide) (backOf (W := 0) (rm_insE l Z a0 hw [] o en hd bits eg RR lb ol h0 n0 Z0 E_o g_o F_head_o F_last_o F_labelBits_o F_endGap_o E_hd g_hd F_label_hd F_previous_hd F_next_hd E_en g_en F_label_en F_previous_en F_next_en ne_o_hd ne_o_en ne_hd_en hRR hR heg hlb hroom) hZ (hw _ (List.mem_of_getElem? (i := 41) rfl)) (hw _ (List.mem_of_getElem? (i := 3) rfl)) (by decide) (by decide)) q2a q2c (g := (mkF m 6 #[.val (.ref o), .val (.ref en)] [(.ref en), .null, (.ref o)])) rfl (by rw [hml]; rfl) (Steps.refl _) (argsL := [.null, (.ref en)]) (rest := []) (lenOf pd_3 rfl) rfl (by show 2 * 0 + _ ≤ _; exact Nat.le_of_eq rfl) (hb hby d4_6) (fun _ _ => ⟨rfl, e1, (by decide : 0 + 0 ≤ _), (by decide : 0 + 0 ≤ _)⟩)
  dsimp only [Pt.U, Pt.locs, Pt.cells, Pt.slots] at X2 l2 y2 z2 st2 hQ2
  subst l2 y2 z2
  obtain ⟨lab, rfl, N2q, K2, F_head_o, F_last_o, F_labelBits_o, F_endGap_o, F_label_hd, F_previous_hd, F_next_hd, F_label_en, F_previous_en, F_next_en, hbd⟩ := hQ2
  have N2 := Fr.app N1 N2q
  refine RunsTo.of (T' := T2) (g' := (mkF m 9 #[.val (.ref o), .val (.ref en)] [])) (fun _ kt => st2.trans kt) ?_
  refine RunsTo.retV X2 hx Bd.returns Bd.notSynchronized (hb hby d4_9) ?_ (by decide) (by decide)
  exact ⟨lab, rfl, N2, K2, F_head_o, F_last_o, F_labelBits_o, F_endGap_o, F_label_hd, F_previous_hd, F_next_hd, F_label_en, F_previous_en, F_next_en, hbd⟩
theorem ef_rm_appN (m : MethodId) (x0 : Addr) (x1 : Addr) : entryFrame m #[(.ref x0), (.ref x1)] 2 = mkF m 0 #[.val (.ref x0), .val (.ref x1)] [] := by first | (simp [entryFrame, mkF, argsToLocals, Value.category]; done) | rfl
def Q_appN (Z : State) (o : Addr) (en : Addr) (hd : Addr) (be : Addr) (pb : Value) (bits : Int32) (eg RR lb ol : Int64) (h0 : Heap) (n0 : Nat) (v : Option Value) (h : Heap) (L : List Loc) : Prop := ∃ lab : Int64, v = none ∧ Fr n0 L ∧ Keep h0 h [o, be, en] ∧ Fld Z h o "com/example/round_table/roundtable/engine/OrderList" "head" "Lcom/example/round_table/roundtable/engine/OrderList$Entry;" (.ref hd) ∧ Fld Z h o "com/example/round_table/roundtable/engine/OrderList" "last" "Lcom/example/round_table/roundtable/engine/OrderList$Entry;" (.ref en) ∧ Fld Z h o "com/example/round_table/roundtable/engine/OrderList" "labelBits" "I" (.int bits) ∧ Fld Z h o "com/example/round_table/roundtable/engine/OrderList" "endGap" "J" (.long eg) ∧ Fld Z h be "com/example/round_table/roundtable/engine/OrderList$Entry" "label" "J" (.long lb) ∧ Fld Z h be "com/example/round_table/roundtable/engine/OrderList$Entry" "previous" "Lcom/example/round_table/roundtable/engine/OrderList$Entry;" pb ∧ Fld Z h be "com/example/round_table/roundtable/engine/OrderList$Entry" "next" "Lcom/example/round_table/roundtable/engine/OrderList$Entry;" (.ref en) ∧ Fld Z h en "com/example/round_table/roundtable/engine/OrderList$Entry" "label" "J" (.long lab) ∧ Fld Z h en "com/example/round_table/roundtable/engine/OrderList$Entry" "previous" "Lcom/example/round_table/roundtable/engine/OrderList$Entry;" (.ref be) ∧ Fld Z h en "com/example/round_table/roundtable/engine/OrderList$Entry" "next" "Lcom/example/round_table/roundtable/engine/OrderList$Entry;" .null ∧ lb.toInt + 1 ≤ lab.toInt ∧ (4 ≤ RR.toInt - lb.toInt → lb.toInt + 2 ≤ lab.toInt) ∧ RR.toInt - lb.toInt ≤ 2 * (RR.toInt - lab.toInt)
set_option maxRecDepth 65536 in
set_option maxHeartbeats 40000000 in
theorem rm_appN (l : Launch) (Z : State) (a0 : Array Value) (hw : ∀ d ∈ tables_1, d.before a0 Z = true) (ws : List Jvm.Cond) (o : Addr) (en : Addr) (hd : Addr) (be : Addr) (pb : Value) (bits : Int32) (eg RR lb ol : Int64) (h0 : Heap) (n0 : Nat) (Z0 : n0 ≤ h0.size) (E_o : Exa Z h0 o "com/example/round_table/roundtable/engine/OrderList") (g_o : n0 ≤ o) (F_head_o : Fld Z h0 o "com/example/round_table/roundtable/engine/OrderList" "head" "Lcom/example/round_table/roundtable/engine/OrderList$Entry;" (.ref hd)) (F_last_o : Fld Z h0 o "com/example/round_table/roundtable/engine/OrderList" "last" "Lcom/example/round_table/roundtable/engine/OrderList$Entry;" (.ref be)) (F_labelBits_o : Fld Z h0 o "com/example/round_table/roundtable/engine/OrderList" "labelBits" "I" (.int bits)) (F_endGap_o : Fld Z h0 o "com/example/round_table/roundtable/engine/OrderList" "endGap" "J" (.long eg)) (E_be : Exa Z h0 be "com/example/round_table/roundtable/engine/OrderList$Entry") (g_be : n0 ≤ be) (F_label_be : Fld Z h0 be "com/example/round_table/roundtable/engine/OrderList$Entry" "label" "J" (.long lb)) (F_previous_be : Fld Z h0 be "com/example/round_table/roundtable/engine/OrderList$Entry" "previous" "Lcom/example/round_table/roundtable/engine/OrderList$Entry;" pb) (F_next_be : Fld Z h0 be "com/example/round_table/roundtable/engine/OrderList$Entry" "next" "Lcom/example/round_table/roundtable/engine/OrderList$Entry;" .null) (E_en : Exa Z h0 en "com/example/round_table/roundtable/engine/OrderList$Entry") (g_en : n0 ≤ en) (F_label_en : Fld Z h0 en "com/example/round_table/roundtable/engine/OrderList$Entry" "label" "J" (.long ol)) (F_previous_en : Fld Z h0 en "com/example/round_table/roundtable/engine/OrderList$Entry" "previous" "Lcom/example/round_table/roundtable/engine/OrderList$Entry;" .null) (F_next_en : Fld Z h0 en "com/example/round_table/roundtable/engine/OrderList$Entry" "next" "Lcom/example/round_table/roundtable/engine/OrderList$Entry;" .null) (ne_o_be : o ≠ be) (ne_o_en : o ≠ en) (ne_be_en : be ≠ en) (hne : be ≠ hd) (hRR : RR = (1 : Int64) <<< (bits &&& 0x3f).toInt64) (hR : RR.toInt ≤ 4611686018427387904) (heg : 2 ≤ eg.toInt) (hlb : 0 ≤ lb.toInt) (hroom : lb.toInt + 2 ≤ RR.toInt)  :
    MetFree l (⟨"com/example/round_table/roundtable/engine/OrderList", "append", "(Lcom/example/round_table/roundtable/engine/OrderList$Entry;)V"⟩ : MethodName) (head1 (Jvm.Cond.code (⟨"com/example/round_table/roundtable/engine/OrderList", "append", "(Lcom/example/round_table/roundtable/engine/OrderList$Entry;)V"⟩ : MethodName) prog_60_method_6_code 2 none :: ws) ({ frames := 2, cells := 0, slots := 0, locals := 36 } : Room)) (fun as' U => as' = #[(.ref o), (.ref en)] ∧ Z.Warmed39 U.vm ∧ U.heap = h0) (fun _ _ _ _ _ => True) (fun _ U_ o_ U'_ => ∃ v_ L_, o_ = .returned v_ ∧ Q_appN Z o en hd be pb bits eg RR lb ol h0 n0 v_ U'_.heap L_ ∧ FrameEnd U_ o_ U'_ L_ ({ frames := 2, cells := 0, slots := 0, locals := 36 } : Room).cells ({ frames := 2, cells := 0, slots := 0, locals := 36 } : Room).slots) := by
  refine MetFree.of_bodySF (plainFor_of_name pn_1) hisR ?_
  intro p e s m args below meth c s₁ Bd hml0 hP hK
  obtain ⟨rfl, hZ, hh⟩ := hP
  have hx := Bd.exec
  have hby := Bd.bytes
  have hml : c.maxLocals = 2 := hml0
  have hown : s.vm.findClass "com/example/round_table/roundtable/engine/OrderList" = some m.cls := findClass_of_methodNamed Bd.named
  have hnm := (name_of_methodNamed Bd.named Bd.method).1
  have X0 : Stand p l e ({ frames := 2, cells := 0, slots := 0, locals := 36 } : Room) s m #[(.ref o), (.ref en)] below meth c s₁ [] 0 0 := Stand.of_body Bd
  have e0 : s₁.heap = h0 := by rw [← hh, Bd.state]; rfl
  have N0 := Fr.nil n0
  refine RunsTo.start (ef_rm_appN m o en) ?_
  show RunsTo p e below s s₁ (mkF m 0 #[.val (.ref o), .val (.ref en)] []) (Q_appN Z o en hd be pb bits eg RR lb ol h0 n0) ({ frames := 2, cells := 0, slots := 0, locals := 36 } : Room).cells ({ frames := 2, cells := 0, slots := 0, locals := 36 } : Room).slots
  refine RunsTo.of (T' := s₁) (g' := (mkF m 2 #[.val (.ref o), .val (.ref en)] [(.ref o), (.ref o)])) (fun tgt_ kt => ?_) ?_
  · refine XS.aloadN X0.here hx rfl (hb hby d4_0) rfl rfl ?_
    show Steps p.tables e below (s₁.setTop (mkF m 1 #[.val (.ref o), .val (.ref en)] [(.ref o)])) _
    refine XS.aloadN X0.here hx rfl (hb hby d4_1) rfl rfl ?_
    show Steps p.tables e below (s₁.setTop (mkF m 2 #[.val (.ref o), .val (.ref en)] [(.ref o), (.ref o)])) _
    exact kt
  obtain ⟨cq1, kq1, q1a, q1b, q1c⟩ := isOf hZ e0 E_o
  obtain ⟨_, _, ⟨T1, L1, k1, n1⟩, -, X1, ⟨Lc1, hQ1, l1, y1, z1⟩, st1⟩ := X0.virtualBack hx (y := (⟨"com/example/round_table/roundtable/engine/OrderList", "last", "()Lcom/example/round_table/roundtable/engine/OrderList$Entry;"⟩ : MethodName)) (z := (⟨"com/example/round_table/roundtable/engine/OrderList", "last", "()Lcom/example/round_table/roundtable/engine/OrderList$Entry;"⟩ : MethodName)) hown (mvT hZ (hw _ (List.mem_of_getElem? (i := 32) rfl))) (mvT hZ (hw _ (List.mem_of_getElem? (i := 33) rfl))) (notFace_of_selects (args := #[]) (mvT hZ (hw _ (List.mem_of_getElem? (i := 35) rfl)))) (mvT hZ (hw _ (List.mem_of_getElem? (i := 35) rfl))) (mvT hZ (hw _ (List.mem_of_getElem? (i := 34) rfl))) (by decide) (backOf (W := 1) (rm_lastN l Z a0 hw [] o hd be h0 n0 Z0 F_head_o F_last_o hne) hZ (hw _ (List.mem_of_getElem? (i := 36) rfl)) (hw _ (List.mem_of_getElem? (i := 3) rfl)) (by decide) (by decide)) q1a q1c (g := (mkF m 2 #[.val (.ref o), .val (.ref en)] [(.ref o), (.ref o)])) rfl (by rw [hml]; rfl) (Steps.refl _) (argsL := []) (rest := [(.ref o)]) (lenOf pd_2 rfl) rfl (by show 2 * 0 + _ ≤ _; exact Nat.le_of_eq rfl) (hb hby d4_2) (fun _ _ => ⟨rfl, e0, (by decide : 0 + 0 ≤ _), (by decide : 0 + 0 ≤ _)⟩)
  dsimp only [Pt.U, Pt.locs, Pt.cells, Pt.slots] at X1 l1 y1 z1 st1 hQ1
  subst l1 y1 z1
  obtain ⟨rfl, N1q, e1⟩ := hQ1
  have N1 := Fr.app N0 N1q
  refine RunsTo.of (T' := T1) (g' := (mkF m 5 #[.val (.ref o), .val (.ref en)] [(.ref be), (.ref o)])) (fun _ kt => st1.trans kt) ?_
  refine RunsTo.of (T' := T1) (g' := (mkF m 6 #[.val (.ref o), .val (.ref en)] [(.ref en), (.ref be), (.ref o)])) (fun tgt_ kt => ?_) ?_
  · refine XS.aloadN X1.here hx rfl (hb hby d4_5) rfl rfl ?_
    show Steps p.tables e below (T1.setTop (mkF m 6 #[.val (.ref o), .val (.ref en)] [(.ref en), (.ref be), (.ref o)])) _
    exact kt
  obtain ⟨cq2, kq2, q2a, q2b, q2c⟩ := isOf hZ e1 E_o
  obtain ⟨_, _, ⟨T2, L2, k2, n2⟩, -, X2, ⟨Lc2, hQ2, l2, y2, z2⟩, st2⟩ := X1.virtualBack hx (y := (⟨"com/example/round_table/roundtable/engine/OrderList", "insertAfter", "(Lcom/example/round_table/roundtable/engine/OrderList$Entry;Lcom/example/round_table/roundtable/engine/OrderList$Entry;)V"⟩ : MethodName)) (z := (⟨"com/example/round_table/roundtable/engine/OrderList", "insertAfter", "(Lcom/example/round_table/roundtable/engine/OrderList$Entry;Lcom/example/round_table/roundtable/engine/OrderList$Entry;)V"⟩ : MethodName)) hown (mvT hZ (hw _ (List.mem_of_getElem? (i := 37) rfl))) (mvT hZ (hw _ (List.mem_of_getElem? (i := 38) rfl))) (notFace_of_selects (args := #[]) (mvT hZ (hw _ (List.mem_of_getElem? (i := 40) rfl)))) (mvT hZ (hw _ (List.mem_of_getElem? (i := 40) rfl))) (mvT hZ (hw _ (List.mem_of_getElem? (i := 39) rfl))) (by decide) (backOf (W := 0) (rm_insN l Z a0 hw [] o be en hd (.ref be) pb bits eg RR lb ol h0 n0 Z0 E_o g_o F_head_o F_last_o F_labelBits_o F_endGap_o E_be g_be F_label_be F_previous_be F_next_be E_en g_en F_label_en F_previous_en F_next_en ne_o_be ne_o_en ne_be_en hRR hR heg hlb hroom) hZ (hw _ (List.mem_of_getElem? (i := 41) rfl)) (hw _ (List.mem_of_getElem? (i := 3) rfl)) (by decide) (by decide)) q2a q2c (g := (mkF m 6 #[.val (.ref o), .val (.ref en)] [(.ref en), (.ref be), (.ref o)])) rfl (by rw [hml]; rfl) (Steps.refl _) (argsL := [(.ref be), (.ref en)]) (rest := []) (lenOf pd_3 rfl) rfl (by show 2 * 0 + _ ≤ _; exact Nat.le_of_eq rfl) (hb hby d4_6) (fun _ _ => ⟨rfl, e1, (by decide : 0 + 0 ≤ _), (by decide : 0 + 0 ≤ _)⟩)
  dsimp only [Pt.U, Pt.locs, Pt.cells, Pt.slots] at X2 l2 y2 z2 st2 hQ2
  subst l2 y2 z2
  obtain ⟨lab, rfl, N2q, K2, F_head_o, F_last_o, F_labelBits_o, F_endGap_o, F_label_be, F_previous_be, F_next_be, F_label_en, F_previous_en, F_next_en, hbd⟩ := hQ2
  have N2 := Fr.app N1 N2q
  refine RunsTo.of (T' := T2) (g' := (mkF m 9 #[.val (.ref o), .val (.ref en)] [])) (fun _ kt => st2.trans kt) ?_
  refine RunsTo.retV X2 hx Bd.returns Bd.notSynchronized (hb hby d4_9) ?_ (by decide) (by decide)
  exact ⟨lab, rfl, N2, K2, F_head_o, F_last_o, F_labelBits_o, F_endGap_o, F_label_be, F_previous_be, F_next_be, F_label_en, F_previous_en, F_next_en, hbd⟩
theorem d8_0 : decode prog_60_method_8_code 0 = .ok (.aload_n 1, 1) := by decide +kernel
theorem d8_1 : decode prog_60_method_8_code 1 = .ok (.getfield 44, 3) := by decide +kernel
theorem d8_4 : decode prog_60_method_8_code 4 = .ok (.aload_n 1, 1) := by decide +kernel
theorem d8_5 : decode prog_60_method_8_code 5 = .ok (.getfield 47, 3) := by decide +kernel
theorem d8_8 : decode prog_60_method_8_code 8 = .ok (.putfield 47, 3) := by decide +kernel
theorem d8_11 : decode prog_60_method_8_code 11 = .ok (.aload_n 1, 1) := by decide +kernel
theorem d8_12 : decode prog_60_method_8_code 12 = .ok (.getfield 47, 3) := by decide +kernel
theorem d8_15 : decode prog_60_method_8_code 15 = .ok (.ifnonnull 14, 3) := by decide +kernel
theorem d8_18 : decode prog_60_method_8_code 18 = .ok (.aload_n 0, 1) := by decide +kernel
theorem d8_19 : decode prog_60_method_8_code 19 = .ok (.aload_n 1, 1) := by decide +kernel
theorem d8_20 : decode prog_60_method_8_code 20 = .ok (.getfield 44, 3) := by decide +kernel
theorem d8_23 : decode prog_60_method_8_code 23 = .ok (.putfield 16, 3) := by decide +kernel
theorem d8_26 : decode prog_60_method_8_code 26 = .ok (.goto 14, 3) := by decide +kernel
theorem d8_40 : decode prog_60_method_8_code 40 = .ok (.aload_n 1, 1) := by decide +kernel
theorem d8_41 : decode prog_60_method_8_code 41 = .ok (.aconst_null, 1) := by decide +kernel
theorem d8_42 : decode prog_60_method_8_code 42 = .ok (.putfield 44, 3) := by decide +kernel
theorem d8_45 : decode prog_60_method_8_code 45 = .ok (.aload_n 1, 1) := by decide +kernel
theorem d8_46 : decode prog_60_method_8_code 46 = .ok (.aconst_null, 1) := by decide +kernel
theorem d8_47 : decode prog_60_method_8_code 47 = .ok (.putfield 47, 3) := by decide +kernel
theorem d8_50 : decode prog_60_method_8_code 50 = .ok (.return_, 1) := by decide +kernel
theorem ef_rm_remE (m : MethodId) (x0 : Addr) (x1 : Addr) : entryFrame m #[(.ref x0), (.ref x1)] 2 = mkF m 0 #[.val (.ref x0), .val (.ref x1)] [] := by first | (simp [entryFrame, mkF, argsToLocals, Value.category]; done) | rfl
def Q_remE (Z : State) (o : Addr) (a : Addr) (hd pv : Addr) (ls ppv : Value) (bits : Int32) (eg lp la : Int64)  (h0 : Heap) (n0 : Nat) (v : Option Value) (h : Heap) (L : List Loc) : Prop := v = none ∧ Fr n0 L ∧ Keep h0 h [o, pv, a] ∧ Fld Z h o "com/example/round_table/roundtable/engine/OrderList" "head" "Lcom/example/round_table/roundtable/engine/OrderList$Entry;" (.ref hd) ∧ Fld Z h o "com/example/round_table/roundtable/engine/OrderList" "last" "Lcom/example/round_table/roundtable/engine/OrderList$Entry;" (.ref pv) ∧ Fld Z h o "com/example/round_table/roundtable/engine/OrderList" "labelBits" "I" (.int bits) ∧ Fld Z h o "com/example/round_table/roundtable/engine/OrderList" "endGap" "J" (.long eg) ∧ Fld Z h pv "com/example/round_table/roundtable/engine/OrderList$Entry" "label" "J" (.long lp) ∧ Fld Z h pv "com/example/round_table/roundtable/engine/OrderList$Entry" "previous" "Lcom/example/round_table/roundtable/engine/OrderList$Entry;" ppv ∧ Fld Z h pv "com/example/round_table/roundtable/engine/OrderList$Entry" "next" "Lcom/example/round_table/roundtable/engine/OrderList$Entry;" .null ∧ Fld Z h a "com/example/round_table/roundtable/engine/OrderList$Entry" "label" "J" (.long la) ∧ Fld Z h a "com/example/round_table/roundtable/engine/OrderList$Entry" "previous" "Lcom/example/round_table/roundtable/engine/OrderList$Entry;" .null ∧ Fld Z h a "com/example/round_table/roundtable/engine/OrderList$Entry" "next" "Lcom/example/round_table/roundtable/engine/OrderList$Entry;" .null
set_option maxRecDepth 65536 in
set_option maxHeartbeats 40000000 in
theorem rm_remE (l : Launch) (Z : State) (a0 : Array Value) (hw : ∀ d ∈ tables_1, d.before a0 Z = true) (ws : List Jvm.Cond) (o : Addr) (a : Addr) (hd pv : Addr) (ls ppv : Value) (bits : Int32) (eg lp la : Int64)  (h0 : Heap) (n0 : Nat) (Z0 : n0 ≤ h0.size) (E_o : Exa Z h0 o "com/example/round_table/roundtable/engine/OrderList") (g_o : n0 ≤ o) (F_head_o : Fld Z h0 o "com/example/round_table/roundtable/engine/OrderList" "head" "Lcom/example/round_table/roundtable/engine/OrderList$Entry;" (.ref hd)) (F_last_o : Fld Z h0 o "com/example/round_table/roundtable/engine/OrderList" "last" "Lcom/example/round_table/roundtable/engine/OrderList$Entry;" ls) (F_labelBits_o : Fld Z h0 o "com/example/round_table/roundtable/engine/OrderList" "labelBits" "I" (.int bits)) (F_endGap_o : Fld Z h0 o "com/example/round_table/roundtable/engine/OrderList" "endGap" "J" (.long eg)) (E_pv : Exa Z h0 pv "com/example/round_table/roundtable/engine/OrderList$Entry") (g_pv : n0 ≤ pv) (F_label_pv : Fld Z h0 pv "com/example/round_table/roundtable/engine/OrderList$Entry" "label" "J" (.long lp)) (F_previous_pv : Fld Z h0 pv "com/example/round_table/roundtable/engine/OrderList$Entry" "previous" "Lcom/example/round_table/roundtable/engine/OrderList$Entry;" ppv) (F_next_pv : Fld Z h0 pv "com/example/round_table/roundtable/engine/OrderList$Entry" "next" "Lcom/example/round_table/roundtable/engine/OrderList$Entry;" (.ref a)) (E_a : Exa Z h0 a "com/example/round_table/roundtable/engine/OrderList$Entry") (g_a : n0 ≤ a) (F_label_a : Fld Z h0 a "com/example/round_table/roundtable/engine/OrderList$Entry" "label" "J" (.long la)) (F_previous_a : Fld Z h0 a "com/example/round_table/roundtable/engine/OrderList$Entry" "previous" "Lcom/example/round_table/roundtable/engine/OrderList$Entry;" (.ref pv)) (F_next_a : Fld Z h0 a "com/example/round_table/roundtable/engine/OrderList$Entry" "next" "Lcom/example/round_table/roundtable/engine/OrderList$Entry;" .null) (ne_o_pv : o ≠ pv) (ne_o_a : o ≠ a) (ne_pv_a : pv ≠ a)  :
    MetFree l (⟨"com/example/round_table/roundtable/engine/OrderList", "remove", "(Lcom/example/round_table/roundtable/engine/OrderList$Entry;)V"⟩ : MethodName) (head1 (Jvm.Cond.code (⟨"com/example/round_table/roundtable/engine/OrderList", "remove", "(Lcom/example/round_table/roundtable/engine/OrderList$Entry;)V"⟩ : MethodName) prog_60_method_8_code 2 none :: ws) ({ frames := 0, cells := 0, slots := 0, locals := 0 } : Room)) (fun as' U => as' = #[(.ref o), (.ref a)] ∧ Z.Warmed39 U.vm ∧ U.heap = h0) (fun _ _ _ _ _ => True) (fun _ U_ o_ U'_ => ∃ v_ L_, o_ = .returned v_ ∧ Q_remE Z o a hd pv ls ppv bits eg lp la h0 n0 v_ U'_.heap L_ ∧ FrameEnd U_ o_ U'_ L_ ({ frames := 0, cells := 0, slots := 0, locals := 0 } : Room).cells ({ frames := 0, cells := 0, slots := 0, locals := 0 } : Room).slots) := by
  refine MetFree.of_bodySF (plainFor_of_name pn_1) hisR ?_
  intro p e s m args below meth c s₁ Bd hml0 hP hK
  obtain ⟨rfl, hZ, hh⟩ := hP
  have hx := Bd.exec
  have hby := Bd.bytes
  have hml : c.maxLocals = 2 := hml0
  have hown : s.vm.findClass "com/example/round_table/roundtable/engine/OrderList" = some m.cls := findClass_of_methodNamed Bd.named
  have hnm := (name_of_methodNamed Bd.named Bd.method).1
  have X0 : Stand p l e ({ frames := 0, cells := 0, slots := 0, locals := 0 } : Room) s m #[(.ref o), (.ref a)] below meth c s₁ [] 0 0 := Stand.of_body Bd
  have e0 : s₁.heap = h0 := by rw [← hh, Bd.state]; rfl
  have N0 := Fr.nil n0
  refine RunsTo.start (ef_rm_remE m o a) ?_
  show RunsTo p e below s s₁ (mkF m 0 #[.val (.ref o), .val (.ref a)] []) (Q_remE Z o a hd pv ls ppv bits eg lp la h0 n0) ({ frames := 0, cells := 0, slots := 0, locals := 0 } : Room).cells ({ frames := 0, cells := 0, slots := 0, locals := 0 } : Room).slots
  have KP := Keep.refl h0 [o, pv, a]
  refine RunsTo.of (T' := s₁) (g' := (mkF m 1 #[.val (.ref o), .val (.ref a)] [(.ref a)])) (fun tgt_ kt => ?_) ?_
  · refine XS.aloadN X0.here hx rfl (hb hby d8_0) rfl rfl ?_
    show Steps p.tables e below (s₁.setTop (mkF m 1 #[.val (.ref o), .val (.ref a)] [(.ref a)])) _
    exact kt
  obtain ⟨T1, X1, e1, st1⟩ := getFR X0 hx hZ hown (hw _ (List.mem_of_getElem? (i := 44) rfl)) e0 F_previous_a (g := (mkF m 1 #[.val (.ref o), .val (.ref a)] [(.ref a)])) rfl rfl (hb hby d8_1)
  refine RunsTo.of (T' := T1) (g' := (mkF m 4 #[.val (.ref o), .val (.ref a)] [(.ref pv)])) st1 ?_
  refine RunsTo.of (T' := T1) (g' := (mkF m 5 #[.val (.ref o), .val (.ref a)] [(.ref a), (.ref pv)])) (fun tgt_ kt => ?_) ?_
  · refine XS.aloadN X1.here hx rfl (hb hby d8_4) rfl rfl ?_
    show Steps p.tables e below (T1.setTop (mkF m 5 #[.val (.ref o), .val (.ref a)] [(.ref a), (.ref pv)])) _
    exact kt
  obtain ⟨T2, X2, e2, st2⟩ := getFR X1 hx hZ hown (hw _ (List.mem_of_getElem? (i := 42) rfl)) e1 F_next_a (g := (mkF m 5 #[.val (.ref o), .val (.ref a)] [(.ref a), (.ref pv)])) rfl rfl (hb hby d8_5)
  refine RunsTo.of (T' := T2) (g' := (mkF m 8 #[.val (.ref o), .val (.ref a)] [.null, (.ref pv)])) st2 ?_
  obtain ⟨T3, h3, X3, e3, W3, st3⟩ := putFR X2 hx hZ hown (hw _ (List.mem_of_getElem? (i := 42) rfl)) e2 F_next_pv E_pv (hw _ (List.mem_of_getElem? (i := 43) rfl)) (hw _ (List.mem_of_getElem? (i := 11) rfl)) (ty := (.object "com/example/round_table/roundtable/engine/OrderList$Entry")) (by decide) rfl rfl (g := (mkF m 8 #[.val (.ref o), .val (.ref a)] [.null, (.ref pv)])) rfl rfl (hb hby d8_8)
  have N3 := Fr.snoc X3 N0 g_pv
  have Z3 : n0 ≤ h3.size := Nat.le_trans Z0 (Nat.le_of_eq W3.size.symm)
  have E_o := E_o.wr W3
  have F_head_o := F_head_o.other W3 (Or.inl ne_o_pv)
  have F_last_o := F_last_o.other W3 (Or.inl ne_o_pv)
  have F_labelBits_o := F_labelBits_o.other W3 (Or.inl ne_o_pv)
  have F_endGap_o := F_endGap_o.other W3 (Or.inl ne_o_pv)
  have E_pv := E_pv.wr W3
  have F_label_pv := F_label_pv.other W3 (Or.inr (slot_ne (Or.inl (hw _ (List.mem_of_getElem? (i := 47) rfl))) (Or.inl (hw _ (List.mem_of_getElem? (i := 43) rfl))) (by decide) (t := .long) (t' := (.object "com/example/round_table/roundtable/engine/OrderList$Entry")) (by decide) (by decide)))
  have F_previous_pv := F_previous_pv.other W3 (Or.inr (slot_ne (Or.inl (hw _ (List.mem_of_getElem? (i := 45) rfl))) (Or.inl (hw _ (List.mem_of_getElem? (i := 43) rfl))) (by decide) (t := (.object "com/example/round_table/roundtable/engine/OrderList$Entry")) (t' := (.object "com/example/round_table/roundtable/engine/OrderList$Entry")) (by decide) (by decide)))
  have F_next_pv := F_next_pv.same W3
  have E_a := E_a.wr W3
  have F_label_a := F_label_a.other W3 (Or.inl (Ne.symm ne_pv_a))
  have F_previous_a := F_previous_a.other W3 (Or.inl (Ne.symm ne_pv_a))
  have F_next_a := F_next_a.other W3 (Or.inl (Ne.symm ne_pv_a))
  have KP := KP.wr W3 (Or.inl (List.mem_of_getElem? (i := 1) rfl))
  refine RunsTo.of (T' := T3) (g' := (mkF m 11 #[.val (.ref o), .val (.ref a)] [])) st3 ?_
  refine RunsTo.of (T' := T3) (g' := (mkF m 12 #[.val (.ref o), .val (.ref a)] [(.ref a)])) (fun tgt_ kt => ?_) ?_
  · refine XS.aloadN X3.here hx rfl (hb hby d8_11) rfl rfl ?_
    show Steps p.tables e below (T3.setTop (mkF m 12 #[.val (.ref o), .val (.ref a)] [(.ref a)])) _
    exact kt
  obtain ⟨T4, X4, e4, st4⟩ := getFR X3 hx hZ hown (hw _ (List.mem_of_getElem? (i := 42) rfl)) e3 F_next_a (g := (mkF m 12 #[.val (.ref o), .val (.ref a)] [(.ref a)])) rfl rfl (hb hby d8_12)
  refine RunsTo.of (T' := T4) (g' := (mkF m 15 #[.val (.ref o), .val (.ref a)] [.null])) st4 ?_
  refine RunsTo.of (T' := T4) (g' := (mkF m 20 #[.val (.ref o), .val (.ref a)] [(.ref a), (.ref o)])) (fun tgt_ kt => ?_) ?_
  · refine XS.ifnonnullNo X4.here hx rfl (hb hby d8_15) rfl ?_
    show Steps p.tables e below (T4.setTop (mkF m 18 #[.val (.ref o), .val (.ref a)] [])) _
    refine XS.aloadN X4.here hx rfl (hb hby d8_18) rfl rfl ?_
    show Steps p.tables e below (T4.setTop (mkF m 19 #[.val (.ref o), .val (.ref a)] [(.ref o)])) _
    refine XS.aloadN X4.here hx rfl (hb hby d8_19) rfl rfl ?_
    show Steps p.tables e below (T4.setTop (mkF m 20 #[.val (.ref o), .val (.ref a)] [(.ref a), (.ref o)])) _
    exact kt
  obtain ⟨T5, X5, e5, st5⟩ := getFR X4 hx hZ hown (hw _ (List.mem_of_getElem? (i := 44) rfl)) e4 F_previous_a (g := (mkF m 20 #[.val (.ref o), .val (.ref a)] [(.ref a), (.ref o)])) rfl rfl (hb hby d8_20)
  refine RunsTo.of (T' := T5) (g' := (mkF m 23 #[.val (.ref o), .val (.ref a)] [(.ref pv), (.ref o)])) st5 ?_
  obtain ⟨T6, h6, X6, e6, W6, st6⟩ := putF X5 hx hZ hown (host := "") (Or.inl (hw _ (List.mem_of_getElem? (i := 19) rfl))) Via.refl e5 F_last_o E_o (Or.inl (hw _ (List.mem_of_getElem? (i := 20) rfl))) (hw _ (List.mem_of_getElem? (i := 2) rfl)) (ty := (.object "com/example/round_table/roundtable/engine/OrderList$Entry")) (by decide) rfl rfl (g := (mkF m 23 #[.val (.ref o), .val (.ref a)] [(.ref pv), (.ref o)])) rfl rfl (hb hby d8_23)
  have N6 := Fr.snoc X6 N3 g_o
  have Z6 : n0 ≤ h6.size := Nat.le_trans Z3 (Nat.le_of_eq W6.size.symm)
  have E_o := E_o.wr W6
  have F_head_o := F_head_o.other W6 (Or.inr (slot_ne (Or.inr (hw _ (List.mem_of_getElem? (i := 18) rfl))) (Or.inl (hw _ (List.mem_of_getElem? (i := 20) rfl))) (by decide) (t := (.object "com/example/round_table/roundtable/engine/OrderList$Entry")) (t' := (.object "com/example/round_table/roundtable/engine/OrderList$Entry")) (by decide) (by decide)))
  have F_last_o := F_last_o.same W6
  have F_labelBits_o := F_labelBits_o.other W6 (Or.inr (slot_ne (Or.inr (hw _ (List.mem_of_getElem? (i := 22) rfl))) (Or.inl (hw _ (List.mem_of_getElem? (i := 20) rfl))) (by decide) (t := .int) (t' := (.object "com/example/round_table/roundtable/engine/OrderList$Entry")) (by decide) (by decide)))
  have F_endGap_o := F_endGap_o.other W6 (Or.inr (slot_ne (Or.inr (hw _ (List.mem_of_getElem? (i := 24) rfl))) (Or.inl (hw _ (List.mem_of_getElem? (i := 20) rfl))) (by decide) (t := .long) (t' := (.object "com/example/round_table/roundtable/engine/OrderList$Entry")) (by decide) (by decide)))
  have E_pv := E_pv.wr W6
  have F_label_pv := F_label_pv.other W6 (Or.inl (Ne.symm ne_o_pv))
  have F_previous_pv := F_previous_pv.other W6 (Or.inl (Ne.symm ne_o_pv))
  have F_next_pv := F_next_pv.other W6 (Or.inl (Ne.symm ne_o_pv))
  have E_a := E_a.wr W6
  have F_label_a := F_label_a.other W6 (Or.inl (Ne.symm ne_o_a))
  have F_previous_a := F_previous_a.other W6 (Or.inl (Ne.symm ne_o_a))
  have F_next_a := F_next_a.other W6 (Or.inl (Ne.symm ne_o_a))
  have KP := KP.wr W6 (Or.inl (List.mem_of_getElem? (i := 0) rfl))
  refine RunsTo.of (T' := T6) (g' := (mkF m 26 #[.val (.ref o), .val (.ref a)] [])) st6 ?_
  refine RunsTo.of (T' := T6) (g' := (mkF m 42 #[.val (.ref o), .val (.ref a)] [.null, (.ref a)])) (fun tgt_ kt => ?_) ?_
  · refine XS.goto X6.here hx rfl (pc0 := 26) (pc' := 40) rfl (hb hby d8_26) (by decide) (by decide) ?_
    show Steps p.tables e below (T6.setTop (mkF m 40 #[.val (.ref o), .val (.ref a)] [])) _
    refine XS.aloadN X6.here hx rfl (hb hby d8_40) rfl rfl ?_
    show Steps p.tables e below (T6.setTop (mkF m 41 #[.val (.ref o), .val (.ref a)] [(.ref a)])) _
    refine XS.aconstNull X6.here hx rfl (hb hby d8_41) ?_
    show Steps p.tables e below (T6.setTop (mkF m 42 #[.val (.ref o), .val (.ref a)] [.null, (.ref a)])) _
    exact kt
  obtain ⟨T7, h7, X7, e7, W7, st7⟩ := putFR X6 hx hZ hown (hw _ (List.mem_of_getElem? (i := 44) rfl)) e6 F_previous_a E_a (hw _ (List.mem_of_getElem? (i := 45) rfl)) (hw _ (List.mem_of_getElem? (i := 11) rfl)) (ty := (.object "com/example/round_table/roundtable/engine/OrderList$Entry")) (by decide) rfl rfl (g := (mkF m 42 #[.val (.ref o), .val (.ref a)] [.null, (.ref a)])) rfl rfl (hb hby d8_42)
  have N7 := Fr.snoc X7 N6 g_a
  have Z7 : n0 ≤ h7.size := Nat.le_trans Z6 (Nat.le_of_eq W7.size.symm)
  have E_o := E_o.wr W7
  have F_head_o := F_head_o.other W7 (Or.inl ne_o_a)
  have F_last_o := F_last_o.other W7 (Or.inl ne_o_a)
  have F_labelBits_o := F_labelBits_o.other W7 (Or.inl ne_o_a)
  have F_endGap_o := F_endGap_o.other W7 (Or.inl ne_o_a)
  have E_pv := E_pv.wr W7
  have F_label_pv := F_label_pv.other W7 (Or.inl ne_pv_a)
  have F_previous_pv := F_previous_pv.other W7 (Or.inl ne_pv_a)
  have F_next_pv := F_next_pv.other W7 (Or.inl ne_pv_a)
  have E_a := E_a.wr W7
  have F_label_a := F_label_a.other W7 (Or.inr (slot_ne (Or.inl (hw _ (List.mem_of_getElem? (i := 47) rfl))) (Or.inl (hw _ (List.mem_of_getElem? (i := 45) rfl))) (by decide) (t := .long) (t' := (.object "com/example/round_table/roundtable/engine/OrderList$Entry")) (by decide) (by decide)))
  have F_previous_a := F_previous_a.same W7
  have F_next_a := F_next_a.other W7 (Or.inr (slot_ne (Or.inl (hw _ (List.mem_of_getElem? (i := 43) rfl))) (Or.inl (hw _ (List.mem_of_getElem? (i := 45) rfl))) (by decide) (t := (.object "com/example/round_table/roundtable/engine/OrderList$Entry")) (t' := (.object "com/example/round_table/roundtable/engine/OrderList$Entry")) (by decide) (by decide)))
  have KP := KP.wr W7 (Or.inl (List.mem_of_getElem? (i := 2) rfl))
  refine RunsTo.of (T' := T7) (g' := (mkF m 45 #[.val (.ref o), .val (.ref a)] [])) st7 ?_
  refine RunsTo.of (T' := T7) (g' := (mkF m 47 #[.val (.ref o), .val (.ref a)] [.null, (.ref a)])) (fun tgt_ kt => ?_) ?_
  · refine XS.aloadN X7.here hx rfl (hb hby d8_45) rfl rfl ?_
    show Steps p.tables e below (T7.setTop (mkF m 46 #[.val (.ref o), .val (.ref a)] [(.ref a)])) _
    refine XS.aconstNull X7.here hx rfl (hb hby d8_46) ?_
    show Steps p.tables e below (T7.setTop (mkF m 47 #[.val (.ref o), .val (.ref a)] [.null, (.ref a)])) _
    exact kt
  obtain ⟨T8, h8, X8, e8, W8, st8⟩ := putFR X7 hx hZ hown (hw _ (List.mem_of_getElem? (i := 42) rfl)) e7 F_next_a E_a (hw _ (List.mem_of_getElem? (i := 43) rfl)) (hw _ (List.mem_of_getElem? (i := 11) rfl)) (ty := (.object "com/example/round_table/roundtable/engine/OrderList$Entry")) (by decide) rfl rfl (g := (mkF m 47 #[.val (.ref o), .val (.ref a)] [.null, (.ref a)])) rfl rfl (hb hby d8_47)
  have N8 := Fr.snoc X8 N7 g_a
  have Z8 : n0 ≤ h8.size := Nat.le_trans Z7 (Nat.le_of_eq W8.size.symm)
  have E_o := E_o.wr W8
  have F_head_o := F_head_o.other W8 (Or.inl ne_o_a)
  have F_last_o := F_last_o.other W8 (Or.inl ne_o_a)
  have F_labelBits_o := F_labelBits_o.other W8 (Or.inl ne_o_a)
  have F_endGap_o := F_endGap_o.other W8 (Or.inl ne_o_a)
  have E_pv := E_pv.wr W8
  have F_label_pv := F_label_pv.other W8 (Or.inl ne_pv_a)
  have F_previous_pv := F_previous_pv.other W8 (Or.inl ne_pv_a)
  have F_next_pv := F_next_pv.other W8 (Or.inl ne_pv_a)
  have E_a := E_a.wr W8
  have F_label_a := F_label_a.other W8 (Or.inr (slot_ne (Or.inl (hw _ (List.mem_of_getElem? (i := 47) rfl))) (Or.inl (hw _ (List.mem_of_getElem? (i := 43) rfl))) (by decide) (t := .long) (t' := (.object "com/example/round_table/roundtable/engine/OrderList$Entry")) (by decide) (by decide)))
  have F_previous_a := F_previous_a.other W8 (Or.inr (slot_ne (Or.inl (hw _ (List.mem_of_getElem? (i := 45) rfl))) (Or.inl (hw _ (List.mem_of_getElem? (i := 43) rfl))) (by decide) (t := (.object "com/example/round_table/roundtable/engine/OrderList$Entry")) (t' := (.object "com/example/round_table/roundtable/engine/OrderList$Entry")) (by decide) (by decide)))
  have F_next_a := F_next_a.same W8
  have KP := KP.wr W8 (Or.inl (List.mem_of_getElem? (i := 2) rfl))
  refine RunsTo.of (T' := T8) (g' := (mkF m 50 #[.val (.ref o), .val (.ref a)] [])) st8 ?_
  refine RunsTo.retV X8 hx Bd.returns Bd.notSynchronized (hb hby d8_50) ?_ (by decide) (by decide)
  rw [e8]
  exact ⟨rfl, N8, KP, F_head_o, F_last_o, F_labelBits_o, F_endGap_o, F_label_pv, F_previous_pv, F_next_pv, F_label_a, F_previous_a, F_next_a⟩
theorem d8_29 : decode prog_60_method_8_code 29 = .ok (.aload_n 1, 1) := by decide +kernel
theorem d8_30 : decode prog_60_method_8_code 30 = .ok (.getfield 47, 3) := by decide +kernel
theorem d8_33 : decode prog_60_method_8_code 33 = .ok (.aload_n 1, 1) := by decide +kernel
theorem d8_34 : decode prog_60_method_8_code 34 = .ok (.getfield 44, 3) := by decide +kernel
theorem d8_37 : decode prog_60_method_8_code 37 = .ok (.putfield 44, 3) := by decide +kernel
theorem ef_rm_remN (m : MethodId) (x0 : Addr) (x1 : Addr) : entryFrame m #[(.ref x0), (.ref x1)] 2 = mkF m 0 #[.val (.ref x0), .val (.ref x1)] [] := by first | (simp [entryFrame, mkF, argsToLocals, Value.category]; done) | rfl
def Q_remN (Z : State) (o : Addr) (a : Addr) (hd pv : Addr) (ls ppv : Value) (bits : Int32) (eg lp la : Int64) (nx : Addr) (ln : Int64) (nn : Value) (h0 : Heap) (n0 : Nat) (v : Option Value) (h : Heap) (L : List Loc) : Prop := v = none ∧ Fr n0 L ∧ Keep h0 h [o, pv, a, nx] ∧ Fld Z h o "com/example/round_table/roundtable/engine/OrderList" "head" "Lcom/example/round_table/roundtable/engine/OrderList$Entry;" (.ref hd) ∧ Fld Z h o "com/example/round_table/roundtable/engine/OrderList" "last" "Lcom/example/round_table/roundtable/engine/OrderList$Entry;" ls ∧ Fld Z h o "com/example/round_table/roundtable/engine/OrderList" "labelBits" "I" (.int bits) ∧ Fld Z h o "com/example/round_table/roundtable/engine/OrderList" "endGap" "J" (.long eg) ∧ Fld Z h pv "com/example/round_table/roundtable/engine/OrderList$Entry" "label" "J" (.long lp) ∧ Fld Z h pv "com/example/round_table/roundtable/engine/OrderList$Entry" "previous" "Lcom/example/round_table/roundtable/engine/OrderList$Entry;" ppv ∧ Fld Z h pv "com/example/round_table/roundtable/engine/OrderList$Entry" "next" "Lcom/example/round_table/roundtable/engine/OrderList$Entry;" (.ref nx) ∧ Fld Z h a "com/example/round_table/roundtable/engine/OrderList$Entry" "label" "J" (.long la) ∧ Fld Z h a "com/example/round_table/roundtable/engine/OrderList$Entry" "previous" "Lcom/example/round_table/roundtable/engine/OrderList$Entry;" .null ∧ Fld Z h a "com/example/round_table/roundtable/engine/OrderList$Entry" "next" "Lcom/example/round_table/roundtable/engine/OrderList$Entry;" .null ∧ Fld Z h nx "com/example/round_table/roundtable/engine/OrderList$Entry" "label" "J" (.long ln) ∧ Fld Z h nx "com/example/round_table/roundtable/engine/OrderList$Entry" "previous" "Lcom/example/round_table/roundtable/engine/OrderList$Entry;" (.ref pv) ∧ Fld Z h nx "com/example/round_table/roundtable/engine/OrderList$Entry" "next" "Lcom/example/round_table/roundtable/engine/OrderList$Entry;" nn
set_option maxRecDepth 65536 in
set_option maxHeartbeats 40000000 in
theorem rm_remN (l : Launch) (Z : State) (a0 : Array Value) (hw : ∀ d ∈ tables_1, d.before a0 Z = true) (ws : List Jvm.Cond) (o : Addr) (a : Addr) (hd pv : Addr) (ls ppv : Value) (bits : Int32) (eg lp la : Int64) (nx : Addr) (ln : Int64) (nn : Value) (h0 : Heap) (n0 : Nat) (Z0 : n0 ≤ h0.size) (E_o : Exa Z h0 o "com/example/round_table/roundtable/engine/OrderList") (g_o : n0 ≤ o) (F_head_o : Fld Z h0 o "com/example/round_table/roundtable/engine/OrderList" "head" "Lcom/example/round_table/roundtable/engine/OrderList$Entry;" (.ref hd)) (F_last_o : Fld Z h0 o "com/example/round_table/roundtable/engine/OrderList" "last" "Lcom/example/round_table/roundtable/engine/OrderList$Entry;" ls) (F_labelBits_o : Fld Z h0 o "com/example/round_table/roundtable/engine/OrderList" "labelBits" "I" (.int bits)) (F_endGap_o : Fld Z h0 o "com/example/round_table/roundtable/engine/OrderList" "endGap" "J" (.long eg)) (E_pv : Exa Z h0 pv "com/example/round_table/roundtable/engine/OrderList$Entry") (g_pv : n0 ≤ pv) (F_label_pv : Fld Z h0 pv "com/example/round_table/roundtable/engine/OrderList$Entry" "label" "J" (.long lp)) (F_previous_pv : Fld Z h0 pv "com/example/round_table/roundtable/engine/OrderList$Entry" "previous" "Lcom/example/round_table/roundtable/engine/OrderList$Entry;" ppv) (F_next_pv : Fld Z h0 pv "com/example/round_table/roundtable/engine/OrderList$Entry" "next" "Lcom/example/round_table/roundtable/engine/OrderList$Entry;" (.ref a)) (E_a : Exa Z h0 a "com/example/round_table/roundtable/engine/OrderList$Entry") (g_a : n0 ≤ a) (F_label_a : Fld Z h0 a "com/example/round_table/roundtable/engine/OrderList$Entry" "label" "J" (.long la)) (F_previous_a : Fld Z h0 a "com/example/round_table/roundtable/engine/OrderList$Entry" "previous" "Lcom/example/round_table/roundtable/engine/OrderList$Entry;" (.ref pv)) (F_next_a : Fld Z h0 a "com/example/round_table/roundtable/engine/OrderList$Entry" "next" "Lcom/example/round_table/roundtable/engine/OrderList$Entry;" (.ref nx)) (ne_o_pv : o ≠ pv) (ne_o_a : o ≠ a) (ne_pv_a : pv ≠ a) (E_nx : Exa Z h0 nx "com/example/round_table/roundtable/engine/OrderList$Entry") (g_nx : n0 ≤ nx) (F_label_nx : Fld Z h0 nx "com/example/round_table/roundtable/engine/OrderList$Entry" "label" "J" (.long ln)) (F_previous_nx : Fld Z h0 nx "com/example/round_table/roundtable/engine/OrderList$Entry" "previous" "Lcom/example/round_table/roundtable/engine/OrderList$Entry;" (.ref a)) (F_next_nx : Fld Z h0 nx "com/example/round_table/roundtable/engine/OrderList$Entry" "next" "Lcom/example/round_table/roundtable/engine/OrderList$Entry;" nn) (ne_o_nx : o ≠ nx) (ne_pv_nx : pv ≠ nx) (ne_a_nx : a ≠ nx)  :
    MetFree l (⟨"com/example/round_table/roundtable/engine/OrderList", "remove", "(Lcom/example/round_table/roundtable/engine/OrderList$Entry;)V"⟩ : MethodName) (head1 (Jvm.Cond.code (⟨"com/example/round_table/roundtable/engine/OrderList", "remove", "(Lcom/example/round_table/roundtable/engine/OrderList$Entry;)V"⟩ : MethodName) prog_60_method_8_code 2 none :: ws) ({ frames := 0, cells := 0, slots := 0, locals := 0 } : Room)) (fun as' U => as' = #[(.ref o), (.ref a)] ∧ Z.Warmed39 U.vm ∧ U.heap = h0) (fun _ _ _ _ _ => True) (fun _ U_ o_ U'_ => ∃ v_ L_, o_ = .returned v_ ∧ Q_remN Z o a hd pv ls ppv bits eg lp la nx ln nn h0 n0 v_ U'_.heap L_ ∧ FrameEnd U_ o_ U'_ L_ ({ frames := 0, cells := 0, slots := 0, locals := 0 } : Room).cells ({ frames := 0, cells := 0, slots := 0, locals := 0 } : Room).slots) := by
  refine MetFree.of_bodySF (plainFor_of_name pn_1) hisR ?_
  intro p e s m args below meth c s₁ Bd hml0 hP hK
  obtain ⟨rfl, hZ, hh⟩ := hP
  have hx := Bd.exec
  have hby := Bd.bytes
  have hml : c.maxLocals = 2 := hml0
  have hown : s.vm.findClass "com/example/round_table/roundtable/engine/OrderList" = some m.cls := findClass_of_methodNamed Bd.named
  have hnm := (name_of_methodNamed Bd.named Bd.method).1
  have X0 : Stand p l e ({ frames := 0, cells := 0, slots := 0, locals := 0 } : Room) s m #[(.ref o), (.ref a)] below meth c s₁ [] 0 0 := Stand.of_body Bd
  have e0 : s₁.heap = h0 := by rw [← hh, Bd.state]; rfl
  have N0 := Fr.nil n0
  refine RunsTo.start (ef_rm_remN m o a) ?_
  show RunsTo p e below s s₁ (mkF m 0 #[.val (.ref o), .val (.ref a)] []) (Q_remN Z o a hd pv ls ppv bits eg lp la nx ln nn h0 n0) ({ frames := 0, cells := 0, slots := 0, locals := 0 } : Room).cells ({ frames := 0, cells := 0, slots := 0, locals := 0 } : Room).slots
  have KP := Keep.refl h0 [o, pv, a, nx]
  refine RunsTo.of (T' := s₁) (g' := (mkF m 1 #[.val (.ref o), .val (.ref a)] [(.ref a)])) (fun tgt_ kt => ?_) ?_
  · refine XS.aloadN X0.here hx rfl (hb hby d8_0) rfl rfl ?_
    show Steps p.tables e below (s₁.setTop (mkF m 1 #[.val (.ref o), .val (.ref a)] [(.ref a)])) _
    exact kt
  obtain ⟨T1, X1, e1, st1⟩ := getFR X0 hx hZ hown (hw _ (List.mem_of_getElem? (i := 44) rfl)) e0 F_previous_a (g := (mkF m 1 #[.val (.ref o), .val (.ref a)] [(.ref a)])) rfl rfl (hb hby d8_1)
  refine RunsTo.of (T' := T1) (g' := (mkF m 4 #[.val (.ref o), .val (.ref a)] [(.ref pv)])) st1 ?_
  refine RunsTo.of (T' := T1) (g' := (mkF m 5 #[.val (.ref o), .val (.ref a)] [(.ref a), (.ref pv)])) (fun tgt_ kt => ?_) ?_
  · refine XS.aloadN X1.here hx rfl (hb hby d8_4) rfl rfl ?_
    show Steps p.tables e below (T1.setTop (mkF m 5 #[.val (.ref o), .val (.ref a)] [(.ref a), (.ref pv)])) _
    exact kt
  obtain ⟨T2, X2, e2, st2⟩ := getFR X1 hx hZ hown (hw _ (List.mem_of_getElem? (i := 42) rfl)) e1 F_next_a (g := (mkF m 5 #[.val (.ref o), .val (.ref a)] [(.ref a), (.ref pv)])) rfl rfl (hb hby d8_5)
  refine RunsTo.of (T' := T2) (g' := (mkF m 8 #[.val (.ref o), .val (.ref a)] [(.ref nx), (.ref pv)])) st2 ?_
  obtain ⟨T3, h3, X3, e3, W3, st3⟩ := putFR X2 hx hZ hown (hw _ (List.mem_of_getElem? (i := 42) rfl)) e2 F_next_pv E_pv (hw _ (List.mem_of_getElem? (i := 43) rfl)) (hw _ (List.mem_of_getElem? (i := 11) rfl)) (ty := (.object "com/example/round_table/roundtable/engine/OrderList$Entry")) (by decide) rfl rfl (g := (mkF m 8 #[.val (.ref o), .val (.ref a)] [(.ref nx), (.ref pv)])) rfl rfl (hb hby d8_8)
  have N3 := Fr.snoc X3 N0 g_pv
  have Z3 : n0 ≤ h3.size := Nat.le_trans Z0 (Nat.le_of_eq W3.size.symm)
  have E_o := E_o.wr W3
  have F_head_o := F_head_o.other W3 (Or.inl ne_o_pv)
  have F_last_o := F_last_o.other W3 (Or.inl ne_o_pv)
  have F_labelBits_o := F_labelBits_o.other W3 (Or.inl ne_o_pv)
  have F_endGap_o := F_endGap_o.other W3 (Or.inl ne_o_pv)
  have E_pv := E_pv.wr W3
  have F_label_pv := F_label_pv.other W3 (Or.inr (slot_ne (Or.inl (hw _ (List.mem_of_getElem? (i := 47) rfl))) (Or.inl (hw _ (List.mem_of_getElem? (i := 43) rfl))) (by decide) (t := .long) (t' := (.object "com/example/round_table/roundtable/engine/OrderList$Entry")) (by decide) (by decide)))
  have F_previous_pv := F_previous_pv.other W3 (Or.inr (slot_ne (Or.inl (hw _ (List.mem_of_getElem? (i := 45) rfl))) (Or.inl (hw _ (List.mem_of_getElem? (i := 43) rfl))) (by decide) (t := (.object "com/example/round_table/roundtable/engine/OrderList$Entry")) (t' := (.object "com/example/round_table/roundtable/engine/OrderList$Entry")) (by decide) (by decide)))
  have F_next_pv := F_next_pv.same W3
  have E_a := E_a.wr W3
  have F_label_a := F_label_a.other W3 (Or.inl (Ne.symm ne_pv_a))
  have F_previous_a := F_previous_a.other W3 (Or.inl (Ne.symm ne_pv_a))
  have F_next_a := F_next_a.other W3 (Or.inl (Ne.symm ne_pv_a))
  have E_nx := E_nx.wr W3
  have F_label_nx := F_label_nx.other W3 (Or.inl (Ne.symm ne_pv_nx))
  have F_previous_nx := F_previous_nx.other W3 (Or.inl (Ne.symm ne_pv_nx))
  have F_next_nx := F_next_nx.other W3 (Or.inl (Ne.symm ne_pv_nx))
  have KP := KP.wr W3 (Or.inl (List.mem_of_getElem? (i := 1) rfl))
  refine RunsTo.of (T' := T3) (g' := (mkF m 11 #[.val (.ref o), .val (.ref a)] [])) st3 ?_
  refine RunsTo.of (T' := T3) (g' := (mkF m 12 #[.val (.ref o), .val (.ref a)] [(.ref a)])) (fun tgt_ kt => ?_) ?_
  · refine XS.aloadN X3.here hx rfl (hb hby d8_11) rfl rfl ?_
    show Steps p.tables e below (T3.setTop (mkF m 12 #[.val (.ref o), .val (.ref a)] [(.ref a)])) _
    exact kt
  obtain ⟨T4, X4, e4, st4⟩ := getFR X3 hx hZ hown (hw _ (List.mem_of_getElem? (i := 42) rfl)) e3 F_next_a (g := (mkF m 12 #[.val (.ref o), .val (.ref a)] [(.ref a)])) rfl rfl (hb hby d8_12)
  refine RunsTo.of (T' := T4) (g' := (mkF m 15 #[.val (.ref o), .val (.ref a)] [(.ref nx)])) st4 ?_
  refine RunsTo.of (T' := T4) (g' := (mkF m 30 #[.val (.ref o), .val (.ref a)] [(.ref a)])) (fun tgt_ kt => ?_) ?_
  · refine XS.ifnonnullYes X4.here hx rfl (pc0 := 15) (pc' := 29) rfl (hb hby d8_15) rfl (by decide) (by decide) ?_
    show Steps p.tables e below (T4.setTop (mkF m 29 #[.val (.ref o), .val (.ref a)] [])) _
    refine XS.aloadN X4.here hx rfl (hb hby d8_29) rfl rfl ?_
    show Steps p.tables e below (T4.setTop (mkF m 30 #[.val (.ref o), .val (.ref a)] [(.ref a)])) _
    exact kt
  obtain ⟨T5, X5, e5, st5⟩ := getFR X4 hx hZ hown (hw _ (List.mem_of_getElem? (i := 42) rfl)) e4 F_next_a (g := (mkF m 30 #[.val (.ref o), .val (.ref a)] [(.ref a)])) rfl rfl (hb hby d8_30)
  refine RunsTo.of (T' := T5) (g' := (mkF m 33 #[.val (.ref o), .val (.ref a)] [(.ref nx)])) st5 ?_
  refine RunsTo.of (T' := T5) (g' := (mkF m 34 #[.val (.ref o), .val (.ref a)] [(.ref a), (.ref nx)])) (fun tgt_ kt => ?_) ?_
  · refine XS.aloadN X5.here hx rfl (hb hby d8_33) rfl rfl ?_
    show Steps p.tables e below (T5.setTop (mkF m 34 #[.val (.ref o), .val (.ref a)] [(.ref a), (.ref nx)])) _
    exact kt
  obtain ⟨T6, X6, e6, st6⟩ := getFR X5 hx hZ hown (hw _ (List.mem_of_getElem? (i := 44) rfl)) e5 F_previous_a (g := (mkF m 34 #[.val (.ref o), .val (.ref a)] [(.ref a), (.ref nx)])) rfl rfl (hb hby d8_34)
  refine RunsTo.of (T' := T6) (g' := (mkF m 37 #[.val (.ref o), .val (.ref a)] [(.ref pv), (.ref nx)])) st6 ?_
  obtain ⟨T7, h7, X7, e7, W7, st7⟩ := putFR X6 hx hZ hown (hw _ (List.mem_of_getElem? (i := 44) rfl)) e6 F_previous_nx E_nx (hw _ (List.mem_of_getElem? (i := 45) rfl)) (hw _ (List.mem_of_getElem? (i := 11) rfl)) (ty := (.object "com/example/round_table/roundtable/engine/OrderList$Entry")) (by decide) rfl rfl (g := (mkF m 37 #[.val (.ref o), .val (.ref a)] [(.ref pv), (.ref nx)])) rfl rfl (hb hby d8_37)
  have N7 := Fr.snoc X7 N3 g_nx
  have Z7 : n0 ≤ h7.size := Nat.le_trans Z3 (Nat.le_of_eq W7.size.symm)
  have E_o := E_o.wr W7
  have F_head_o := F_head_o.other W7 (Or.inl ne_o_nx)
  have F_last_o := F_last_o.other W7 (Or.inl ne_o_nx)
  have F_labelBits_o := F_labelBits_o.other W7 (Or.inl ne_o_nx)
  have F_endGap_o := F_endGap_o.other W7 (Or.inl ne_o_nx)
  have E_pv := E_pv.wr W7
  have F_label_pv := F_label_pv.other W7 (Or.inl ne_pv_nx)
  have F_previous_pv := F_previous_pv.other W7 (Or.inl ne_pv_nx)
  have F_next_pv := F_next_pv.other W7 (Or.inl ne_pv_nx)
  have E_a := E_a.wr W7
  have F_label_a := F_label_a.other W7 (Or.inl ne_a_nx)
  have F_previous_a := F_previous_a.other W7 (Or.inl ne_a_nx)
  have F_next_a := F_next_a.other W7 (Or.inl ne_a_nx)
  have E_nx := E_nx.wr W7
  have F_label_nx := F_label_nx.other W7 (Or.inr (slot_ne (Or.inl (hw _ (List.mem_of_getElem? (i := 47) rfl))) (Or.inl (hw _ (List.mem_of_getElem? (i := 45) rfl))) (by decide) (t := .long) (t' := (.object "com/example/round_table/roundtable/engine/OrderList$Entry")) (by decide) (by decide)))
  have F_previous_nx := F_previous_nx.same W7
  have F_next_nx := F_next_nx.other W7 (Or.inr (slot_ne (Or.inl (hw _ (List.mem_of_getElem? (i := 43) rfl))) (Or.inl (hw _ (List.mem_of_getElem? (i := 45) rfl))) (by decide) (t := (.object "com/example/round_table/roundtable/engine/OrderList$Entry")) (t' := (.object "com/example/round_table/roundtable/engine/OrderList$Entry")) (by decide) (by decide)))
  have KP := KP.wr W7 (Or.inl (List.mem_of_getElem? (i := 3) rfl))
  refine RunsTo.of (T' := T7) (g' := (mkF m 40 #[.val (.ref o), .val (.ref a)] [])) st7 ?_
  refine RunsTo.of (T' := T7) (g' := (mkF m 42 #[.val (.ref o), .val (.ref a)] [.null, (.ref a)])) (fun tgt_ kt => ?_) ?_
  · refine XS.aloadN X7.here hx rfl (hb hby d8_40) rfl rfl ?_
    show Steps p.tables e below (T7.setTop (mkF m 41 #[.val (.ref o), .val (.ref a)] [(.ref a)])) _
    refine XS.aconstNull X7.here hx rfl (hb hby d8_41) ?_
    show Steps p.tables e below (T7.setTop (mkF m 42 #[.val (.ref o), .val (.ref a)] [.null, (.ref a)])) _
    exact kt
  obtain ⟨T8, h8, X8, e8, W8, st8⟩ := putFR X7 hx hZ hown (hw _ (List.mem_of_getElem? (i := 44) rfl)) e7 F_previous_a E_a (hw _ (List.mem_of_getElem? (i := 45) rfl)) (hw _ (List.mem_of_getElem? (i := 11) rfl)) (ty := (.object "com/example/round_table/roundtable/engine/OrderList$Entry")) (by decide) rfl rfl (g := (mkF m 42 #[.val (.ref o), .val (.ref a)] [.null, (.ref a)])) rfl rfl (hb hby d8_42)
  have N8 := Fr.snoc X8 N7 g_a
  have Z8 : n0 ≤ h8.size := Nat.le_trans Z7 (Nat.le_of_eq W8.size.symm)
  have E_o := E_o.wr W8
  have F_head_o := F_head_o.other W8 (Or.inl ne_o_a)
  have F_last_o := F_last_o.other W8 (Or.inl ne_o_a)
  have F_labelBits_o := F_labelBits_o.other W8 (Or.inl ne_o_a)
  have F_endGap_o := F_endGap_o.other W8 (Or.inl ne_o_a)
  have E_pv := E_pv.wr W8
  have F_label_pv := F_label_pv.other W8 (Or.inl ne_pv_a)
  have F_previous_pv := F_previous_pv.other W8 (Or.inl ne_pv_a)
  have F_next_pv := F_next_pv.other W8 (Or.inl ne_pv_a)
  have E_a := E_a.wr W8
  have F_label_a := F_label_a.other W8 (Or.inr (slot_ne (Or.inl (hw _ (List.mem_of_getElem? (i := 47) rfl))) (Or.inl (hw _ (List.mem_of_getElem? (i := 45) rfl))) (by decide) (t := .long) (t' := (.object "com/example/round_table/roundtable/engine/OrderList$Entry")) (by decide) (by decide)))
  have F_previous_a := F_previous_a.same W8
  have F_next_a := F_next_a.other W8 (Or.inr (slot_ne (Or.inl (hw _ (List.mem_of_getElem? (i := 43) rfl))) (Or.inl (hw _ (List.mem_of_getElem? (i := 45) rfl))) (by decide) (t := (.object "com/example/round_table/roundtable/engine/OrderList$Entry")) (t' := (.object "com/example/round_table/roundtable/engine/OrderList$Entry")) (by decide) (by decide)))
  have E_nx := E_nx.wr W8
  have F_label_nx := F_label_nx.other W8 (Or.inl (Ne.symm ne_a_nx))
  have F_previous_nx := F_previous_nx.other W8 (Or.inl (Ne.symm ne_a_nx))
  have F_next_nx := F_next_nx.other W8 (Or.inl (Ne.symm ne_a_nx))
  have KP := KP.wr W8 (Or.inl (List.mem_of_getElem? (i := 2) rfl))
  refine RunsTo.of (T' := T8) (g' := (mkF m 45 #[.val (.ref o), .val (.ref a)] [])) st8 ?_
  refine RunsTo.of (T' := T8) (g' := (mkF m 47 #[.val (.ref o), .val (.ref a)] [.null, (.ref a)])) (fun tgt_ kt => ?_) ?_
  · refine XS.aloadN X8.here hx rfl (hb hby d8_45) rfl rfl ?_
    show Steps p.tables e below (T8.setTop (mkF m 46 #[.val (.ref o), .val (.ref a)] [(.ref a)])) _
    refine XS.aconstNull X8.here hx rfl (hb hby d8_46) ?_
    show Steps p.tables e below (T8.setTop (mkF m 47 #[.val (.ref o), .val (.ref a)] [.null, (.ref a)])) _
    exact kt
  obtain ⟨T9, h9, X9, e9, W9, st9⟩ := putFR X8 hx hZ hown (hw _ (List.mem_of_getElem? (i := 42) rfl)) e8 F_next_a E_a (hw _ (List.mem_of_getElem? (i := 43) rfl)) (hw _ (List.mem_of_getElem? (i := 11) rfl)) (ty := (.object "com/example/round_table/roundtable/engine/OrderList$Entry")) (by decide) rfl rfl (g := (mkF m 47 #[.val (.ref o), .val (.ref a)] [.null, (.ref a)])) rfl rfl (hb hby d8_47)
  have N9 := Fr.snoc X9 N8 g_a
  have Z9 : n0 ≤ h9.size := Nat.le_trans Z8 (Nat.le_of_eq W9.size.symm)
  have E_o := E_o.wr W9
  have F_head_o := F_head_o.other W9 (Or.inl ne_o_a)
  have F_last_o := F_last_o.other W9 (Or.inl ne_o_a)
  have F_labelBits_o := F_labelBits_o.other W9 (Or.inl ne_o_a)
  have F_endGap_o := F_endGap_o.other W9 (Or.inl ne_o_a)
  have E_pv := E_pv.wr W9
  have F_label_pv := F_label_pv.other W9 (Or.inl ne_pv_a)
  have F_previous_pv := F_previous_pv.other W9 (Or.inl ne_pv_a)
  have F_next_pv := F_next_pv.other W9 (Or.inl ne_pv_a)
  have E_a := E_a.wr W9
  have F_label_a := F_label_a.other W9 (Or.inr (slot_ne (Or.inl (hw _ (List.mem_of_getElem? (i := 47) rfl))) (Or.inl (hw _ (List.mem_of_getElem? (i := 43) rfl))) (by decide) (t := .long) (t' := (.object "com/example/round_table/roundtable/engine/OrderList$Entry")) (by decide) (by decide)))
  have F_previous_a := F_previous_a.other W9 (Or.inr (slot_ne (Or.inl (hw _ (List.mem_of_getElem? (i := 45) rfl))) (Or.inl (hw _ (List.mem_of_getElem? (i := 43) rfl))) (by decide) (t := (.object "com/example/round_table/roundtable/engine/OrderList$Entry")) (t' := (.object "com/example/round_table/roundtable/engine/OrderList$Entry")) (by decide) (by decide)))
  have F_next_a := F_next_a.same W9
  have E_nx := E_nx.wr W9
  have F_label_nx := F_label_nx.other W9 (Or.inl (Ne.symm ne_a_nx))
  have F_previous_nx := F_previous_nx.other W9 (Or.inl (Ne.symm ne_a_nx))
  have F_next_nx := F_next_nx.other W9 (Or.inl (Ne.symm ne_a_nx))
  have KP := KP.wr W9 (Or.inl (List.mem_of_getElem? (i := 2) rfl))
  refine RunsTo.of (T' := T9) (g' := (mkF m 50 #[.val (.ref o), .val (.ref a)] [])) st9 ?_
  refine RunsTo.retV X9 hx Bd.returns Bd.notSynchronized (hb hby d8_50) ?_ (by decide) (by decide)
  rw [e9]
  exact ⟨rfl, N9, KP, F_head_o, F_last_o, F_labelBits_o, F_endGap_o, F_label_pv, F_previous_pv, F_next_pv, F_label_a, F_previous_a, F_next_a, F_label_nx, F_previous_nx, F_next_nx⟩
theorem pd_4 : parseMethodDescriptor "(I)V" = some ⟨[.int], none⟩ := by decide +kernel
theorem pd_5 : parseMethodDescriptor "(Lcom/example/round_table/roundtable/engine/OrderList$Entry;)V" = some ⟨[(.object "com/example/round_table/roundtable/engine/OrderList$Entry")], none⟩ := by decide +kernel
theorem pd_6 : parseMethodDescriptor "(Lcom/example/round_table/roundtable/engine/OrderList$Entry;)Lcom/example/round_table/roundtable/engine/OrderList$Entry;" = some ⟨[(.object "com/example/round_table/roundtable/engine/OrderList$Entry")], some (.object "com/example/round_table/roundtable/engine/OrderList$Entry")⟩ := by decide +kernel
theorem pn_2 : plainName "com/example/round_table/roundtable/engine/OrderListRemovePinLaw" = true := by first | (simp [plainName, overriddenIn]; done) | decide +kernel
theorem ef_rm0 (m : MethodId) (x0 : Int32) (x1 : Int32) (x2 : Int32) : entryFrame m #[(.int x0), (.int x1), (.int x2)] maxLocals = mkF m 0 #[.val (.int x0), .val (.int x1), .val (.int x2), .unset, .unset, .unset, .unset, .unset, .unset, .unset, .unset, .unset, .unset, .unset, .unset, .unset] [] := by first | (simp [entryFrame, mkF, argsToLocals, Value.category, maxLocals]; done) | rfl
def Q0 (Z : State) (x0 : Int32) (x1 : Int32) (x2 : Int32) (h0 : Heap) (n0 : Nat) (v : Option Value) (h : Heap) (L : List Loc) : Prop := v = some (.int 1) ∧ Fr n0 L
set_option maxRecDepth 65536 in
set_option maxHeartbeats 40000000 in
theorem rm0 (l : Launch) (Z : State) (a0 : Array Value) (hw : ∀ d ∈ tables_1, d.before a0 Z = true) (ws : List Jvm.Cond) (x0 : Int32) (x1 : Int32) (x2 : Int32) (h0 : Heap) (n0 : Nat) (Z0 : n0 ≤ h0.size)  :
    MetFree l x (head1 (Jvm.Cond.code x code maxLocals ret :: ws) room_1) (fun as' U => as' = #[(.int x0), (.int x1), (.int x2)] ∧ Z.Warmed39 U.vm ∧ U.heap = h0) (fun _ _ _ _ _ => True) (fun _ U_ o_ U'_ => ∃ v_ L_, o_ = .returned v_ ∧ Q0 Z x0 x1 x2 h0 n0 v_ U'_.heap L_ ∧ FrameEnd U_ o_ U'_ L_ room_1.cells room_1.slots) := by
  refine MetFree.of_bodySF (plainFor_of_name pn_2) hisR ?_
  intro p e s m args below meth c s₁ Bd hml0 hP hK
  obtain ⟨rfl, hZ, hh⟩ := hP
  have hx := Bd.exec
  have hby := Bd.bytes
  have hml : c.maxLocals = 16 := hml0
  have hown : s.vm.findClass "com/example/round_table/roundtable/engine/OrderListRemovePinLaw" = some m.cls := findClass_of_methodNamed Bd.named
  have hnm := (name_of_methodNamed Bd.named Bd.method).1
  have X0 : Stand p l e room_1 s m #[(.int x0), (.int x1), (.int x2)] below meth c s₁ [] 0 0 := Stand.of_body Bd
  have e0 : s₁.heap = h0 := by rw [← hh, Bd.state]; rfl
  have N0 := Fr.nil n0
  refine RunsTo.start (ef_rm0 m x0 x1 x2) ?_
  show RunsTo p e below s s₁ (mkF m 0 #[.val (.int x0), .val (.int x1), .val (.int x2), .unset, .unset, .unset, .unset, .unset, .unset, .unset, .unset, .unset, .unset, .unset, .unset, .unset] []) (Q0 Z x0 x1 x2 h0 n0) room_1.cells room_1.slots
  refine RunsTo.of (T' := s₁) (g' := (mkF m 10 #[.val (.int x0), .val (.int x1), .val (.int x2), .val (.int ((3 : Int32) + ((x1 &&& (2147483647 : Int32)) % (60 : Int32)))), .unset, .unset, .unset, .unset, .unset, .unset, .unset, .unset, .unset, .unset, .unset, .unset] [])) (fun tgt_ kt => ?_) ?_
  · refine XS.iconst X0.here hx rfl (hb hby at_0) ?_
    show Steps p.tables e below (s₁.setTop (mkF m 1 #[.val (.int x0), .val (.int x1), .val (.int x2), .unset, .unset, .unset, .unset, .unset, .unset, .unset, .unset, .unset, .unset, .unset, .unset, .unset] [(.int (3 : Int32))])) _
    refine XS.iloadN X0.here hx rfl (hb hby at_1) rfl ?_
    show Steps p.tables e below (s₁.setTop (mkF m 2 #[.val (.int x0), .val (.int x1), .val (.int x2), .unset, .unset, .unset, .unset, .unset, .unset, .unset, .unset, .unset, .unset, .unset, .unset, .unset] [(.int x1), (.int (3 : Int32))])) _
    refine X0.ldcInt hx hown (mvT hZ (hw _ (List.mem_of_getElem? (i := 0) rfl))) (g := (mkF m 2 #[.val (.int x0), .val (.int x1), .val (.int x2), .unset, .unset, .unset, .unset, .unset, .unset, .unset, .unset, .unset, .unset, .unset, .unset, .unset] [(.int x1), (.int (3 : Int32))])) rfl (hb hby at_2) _ ?_
    show Steps p.tables e below (s₁.setTop (mkF m 4 #[.val (.int x0), .val (.int x1), .val (.int x2), .unset, .unset, .unset, .unset, .unset, .unset, .unset, .unset, .unset, .unset, .unset, .unset, .unset] [(.int (2147483647 : Int32)), (.int x1), (.int (3 : Int32))])) _
    refine XS.iand X0.here hx rfl (hb hby at_4) rfl ?_
    show Steps p.tables e below (s₁.setTop (mkF m 5 #[.val (.int x0), .val (.int x1), .val (.int x2), .unset, .unset, .unset, .unset, .unset, .unset, .unset, .unset, .unset, .unset, .unset, .unset, .unset] [(.int (x1 &&& (2147483647 : Int32))), (.int (3 : Int32))])) _
    refine XS.bipush X0.here hx rfl (hb hby at_5) ?_
    show Steps p.tables e below (s₁.setTop (mkF m 7 #[.val (.int x0), .val (.int x1), .val (.int x2), .unset, .unset, .unset, .unset, .unset, .unset, .unset, .unset, .unset, .unset, .unset, .unset, .unset] [(.int (60 : Int32)), (.int (x1 &&& (2147483647 : Int32))), (.int (3 : Int32))])) _
    refine XS.irem X0.here hx rfl (hb hby at_7) rfl (by decide) ?_
    rw [irem_eq_mod]
    show Steps p.tables e below (s₁.setTop (mkF m 8 #[.val (.int x0), .val (.int x1), .val (.int x2), .unset, .unset, .unset, .unset, .unset, .unset, .unset, .unset, .unset, .unset, .unset, .unset, .unset] [(.int ((x1 &&& (2147483647 : Int32)) % (60 : Int32))), (.int (3 : Int32))])) _
    refine XS.iadd X0.here hx rfl (hb hby at_8) rfl ?_
    show Steps p.tables e below (s₁.setTop (mkF m 9 #[.val (.int x0), .val (.int x1), .val (.int x2), .unset, .unset, .unset, .unset, .unset, .unset, .unset, .unset, .unset, .unset, .unset, .unset, .unset] [(.int ((3 : Int32) + ((x1 &&& (2147483647 : Int32)) % (60 : Int32))))])) _
    refine XS.istoreN X0.here hx rfl (hb hby at_9) rfl (l' := #[.val (.int x0), .val (.int x1), .val (.int x2), .val (.int ((3 : Int32) + ((x1 &&& (2147483647 : Int32)) % (60 : Int32)))), .unset, .unset, .unset, .unset, .unset, .unset, .unset, .unset, .unset, .unset, .unset, .unset]) rfl ?_
    show Steps p.tables e below (s₁.setTop (mkF m 10 #[.val (.int x0), .val (.int x1), .val (.int x2), .val (.int ((3 : Int32) + ((x1 &&& (2147483647 : Int32)) % (60 : Int32)))), .unset, .unset, .unset, .unset, .unset, .unset, .unset, .unset, .unset, .unset, .unset, .unset] [])) _
    exact kt
  obtain ⟨bits, hbits⟩ : ∃ z : Int32, z = ((3 : Int32) + ((x1 &&& (2147483647 : Int32)) % (60 : Int32))) := ⟨_, rfl⟩
  rw [← hbits]
  refine RunsTo.of (T' := s₁) (g' := (mkF m 20 #[.val (.int x0), .val (.int x1), .val (.int x2), .val (.int bits), .val (.int ((1 : Int32) + ((x0 &&& (2147483647 : Int32)) % (3 : Int32)))), .unset, .unset, .unset, .unset, .unset, .unset, .unset, .unset, .unset, .unset, .unset] [])) (fun tgt_ kt => ?_) ?_
  · refine XS.iconst X0.here hx rfl (hb hby at_10) ?_
    show Steps p.tables e below (s₁.setTop (mkF m 11 #[.val (.int x0), .val (.int x1), .val (.int x2), .val (.int bits), .unset, .unset, .unset, .unset, .unset, .unset, .unset, .unset, .unset, .unset, .unset, .unset] [(.int (1 : Int32))])) _
    refine XS.iloadN X0.here hx rfl (hb hby at_11) rfl ?_
    show Steps p.tables e below (s₁.setTop (mkF m 12 #[.val (.int x0), .val (.int x1), .val (.int x2), .val (.int bits), .unset, .unset, .unset, .unset, .unset, .unset, .unset, .unset, .unset, .unset, .unset, .unset] [(.int x0), (.int (1 : Int32))])) _
    refine X0.ldcInt hx hown (mvT hZ (hw _ (List.mem_of_getElem? (i := 0) rfl))) (g := (mkF m 12 #[.val (.int x0), .val (.int x1), .val (.int x2), .val (.int bits), .unset, .unset, .unset, .unset, .unset, .unset, .unset, .unset, .unset, .unset, .unset, .unset] [(.int x0), (.int (1 : Int32))])) rfl (hb hby at_12) _ ?_
    show Steps p.tables e below (s₁.setTop (mkF m 14 #[.val (.int x0), .val (.int x1), .val (.int x2), .val (.int bits), .unset, .unset, .unset, .unset, .unset, .unset, .unset, .unset, .unset, .unset, .unset, .unset] [(.int (2147483647 : Int32)), (.int x0), (.int (1 : Int32))])) _
    refine XS.iand X0.here hx rfl (hb hby at_14) rfl ?_
    show Steps p.tables e below (s₁.setTop (mkF m 15 #[.val (.int x0), .val (.int x1), .val (.int x2), .val (.int bits), .unset, .unset, .unset, .unset, .unset, .unset, .unset, .unset, .unset, .unset, .unset, .unset] [(.int (x0 &&& (2147483647 : Int32))), (.int (1 : Int32))])) _
    refine XS.iconst X0.here hx rfl (hb hby at_15) ?_
    show Steps p.tables e below (s₁.setTop (mkF m 16 #[.val (.int x0), .val (.int x1), .val (.int x2), .val (.int bits), .unset, .unset, .unset, .unset, .unset, .unset, .unset, .unset, .unset, .unset, .unset, .unset] [(.int (3 : Int32)), (.int (x0 &&& (2147483647 : Int32))), (.int (1 : Int32))])) _
    refine XS.irem X0.here hx rfl (hb hby at_16) rfl (by decide) ?_
    rw [irem_eq_mod]
    show Steps p.tables e below (s₁.setTop (mkF m 17 #[.val (.int x0), .val (.int x1), .val (.int x2), .val (.int bits), .unset, .unset, .unset, .unset, .unset, .unset, .unset, .unset, .unset, .unset, .unset, .unset] [(.int ((x0 &&& (2147483647 : Int32)) % (3 : Int32))), (.int (1 : Int32))])) _
    refine XS.iadd X0.here hx rfl (hb hby at_17) rfl ?_
    show Steps p.tables e below (s₁.setTop (mkF m 18 #[.val (.int x0), .val (.int x1), .val (.int x2), .val (.int bits), .unset, .unset, .unset, .unset, .unset, .unset, .unset, .unset, .unset, .unset, .unset, .unset] [(.int ((1 : Int32) + ((x0 &&& (2147483647 : Int32)) % (3 : Int32))))])) _
    refine XS.istore X0.here hx rfl (hb hby at_18) rfl (l' := #[.val (.int x0), .val (.int x1), .val (.int x2), .val (.int bits), .val (.int ((1 : Int32) + ((x0 &&& (2147483647 : Int32)) % (3 : Int32)))), .unset, .unset, .unset, .unset, .unset, .unset, .unset, .unset, .unset, .unset, .unset]) rfl ?_
    show Steps p.tables e below (s₁.setTop (mkF m 20 #[.val (.int x0), .val (.int x1), .val (.int x2), .val (.int bits), .val (.int ((1 : Int32) + ((x0 &&& (2147483647 : Int32)) % (3 : Int32)))), .unset, .unset, .unset, .unset, .unset, .unset, .unset, .unset, .unset, .unset, .unset] [])) _
    exact kt
  obtain ⟨nn, hnn⟩ : ∃ z : Int32, z = ((1 : Int32) + ((x0 &&& (2147483647 : Int32)) % (3 : Int32))) := ⟨_, rfl⟩
  rw [← hnn]
  have hbits : 3 ≤ bits.toInt ∧ bits.toInt ≤ 62 := by rw [hbits]; exact own_sixty x1
  have hn3 : nn = 1 ∨ nn = 2 ∨ nn = 3 := by rw [hnn]; exact own_n3 x0
  clear hnn
  obtain ⟨RR, hRR⟩ : ∃ z : Int64, z = (1 : Int64) <<< (bits &&& 0x3f).toInt64 := ⟨_, rfl⟩
  obtain ⟨eg, heg'⟩ : ∃ z : Int64, z = (1 : Int64) <<< ((bits / 2) &&& 0x3f).toInt64 := ⟨_, rfl⟩
  have hnum := own_bits bits hbits
  rw [← hRR, ← heg'] at hnum
  obtain ⟨hR8, hR, heg⟩ := hnum
  have z0 : (0 : Int64).toInt = 0 := rfl
  rcases hn3 with rfl | rfl | rfl
  · refine RunsTo.of (T' := s₁) (g' := (mkF m 29 #[.val (.int x0), .val (.int x1), .val (.int x2), .val (.int bits), .val (.int (1 : Int32)), .val (.int ((x2 &&& (2147483647 : Int32)) % (1 : Int32))), .unset, .unset, .unset, .unset, .unset, .unset, .unset, .unset, .unset, .unset] [])) (fun tgt_ kt => ?_) ?_
    · refine XS.iloadN X0.here hx rfl (hb hby at_20) rfl ?_
      show Steps p.tables e below (s₁.setTop (mkF m 21 #[.val (.int x0), .val (.int x1), .val (.int x2), .val (.int bits), .val (.int (1 : Int32)), .unset, .unset, .unset, .unset, .unset, .unset, .unset, .unset, .unset, .unset, .unset] [(.int x2)])) _
      refine X0.ldcInt hx hown (mvT hZ (hw _ (List.mem_of_getElem? (i := 0) rfl))) (g := (mkF m 21 #[.val (.int x0), .val (.int x1), .val (.int x2), .val (.int bits), .val (.int (1 : Int32)), .unset, .unset, .unset, .unset, .unset, .unset, .unset, .unset, .unset, .unset, .unset] [(.int x2)])) rfl (hb hby at_21) _ ?_
      show Steps p.tables e below (s₁.setTop (mkF m 23 #[.val (.int x0), .val (.int x1), .val (.int x2), .val (.int bits), .val (.int (1 : Int32)), .unset, .unset, .unset, .unset, .unset, .unset, .unset, .unset, .unset, .unset, .unset] [(.int (2147483647 : Int32)), (.int x2)])) _
      refine XS.iand X0.here hx rfl (hb hby at_23) rfl ?_
      show Steps p.tables e below (s₁.setTop (mkF m 24 #[.val (.int x0), .val (.int x1), .val (.int x2), .val (.int bits), .val (.int (1 : Int32)), .unset, .unset, .unset, .unset, .unset, .unset, .unset, .unset, .unset, .unset, .unset] [(.int (x2 &&& (2147483647 : Int32)))])) _
      refine XS.iload X0.here hx rfl (hb hby at_24) rfl ?_
      show Steps p.tables e below (s₁.setTop (mkF m 26 #[.val (.int x0), .val (.int x1), .val (.int x2), .val (.int bits), .val (.int (1 : Int32)), .unset, .unset, .unset, .unset, .unset, .unset, .unset, .unset, .unset, .unset, .unset] [(.int (1 : Int32)), (.int (x2 &&& (2147483647 : Int32)))])) _
      refine XS.irem X0.here hx rfl (hb hby at_26) rfl (by decide) ?_
      rw [irem_eq_mod]
      show Steps p.tables e below (s₁.setTop (mkF m 27 #[.val (.int x0), .val (.int x1), .val (.int x2), .val (.int bits), .val (.int (1 : Int32)), .unset, .unset, .unset, .unset, .unset, .unset, .unset, .unset, .unset, .unset, .unset] [(.int ((x2 &&& (2147483647 : Int32)) % (1 : Int32)))])) _
      refine XS.istore X0.here hx rfl (hb hby at_27) rfl (l' := #[.val (.int x0), .val (.int x1), .val (.int x2), .val (.int bits), .val (.int (1 : Int32)), .val (.int ((x2 &&& (2147483647 : Int32)) % (1 : Int32))), .unset, .unset, .unset, .unset, .unset, .unset, .unset, .unset, .unset, .unset]) rfl ?_
      show Steps p.tables e below (s₁.setTop (mkF m 29 #[.val (.int x0), .val (.int x1), .val (.int x2), .val (.int bits), .val (.int (1 : Int32)), .val (.int ((x2 &&& (2147483647 : Int32)) % (1 : Int32))), .unset, .unset, .unset, .unset, .unset, .unset, .unset, .unset, .unset, .unset] [])) _
      exact kt
    rw [own_k1 x2]
    obtain ⟨T1, h1, X1, e1, E1, A1, D1, -, st1⟩ := newO X0 hx hZ hown (hw _ (List.mem_of_getElem? (i := 1) rfl)) (hw _ (List.mem_of_getElem? (i := 2) rfl)) (hw _ (List.mem_of_getElem? (i := 3) rfl)) e0 (g := (mkF m 29 #[.val (.int x0), .val (.int x1), .val (.int x2), .val (.int bits), .val (.int (1 : Int32)), .val (.int (0 : Int32)), .unset, .unset, .unset, .unset, .unset, .unset, .unset, .unset, .unset, .unset] [])) rfl (hb hby at_29) (by decide) (by decide)
    obtain ⟨o, g1⟩ : ∃ z, z = h0.size := ⟨_, rfl⟩
    rw [← g1] at A1 D1 st1
    have Z1 : n0 ≤ h1.size := Nat.le_trans Z0 E1.1
    have g_o : n0 ≤ o := Nat.le_trans Z0 (Nat.le_of_eq g1.symm)
    have F_head_o : Fld Z h1 o "com/example/round_table/roundtable/engine/OrderList" "head" "Lcom/example/round_table/roundtable/engine/OrderList$Entry;" .null := D1 (Or.inr (hw _ (List.mem_of_getElem? (i := 18) rfl))) (ty := (.object "com/example/round_table/roundtable/engine/OrderList$Entry")) (by decide)
    have F_last_o : Fld Z h1 o "com/example/round_table/roundtable/engine/OrderList" "last" "Lcom/example/round_table/roundtable/engine/OrderList$Entry;" .null := D1 (Or.inl (hw _ (List.mem_of_getElem? (i := 20) rfl))) (ty := (.object "com/example/round_table/roundtable/engine/OrderList$Entry")) (by decide)
    have F_labelBits_o : Fld Z h1 o "com/example/round_table/roundtable/engine/OrderList" "labelBits" "I" (.int (0 : Int32)) := D1 (Or.inr (hw _ (List.mem_of_getElem? (i := 22) rfl))) (ty := .int) (by decide)
    have F_endGap_o : Fld Z h1 o "com/example/round_table/roundtable/engine/OrderList" "endGap" "J" (.long (0 : Int64)) := D1 (Or.inr (hw _ (List.mem_of_getElem? (i := 24) rfl))) (ty := .long) (by decide)
    have E_o : Exa Z h1 o "com/example/round_table/roundtable/engine/OrderList" := A1
    refine RunsTo.of (T' := T1) (g' := (mkF m 32 #[.val (.int x0), .val (.int x1), .val (.int x2), .val (.int bits), .val (.int (1 : Int32)), .val (.int (0 : Int32)), .unset, .unset, .unset, .unset, .unset, .unset, .unset, .unset, .unset, .unset] [(.ref o)])) st1 ?_
    have lt_o := E_o.lt
    refine RunsTo.of (T' := T1) (g' := (mkF m 34 #[.val (.int x0), .val (.int x1), .val (.int x2), .val (.int bits), .val (.int (1 : Int32)), .val (.int (0 : Int32)), .unset, .unset, .unset, .unset, .unset, .unset, .unset, .unset, .unset, .unset] [(.int bits), (.ref o), (.ref o)])) (fun tgt_ kt => ?_) ?_
    · refine XS.dup X1.here hx rfl (hb hby at_32) rfl rfl ?_
      show Steps p.tables e below (T1.setTop (mkF m 33 #[.val (.int x0), .val (.int x1), .val (.int x2), .val (.int bits), .val (.int (1 : Int32)), .val (.int (0 : Int32)), .unset, .unset, .unset, .unset, .unset, .unset, .unset, .unset, .unset, .unset] [(.ref o), (.ref o)])) _
      refine XS.iloadN X1.here hx rfl (hb hby at_33) rfl ?_
      show Steps p.tables e below (T1.setTop (mkF m 34 #[.val (.int x0), .val (.int x1), .val (.int x2), .val (.int bits), .val (.int (1 : Int32)), .val (.int (0 : Int32)), .unset, .unset, .unset, .unset, .unset, .unset, .unset, .unset, .unset, .unset] [(.int bits), (.ref o), (.ref o)])) _
      exact kt
    obtain ⟨_, _, ⟨T2, L2, k2, n2⟩, -, X2, ⟨Lc2, hQ2, l2, y2, z2⟩, st2⟩ := X1.specialBack hx (y := (⟨"com/example/round_table/roundtable/engine/OrderList", "<init>", "(I)V"⟩ : MethodName)) rfl hown (mvT hZ (hw _ (List.mem_of_getElem? (i := 4) rfl))) (mvT hZ (hw _ (List.mem_of_getElem? (i := 5) rfl))) (mvT hZ (hw _ (List.mem_of_getElem? (i := 6) rfl))) (by decide) (backOf (W := 1) (rm1 l Z a0 hw [] o bits h1 n0 Z1 E_o g_o F_head_o F_last_o F_labelBits_o F_endGap_o hbits) hZ (hw _ (List.mem_of_getElem? (i := 6) rfl)) (hw _ (List.mem_of_getElem? (i := 3) rfl)) (by decide) (by decide)) (g := (mkF m 34 #[.val (.int x0), .val (.int x1), .val (.int x2), .val (.int bits), .val (.int (1 : Int32)), .val (.int (0 : Int32)), .unset, .unset, .unset, .unset, .unset, .unset, .unset, .unset, .unset, .unset] [(.int bits), (.ref o), (.ref o)])) rfl (by rw [hml]; rfl) (Steps.refl _) (a := o) (argsL := [(.int bits)]) (rest := [(.ref o)]) (lenOf pd_4 rfl) rfl (by show 2 * 0 + _ ≤ _; exact Nat.le_of_eq rfl) (hb hby at_34) (fun _ _ => ⟨rfl, e1, (by decide : 1 + 1 ≤ _), (by decide : 4 + 3 ≤ _)⟩)
    dsimp only [Pt.U, Pt.locs, Pt.cells, Pt.slots] at X2 l2 y2 z2 st2 hQ2
    subst l2 y2 z2
    obtain ⟨hd, rfl, N2q, g_hd, sz_hd, K2, F_head_o, F_last_o, F_labelBits_o, F_endGap_o, E_hd, F_label_hd, F_previous_hd, F_next_hd⟩ := hQ2
    have N2 := Fr.app N0 N2q
    have Z2 : n0 ≤ T2.heap.size := Nat.le_trans Z1 K2.1
    have E_o := E_o.keep K2
    rw [← heg'] at F_endGap_o
    have ne_o_hd : o ≠ hd := Nat.ne_of_lt (Nat.lt_of_lt_of_le lt_o sz_hd)
    refine RunsTo.of (T' := T2) (g' := (mkF m 37 #[.val (.int x0), .val (.int x1), .val (.int x2), .val (.int bits), .val (.int (1 : Int32)), .val (.int (0 : Int32)), .unset, .unset, .unset, .unset, .unset, .unset, .unset, .unset, .unset, .unset] [(.ref o)])) (fun _ kt => st2.trans kt) ?_
    refine RunsTo.of (T' := T2) (g' := (mkF m 39 #[.val (.int x0), .val (.int x1), .val (.int x2), .val (.int bits), .val (.int (1 : Int32)), .val (.int (0 : Int32)), .val (.ref o), .unset, .unset, .unset, .unset, .unset, .unset, .unset, .unset, .unset] [])) (fun tgt_ kt => ?_) ?_
    · refine XS.astore X2.here hx rfl (hb hby at_37) rfl rfl (l' := #[.val (.int x0), .val (.int x1), .val (.int x2), .val (.int bits), .val (.int (1 : Int32)), .val (.int (0 : Int32)), .val (.ref o), .unset, .unset, .unset, .unset, .unset, .unset, .unset, .unset, .unset]) rfl ?_
      show Steps p.tables e below (T2.setTop (mkF m 39 #[.val (.int x0), .val (.int x1), .val (.int x2), .val (.int bits), .val (.int (1 : Int32)), .val (.int (0 : Int32)), .val (.ref o), .unset, .unset, .unset, .unset, .unset, .unset, .unset, .unset, .unset] [])) _
      exact kt
    obtain ⟨T3, h3, X3, e3, E3, A3, D3, -, st3⟩ := newO X2 hx hZ hown (hw _ (List.mem_of_getElem? (i := 25) rfl)) (hw _ (List.mem_of_getElem? (i := 11) rfl)) (hw _ (List.mem_of_getElem? (i := 12) rfl)) rfl (g := (mkF m 39 #[.val (.int x0), .val (.int x1), .val (.int x2), .val (.int bits), .val (.int (1 : Int32)), .val (.int (0 : Int32)), .val (.ref o), .unset, .unset, .unset, .unset, .unset, .unset, .unset, .unset, .unset] [])) rfl (hb hby at_39) (by decide) (by decide)
    obtain ⟨en0, g3⟩ : ∃ z, z = T2.heap.size := ⟨_, rfl⟩
    rw [← g3] at A3 D3 st3
    have Z3 : n0 ≤ h3.size := Nat.le_trans Z2 E3.1
    have g_en0 : n0 ≤ en0 := Nat.le_trans Z2 (Nat.le_of_eq g3.symm)
    have ne_o_en0 : o ≠ en0 := Nat.ne_of_lt (Nat.lt_of_lt_of_le E_o.lt (Nat.le_of_eq g3.symm))
    have ne_hd_en0 : hd ≠ en0 := Nat.ne_of_lt (Nat.lt_of_lt_of_le F_label_hd.lt (Nat.le_of_eq g3.symm))
    have E_o := E_o.ext E3
    have F_head_o := F_head_o.ext E3
    have F_last_o := F_last_o.ext E3
    have F_labelBits_o := F_labelBits_o.ext E3
    have F_endGap_o := F_endGap_o.ext E3
    have F_label_hd := F_label_hd.ext E3
    have F_previous_hd := F_previous_hd.ext E3
    have F_next_hd := F_next_hd.ext E3
    have E_hd := E_hd.ext E3
    have F_next_en0 : Fld Z h3 en0 "com/example/round_table/roundtable/engine/OrderList$Entry" "next" "Lcom/example/round_table/roundtable/engine/OrderList$Entry;" .null := D3 (Or.inl (hw _ (List.mem_of_getElem? (i := 43) rfl))) (ty := (.object "com/example/round_table/roundtable/engine/OrderList$Entry")) (by decide)
    have F_previous_en0 : Fld Z h3 en0 "com/example/round_table/roundtable/engine/OrderList$Entry" "previous" "Lcom/example/round_table/roundtable/engine/OrderList$Entry;" .null := D3 (Or.inl (hw _ (List.mem_of_getElem? (i := 45) rfl))) (ty := (.object "com/example/round_table/roundtable/engine/OrderList$Entry")) (by decide)
    have F_label_en0 : Fld Z h3 en0 "com/example/round_table/roundtable/engine/OrderList$Entry" "label" "J" (.long (0 : Int64)) := D3 (Or.inl (hw _ (List.mem_of_getElem? (i := 47) rfl))) (ty := .long) (by decide)
    have E_en0 : Exa Z h3 en0 "com/example/round_table/roundtable/engine/OrderList$Entry" := A3
    refine RunsTo.of (T' := T3) (g' := (mkF m 42 #[.val (.int x0), .val (.int x1), .val (.int x2), .val (.int bits), .val (.int (1 : Int32)), .val (.int (0 : Int32)), .val (.ref o), .unset, .unset, .unset, .unset, .unset, .unset, .unset, .unset, .unset] [(.ref en0)])) st3 ?_
    refine RunsTo.of (T' := T3) (g' := (mkF m 43 #[.val (.int x0), .val (.int x1), .val (.int x2), .val (.int bits), .val (.int (1 : Int32)), .val (.int (0 : Int32)), .val (.ref o), .unset, .unset, .unset, .unset, .unset, .unset, .unset, .unset, .unset] [(.ref en0), (.ref en0)])) (fun tgt_ kt => ?_) ?_
    · refine XS.dup X3.here hx rfl (hb hby at_42) rfl rfl ?_
      show Steps p.tables e below (T3.setTop (mkF m 43 #[.val (.int x0), .val (.int x1), .val (.int x2), .val (.int bits), .val (.int (1 : Int32)), .val (.int (0 : Int32)), .val (.ref o), .unset, .unset, .unset, .unset, .unset, .unset, .unset, .unset, .unset] [(.ref en0), (.ref en0)])) _
      exact kt
    obtain ⟨_, _, ⟨T4, L4, k4, n4⟩, -, X4, ⟨Lc4, hQ4, l4, y4, z4⟩, st4⟩ := X3.specialBack hx (y := (⟨"com/example/round_table/roundtable/engine/OrderList$Entry", "<init>", "()V"⟩ : MethodName)) rfl hown (mvT hZ (hw _ (List.mem_of_getElem? (i := 26) rfl))) (mvT hZ (hw _ (List.mem_of_getElem? (i := 14) rfl))) (mvT hZ (hw _ (List.mem_of_getElem? (i := 15) rfl))) (by decide) (backOf (W := 1) (rm3 l Z a0 hw [] en0 h3 n0 Z3 ) hZ (hw _ (List.mem_of_getElem? (i := 15) rfl)) (hw _ (List.mem_of_getElem? (i := 12) rfl)) (by decide) (by decide)) (g := (mkF m 43 #[.val (.int x0), .val (.int x1), .val (.int x2), .val (.int bits), .val (.int (1 : Int32)), .val (.int (0 : Int32)), .val (.ref o), .unset, .unset, .unset, .unset, .unset, .unset, .unset, .unset, .unset] [(.ref en0), (.ref en0)])) rfl (by rw [hml]; rfl) (Steps.refl _) (a := en0) (argsL := []) (rest := [(.ref en0)]) (lenOf pd_0 rfl) rfl (by show 2 * 0 + _ ≤ _; exact Nat.le_of_eq rfl) (hb hby at_43) (fun _ _ => ⟨rfl, e3, (by decide : 3 + 0 ≤ _), (by decide : 10 + 0 ≤ _)⟩)
    dsimp only [Pt.U, Pt.locs, Pt.cells, Pt.slots] at X4 l4 y4 z4 st4 hQ4
    subst l4 y4 z4
    obtain ⟨rfl, N4q, e4⟩ := hQ4
    have N4 := Fr.app N2 N4q
    refine RunsTo.of (T' := T4) (g' := (mkF m 46 #[.val (.int x0), .val (.int x1), .val (.int x2), .val (.int bits), .val (.int (1 : Int32)), .val (.int (0 : Int32)), .val (.ref o), .unset, .unset, .unset, .unset, .unset, .unset, .unset, .unset, .unset] [(.ref en0)])) (fun _ kt => st4.trans kt) ?_
    refine RunsTo.of (T' := T4) (g' := (mkF m 48 #[.val (.int x0), .val (.int x1), .val (.int x2), .val (.int bits), .val (.int (1 : Int32)), .val (.int (0 : Int32)), .val (.ref o), .val (.ref en0), .unset, .unset, .unset, .unset, .unset, .unset, .unset, .unset] [])) (fun tgt_ kt => ?_) ?_
    · refine XS.astore X4.here hx rfl (hb hby at_46) rfl rfl (l' := #[.val (.int x0), .val (.int x1), .val (.int x2), .val (.int bits), .val (.int (1 : Int32)), .val (.int (0 : Int32)), .val (.ref o), .val (.ref en0), .unset, .unset, .unset, .unset, .unset, .unset, .unset, .unset]) rfl ?_
      show Steps p.tables e below (T4.setTop (mkF m 48 #[.val (.int x0), .val (.int x1), .val (.int x2), .val (.int bits), .val (.int (1 : Int32)), .val (.int (0 : Int32)), .val (.ref o), .val (.ref en0), .unset, .unset, .unset, .unset, .unset, .unset, .unset, .unset] [])) _
      exact kt
    obtain ⟨T5, h5, X5, e5, E5, A5, D5, -, st5⟩ := newO X4 hx hZ hown (hw _ (List.mem_of_getElem? (i := 25) rfl)) (hw _ (List.mem_of_getElem? (i := 11) rfl)) (hw _ (List.mem_of_getElem? (i := 12) rfl)) e4 (g := (mkF m 48 #[.val (.int x0), .val (.int x1), .val (.int x2), .val (.int bits), .val (.int (1 : Int32)), .val (.int (0 : Int32)), .val (.ref o), .val (.ref en0), .unset, .unset, .unset, .unset, .unset, .unset, .unset, .unset] [])) rfl (hb hby at_48) (by decide) (by decide)
    obtain ⟨en1, g5⟩ : ∃ z, z = h3.size := ⟨_, rfl⟩
    rw [← g5] at A5 D5 st5
    have Z5 : n0 ≤ h5.size := Nat.le_trans Z3 E5.1
    have g_en1 : n0 ≤ en1 := Nat.le_trans Z3 (Nat.le_of_eq g5.symm)
    have ne_o_en1 : o ≠ en1 := Nat.ne_of_lt (Nat.lt_of_lt_of_le E_o.lt (Nat.le_of_eq g5.symm))
    have ne_hd_en1 : hd ≠ en1 := Nat.ne_of_lt (Nat.lt_of_lt_of_le F_label_hd.lt (Nat.le_of_eq g5.symm))
    have ne_en0_en1 : en0 ≠ en1 := Nat.ne_of_lt (Nat.lt_of_lt_of_le F_next_en0.lt (Nat.le_of_eq g5.symm))
    have E_o := E_o.ext E5
    have F_head_o := F_head_o.ext E5
    have F_last_o := F_last_o.ext E5
    have F_labelBits_o := F_labelBits_o.ext E5
    have F_endGap_o := F_endGap_o.ext E5
    have F_label_hd := F_label_hd.ext E5
    have F_previous_hd := F_previous_hd.ext E5
    have F_next_hd := F_next_hd.ext E5
    have E_hd := E_hd.ext E5
    have F_next_en0 := F_next_en0.ext E5
    have F_previous_en0 := F_previous_en0.ext E5
    have F_label_en0 := F_label_en0.ext E5
    have E_en0 := E_en0.ext E5
    have F_next_en1 : Fld Z h5 en1 "com/example/round_table/roundtable/engine/OrderList$Entry" "next" "Lcom/example/round_table/roundtable/engine/OrderList$Entry;" .null := D5 (Or.inl (hw _ (List.mem_of_getElem? (i := 43) rfl))) (ty := (.object "com/example/round_table/roundtable/engine/OrderList$Entry")) (by decide)
    have F_previous_en1 : Fld Z h5 en1 "com/example/round_table/roundtable/engine/OrderList$Entry" "previous" "Lcom/example/round_table/roundtable/engine/OrderList$Entry;" .null := D5 (Or.inl (hw _ (List.mem_of_getElem? (i := 45) rfl))) (ty := (.object "com/example/round_table/roundtable/engine/OrderList$Entry")) (by decide)
    have F_label_en1 : Fld Z h5 en1 "com/example/round_table/roundtable/engine/OrderList$Entry" "label" "J" (.long (0 : Int64)) := D5 (Or.inl (hw _ (List.mem_of_getElem? (i := 47) rfl))) (ty := .long) (by decide)
    have E_en1 : Exa Z h5 en1 "com/example/round_table/roundtable/engine/OrderList$Entry" := A5
    refine RunsTo.of (T' := T5) (g' := (mkF m 51 #[.val (.int x0), .val (.int x1), .val (.int x2), .val (.int bits), .val (.int (1 : Int32)), .val (.int (0 : Int32)), .val (.ref o), .val (.ref en0), .unset, .unset, .unset, .unset, .unset, .unset, .unset, .unset] [(.ref en1)])) st5 ?_
    refine RunsTo.of (T' := T5) (g' := (mkF m 52 #[.val (.int x0), .val (.int x1), .val (.int x2), .val (.int bits), .val (.int (1 : Int32)), .val (.int (0 : Int32)), .val (.ref o), .val (.ref en0), .unset, .unset, .unset, .unset, .unset, .unset, .unset, .unset] [(.ref en1), (.ref en1)])) (fun tgt_ kt => ?_) ?_
    · refine XS.dup X5.here hx rfl (hb hby at_51) rfl rfl ?_
      show Steps p.tables e below (T5.setTop (mkF m 52 #[.val (.int x0), .val (.int x1), .val (.int x2), .val (.int bits), .val (.int (1 : Int32)), .val (.int (0 : Int32)), .val (.ref o), .val (.ref en0), .unset, .unset, .unset, .unset, .unset, .unset, .unset, .unset] [(.ref en1), (.ref en1)])) _
      exact kt
    obtain ⟨_, _, ⟨T6, L6, k6, n6⟩, -, X6, ⟨Lc6, hQ6, l6, y6, z6⟩, st6⟩ := X5.specialBack hx (y := (⟨"com/example/round_table/roundtable/engine/OrderList$Entry", "<init>", "()V"⟩ : MethodName)) rfl hown (mvT hZ (hw _ (List.mem_of_getElem? (i := 26) rfl))) (mvT hZ (hw _ (List.mem_of_getElem? (i := 14) rfl))) (mvT hZ (hw _ (List.mem_of_getElem? (i := 15) rfl))) (by decide) (backOf (W := 1) (rm3 l Z a0 hw [] en1 h5 n0 Z5 ) hZ (hw _ (List.mem_of_getElem? (i := 15) rfl)) (hw _ (List.mem_of_getElem? (i := 12) rfl)) (by decide) (by decide)) (g := (mkF m 52 #[.val (.int x0), .val (.int x1), .val (.int x2), .val (.int bits), .val (.int (1 : Int32)), .val (.int (0 : Int32)), .val (.ref o), .val (.ref en0), .unset, .unset, .unset, .unset, .unset, .unset, .unset, .unset] [(.ref en1), (.ref en1)])) rfl (by rw [hml]; rfl) (Steps.refl _) (a := en1) (argsL := []) (rest := [(.ref en1)]) (lenOf pd_0 rfl) rfl (by show 2 * 0 + _ ≤ _; exact Nat.le_of_eq rfl) (hb hby at_52) (fun _ _ => ⟨rfl, e5, (by decide : 4 + 0 ≤ _), (by decide : 13 + 0 ≤ _)⟩)
    dsimp only [Pt.U, Pt.locs, Pt.cells, Pt.slots] at X6 l6 y6 z6 st6 hQ6
    subst l6 y6 z6
    obtain ⟨rfl, N6q, e6⟩ := hQ6
    have N6 := Fr.app N4 N6q
    refine RunsTo.of (T' := T6) (g' := (mkF m 55 #[.val (.int x0), .val (.int x1), .val (.int x2), .val (.int bits), .val (.int (1 : Int32)), .val (.int (0 : Int32)), .val (.ref o), .val (.ref en0), .unset, .unset, .unset, .unset, .unset, .unset, .unset, .unset] [(.ref en1)])) (fun _ kt => st6.trans kt) ?_
    refine RunsTo.of (T' := T6) (g' := (mkF m 57 #[.val (.int x0), .val (.int x1), .val (.int x2), .val (.int bits), .val (.int (1 : Int32)), .val (.int (0 : Int32)), .val (.ref o), .val (.ref en0), .val (.ref en1), .unset, .unset, .unset, .unset, .unset, .unset, .unset] [])) (fun tgt_ kt => ?_) ?_
    · refine XS.astore X6.here hx rfl (hb hby at_55) rfl rfl (l' := #[.val (.int x0), .val (.int x1), .val (.int x2), .val (.int bits), .val (.int (1 : Int32)), .val (.int (0 : Int32)), .val (.ref o), .val (.ref en0), .val (.ref en1), .unset, .unset, .unset, .unset, .unset, .unset, .unset]) rfl ?_
      show Steps p.tables e below (T6.setTop (mkF m 57 #[.val (.int x0), .val (.int x1), .val (.int x2), .val (.int bits), .val (.int (1 : Int32)), .val (.int (0 : Int32)), .val (.ref o), .val (.ref en0), .val (.ref en1), .unset, .unset, .unset, .unset, .unset, .unset, .unset] [])) _
      exact kt
    obtain ⟨T7, h7, X7, e7, E7, A7, D7, -, st7⟩ := newO X6 hx hZ hown (hw _ (List.mem_of_getElem? (i := 25) rfl)) (hw _ (List.mem_of_getElem? (i := 11) rfl)) (hw _ (List.mem_of_getElem? (i := 12) rfl)) e6 (g := (mkF m 57 #[.val (.int x0), .val (.int x1), .val (.int x2), .val (.int bits), .val (.int (1 : Int32)), .val (.int (0 : Int32)), .val (.ref o), .val (.ref en0), .val (.ref en1), .unset, .unset, .unset, .unset, .unset, .unset, .unset] [])) rfl (hb hby at_57) (by decide) (by decide)
    obtain ⟨en2, g7⟩ : ∃ z, z = h5.size := ⟨_, rfl⟩
    rw [← g7] at A7 D7 st7
    have Z7 : n0 ≤ h7.size := Nat.le_trans Z5 E7.1
    have g_en2 : n0 ≤ en2 := Nat.le_trans Z5 (Nat.le_of_eq g7.symm)
    have ne_o_en2 : o ≠ en2 := Nat.ne_of_lt (Nat.lt_of_lt_of_le E_o.lt (Nat.le_of_eq g7.symm))
    have ne_hd_en2 : hd ≠ en2 := Nat.ne_of_lt (Nat.lt_of_lt_of_le F_label_hd.lt (Nat.le_of_eq g7.symm))
    have ne_en0_en2 : en0 ≠ en2 := Nat.ne_of_lt (Nat.lt_of_lt_of_le F_next_en0.lt (Nat.le_of_eq g7.symm))
    have ne_en1_en2 : en1 ≠ en2 := Nat.ne_of_lt (Nat.lt_of_lt_of_le F_next_en1.lt (Nat.le_of_eq g7.symm))
    have E_o := E_o.ext E7
    have F_head_o := F_head_o.ext E7
    have F_last_o := F_last_o.ext E7
    have F_labelBits_o := F_labelBits_o.ext E7
    have F_endGap_o := F_endGap_o.ext E7
    have F_label_hd := F_label_hd.ext E7
    have F_previous_hd := F_previous_hd.ext E7
    have F_next_hd := F_next_hd.ext E7
    have E_hd := E_hd.ext E7
    have F_next_en0 := F_next_en0.ext E7
    have F_previous_en0 := F_previous_en0.ext E7
    have F_label_en0 := F_label_en0.ext E7
    have E_en0 := E_en0.ext E7
    have F_next_en1 := F_next_en1.ext E7
    have F_previous_en1 := F_previous_en1.ext E7
    have F_label_en1 := F_label_en1.ext E7
    have E_en1 := E_en1.ext E7
    have F_next_en2 : Fld Z h7 en2 "com/example/round_table/roundtable/engine/OrderList$Entry" "next" "Lcom/example/round_table/roundtable/engine/OrderList$Entry;" .null := D7 (Or.inl (hw _ (List.mem_of_getElem? (i := 43) rfl))) (ty := (.object "com/example/round_table/roundtable/engine/OrderList$Entry")) (by decide)
    have F_previous_en2 : Fld Z h7 en2 "com/example/round_table/roundtable/engine/OrderList$Entry" "previous" "Lcom/example/round_table/roundtable/engine/OrderList$Entry;" .null := D7 (Or.inl (hw _ (List.mem_of_getElem? (i := 45) rfl))) (ty := (.object "com/example/round_table/roundtable/engine/OrderList$Entry")) (by decide)
    have F_label_en2 : Fld Z h7 en2 "com/example/round_table/roundtable/engine/OrderList$Entry" "label" "J" (.long (0 : Int64)) := D7 (Or.inl (hw _ (List.mem_of_getElem? (i := 47) rfl))) (ty := .long) (by decide)
    have E_en2 : Exa Z h7 en2 "com/example/round_table/roundtable/engine/OrderList$Entry" := A7
    refine RunsTo.of (T' := T7) (g' := (mkF m 60 #[.val (.int x0), .val (.int x1), .val (.int x2), .val (.int bits), .val (.int (1 : Int32)), .val (.int (0 : Int32)), .val (.ref o), .val (.ref en0), .val (.ref en1), .unset, .unset, .unset, .unset, .unset, .unset, .unset] [(.ref en2)])) st7 ?_
    refine RunsTo.of (T' := T7) (g' := (mkF m 61 #[.val (.int x0), .val (.int x1), .val (.int x2), .val (.int bits), .val (.int (1 : Int32)), .val (.int (0 : Int32)), .val (.ref o), .val (.ref en0), .val (.ref en1), .unset, .unset, .unset, .unset, .unset, .unset, .unset] [(.ref en2), (.ref en2)])) (fun tgt_ kt => ?_) ?_
    · refine XS.dup X7.here hx rfl (hb hby at_60) rfl rfl ?_
      show Steps p.tables e below (T7.setTop (mkF m 61 #[.val (.int x0), .val (.int x1), .val (.int x2), .val (.int bits), .val (.int (1 : Int32)), .val (.int (0 : Int32)), .val (.ref o), .val (.ref en0), .val (.ref en1), .unset, .unset, .unset, .unset, .unset, .unset, .unset] [(.ref en2), (.ref en2)])) _
      exact kt
    obtain ⟨_, _, ⟨T8, L8, k8, n8⟩, -, X8, ⟨Lc8, hQ8, l8, y8, z8⟩, st8⟩ := X7.specialBack hx (y := (⟨"com/example/round_table/roundtable/engine/OrderList$Entry", "<init>", "()V"⟩ : MethodName)) rfl hown (mvT hZ (hw _ (List.mem_of_getElem? (i := 26) rfl))) (mvT hZ (hw _ (List.mem_of_getElem? (i := 14) rfl))) (mvT hZ (hw _ (List.mem_of_getElem? (i := 15) rfl))) (by decide) (backOf (W := 1) (rm3 l Z a0 hw [] en2 h7 n0 Z7 ) hZ (hw _ (List.mem_of_getElem? (i := 15) rfl)) (hw _ (List.mem_of_getElem? (i := 12) rfl)) (by decide) (by decide)) (g := (mkF m 61 #[.val (.int x0), .val (.int x1), .val (.int x2), .val (.int bits), .val (.int (1 : Int32)), .val (.int (0 : Int32)), .val (.ref o), .val (.ref en0), .val (.ref en1), .unset, .unset, .unset, .unset, .unset, .unset, .unset] [(.ref en2), (.ref en2)])) rfl (by rw [hml]; rfl) (Steps.refl _) (a := en2) (argsL := []) (rest := [(.ref en2)]) (lenOf pd_0 rfl) rfl (by show 2 * 0 + _ ≤ _; exact Nat.le_of_eq rfl) (hb hby at_61) (fun _ _ => ⟨rfl, e7, (by decide : 5 + 0 ≤ _), (by decide : 16 + 0 ≤ _)⟩)
    dsimp only [Pt.U, Pt.locs, Pt.cells, Pt.slots] at X8 l8 y8 z8 st8 hQ8
    subst l8 y8 z8
    obtain ⟨rfl, N8q, e8⟩ := hQ8
    have N8 := Fr.app N6 N8q
    refine RunsTo.of (T' := T8) (g' := (mkF m 64 #[.val (.int x0), .val (.int x1), .val (.int x2), .val (.int bits), .val (.int (1 : Int32)), .val (.int (0 : Int32)), .val (.ref o), .val (.ref en0), .val (.ref en1), .unset, .unset, .unset, .unset, .unset, .unset, .unset] [(.ref en2)])) (fun _ kt => st8.trans kt) ?_
    refine RunsTo.of (T' := T8) (g' := (mkF m 70 #[.val (.int x0), .val (.int x1), .val (.int x2), .val (.int bits), .val (.int (1 : Int32)), .val (.int (0 : Int32)), .val (.ref o), .val (.ref en0), .val (.ref en1), .val (.ref en2), .unset, .unset, .unset, .unset, .unset, .unset] [(.ref en0), (.ref o)])) (fun tgt_ kt => ?_) ?_
    · refine XS.astore X8.here hx rfl (hb hby at_64) rfl rfl (l' := #[.val (.int x0), .val (.int x1), .val (.int x2), .val (.int bits), .val (.int (1 : Int32)), .val (.int (0 : Int32)), .val (.ref o), .val (.ref en0), .val (.ref en1), .val (.ref en2), .unset, .unset, .unset, .unset, .unset, .unset]) rfl ?_
      show Steps p.tables e below (T8.setTop (mkF m 66 #[.val (.int x0), .val (.int x1), .val (.int x2), .val (.int bits), .val (.int (1 : Int32)), .val (.int (0 : Int32)), .val (.ref o), .val (.ref en0), .val (.ref en1), .val (.ref en2), .unset, .unset, .unset, .unset, .unset, .unset] [])) _
      refine XS.aload X8.here hx rfl (hb hby at_66) rfl rfl ?_
      show Steps p.tables e below (T8.setTop (mkF m 68 #[.val (.int x0), .val (.int x1), .val (.int x2), .val (.int bits), .val (.int (1 : Int32)), .val (.int (0 : Int32)), .val (.ref o), .val (.ref en0), .val (.ref en1), .val (.ref en2), .unset, .unset, .unset, .unset, .unset, .unset] [(.ref o)])) _
      refine XS.aload X8.here hx rfl (hb hby at_68) rfl rfl ?_
      show Steps p.tables e below (T8.setTop (mkF m 70 #[.val (.int x0), .val (.int x1), .val (.int x2), .val (.int bits), .val (.int (1 : Int32)), .val (.int (0 : Int32)), .val (.ref o), .val (.ref en0), .val (.ref en1), .val (.ref en2), .unset, .unset, .unset, .unset, .unset, .unset] [(.ref en0), (.ref o)])) _
      exact kt
    obtain ⟨cq9, kq9, q9a, q9b, q9c⟩ := isOf hZ e8 E_o
    obtain ⟨_, _, ⟨T9, L9, k9, n9⟩, -, X9, ⟨Lc9, hQ9, l9, y9, z9⟩, st9⟩ := X8.virtualBack hx (y := (⟨"com/example/round_table/roundtable/engine/OrderList", "append", "(Lcom/example/round_table/roundtable/engine/OrderList$Entry;)V"⟩ : MethodName)) (z := (⟨"com/example/round_table/roundtable/engine/OrderList", "append", "(Lcom/example/round_table/roundtable/engine/OrderList$Entry;)V"⟩ : MethodName)) hown (mvT hZ (hw _ (List.mem_of_getElem? (i := 27) rfl))) (mvT hZ (hw _ (List.mem_of_getElem? (i := 28) rfl))) (notFace_of_selects (args := #[]) (mvT hZ (hw _ (List.mem_of_getElem? (i := 30) rfl)))) (mvT hZ (hw _ (List.mem_of_getElem? (i := 30) rfl))) (mvT hZ (hw _ (List.mem_of_getElem? (i := 29) rfl))) (by decide) (backOf (W := 0) (rm_appE l Z a0 hw [] o en0 hd bits eg RR (0 : Int64) (0 : Int64) h7 n0 Z7 E_o g_o F_head_o F_last_o F_labelBits_o F_endGap_o E_hd g_hd F_label_hd F_previous_hd F_next_hd E_en0 g_en0 F_label_en0 F_previous_en0 F_next_en0 ne_o_hd ne_o_en0 ne_hd_en0 hRR hR heg (by omega) (by omega)) hZ (hw _ (List.mem_of_getElem? (i := 31) rfl)) (hw _ (List.mem_of_getElem? (i := 3) rfl)) (by decide) (by decide)) q9a q9c (g := (mkF m 70 #[.val (.int x0), .val (.int x1), .val (.int x2), .val (.int bits), .val (.int (1 : Int32)), .val (.int (0 : Int32)), .val (.ref o), .val (.ref en0), .val (.ref en1), .val (.ref en2), .unset, .unset, .unset, .unset, .unset, .unset] [(.ref en0), (.ref o)])) rfl (by rw [hml]; rfl) (Steps.refl _) (argsL := [(.ref en0)]) (rest := []) (lenOf pd_5 rfl) rfl (by show 2 * 0 + _ ≤ _; exact Nat.le_of_eq rfl) (hb hby at_70) (fun _ _ => ⟨rfl, e8, (by decide : 5 + 0 ≤ _), (by decide : 16 + 0 ≤ _)⟩)
    dsimp only [Pt.U, Pt.locs, Pt.cells, Pt.slots] at X9 l9 y9 z9 st9 hQ9
    subst l9 y9 z9
    obtain ⟨lab_en0, rfl, N9q, K9, F_head_o, F_last_o, F_labelBits_o, F_endGap_o, F_label_hd, F_previous_hd, F_next_hd, F_label_en0, F_previous_en0, F_next_en0, hb1_en0, hb2_en0, hb3_en0⟩ := hQ9
    have N9 := Fr.app N8 N9q
    have Z9 : n0 ≤ T9.heap.size := Nat.le_trans Z7 K9.1
    have E_o := E_o.keep K9
    have E_hd := E_hd.keep K9
    have E_en0 := E_en0.keep K9
    have F_next_en1 := F_next_en1.keep K9 (ninS (Ne.symm ne_o_en1) (ninS (Ne.symm ne_hd_en1) (ninS (Ne.symm ne_en0_en1) nin0)))
    have F_previous_en1 := F_previous_en1.keep K9 (ninS (Ne.symm ne_o_en1) (ninS (Ne.symm ne_hd_en1) (ninS (Ne.symm ne_en0_en1) nin0)))
    have F_label_en1 := F_label_en1.keep K9 (ninS (Ne.symm ne_o_en1) (ninS (Ne.symm ne_hd_en1) (ninS (Ne.symm ne_en0_en1) nin0)))
    have E_en1 := E_en1.keep K9
    have F_next_en2 := F_next_en2.keep K9 (ninS (Ne.symm ne_o_en2) (ninS (Ne.symm ne_hd_en2) (ninS (Ne.symm ne_en0_en2) nin0)))
    have F_previous_en2 := F_previous_en2.keep K9 (ninS (Ne.symm ne_o_en2) (ninS (Ne.symm ne_hd_en2) (ninS (Ne.symm ne_en0_en2) nin0)))
    have F_label_en2 := F_label_en2.keep K9 (ninS (Ne.symm ne_o_en2) (ninS (Ne.symm ne_hd_en2) (ninS (Ne.symm ne_en0_en2) nin0)))
    have E_en2 := E_en2.keep K9
    refine RunsTo.of (T' := T9) (g' := (mkF m 73 #[.val (.int x0), .val (.int x1), .val (.int x2), .val (.int bits), .val (.int (1 : Int32)), .val (.int (0 : Int32)), .val (.ref o), .val (.ref en0), .val (.ref en1), .val (.ref en2), .unset, .unset, .unset, .unset, .unset, .unset] [])) (fun _ kt => st9.trans kt) ?_
    refine RunsTo.of (T' := T9) (g' := (mkF m 128 #[.val (.int x0), .val (.int x1), .val (.int x2), .val (.int bits), .val (.int (1 : Int32)), .val (.int (0 : Int32)), .val (.ref o), .val (.ref en0), .val (.ref en1), .val (.ref en2), .val (.ref en0), .unset, .unset, .unset, .unset, .unset] [(.ref en0), (.ref o)])) (fun tgt_ kt => ?_) ?_
    · refine XS.iload X9.here hx rfl (hb hby at_73) rfl ?_
      show Steps p.tables e below (T9.setTop (mkF m 75 #[.val (.int x0), .val (.int x1), .val (.int x2), .val (.int bits), .val (.int (1 : Int32)), .val (.int (0 : Int32)), .val (.ref o), .val (.ref en0), .val (.ref en1), .val (.ref en2), .unset, .unset, .unset, .unset, .unset, .unset] [(.int (1 : Int32))])) _
      refine XS.iconst X9.here hx rfl (hb hby at_75) ?_
      show Steps p.tables e below (T9.setTop (mkF m 76 #[.val (.int x0), .val (.int x1), .val (.int x2), .val (.int bits), .val (.int (1 : Int32)), .val (.int (0 : Int32)), .val (.ref o), .val (.ref en0), .val (.ref en1), .val (.ref en2), .unset, .unset, .unset, .unset, .unset, .unset] [(.int (2 : Int32)), (.int (1 : Int32))])) _
      refine XS.icmpYes X9.here hx rfl (pc0 := 76) (pc' := 86) rfl (hb hby at_76) rfl (tlt (by decide)).1 (by decide) (by decide) ?_
      show Steps p.tables e below (T9.setTop (mkF m 86 #[.val (.int x0), .val (.int x1), .val (.int x2), .val (.int bits), .val (.int (1 : Int32)), .val (.int (0 : Int32)), .val (.ref o), .val (.ref en0), .val (.ref en1), .val (.ref en2), .unset, .unset, .unset, .unset, .unset, .unset] [])) _
      refine XS.iload X9.here hx rfl (hb hby at_86) rfl ?_
      show Steps p.tables e below (T9.setTop (mkF m 88 #[.val (.int x0), .val (.int x1), .val (.int x2), .val (.int bits), .val (.int (1 : Int32)), .val (.int (0 : Int32)), .val (.ref o), .val (.ref en0), .val (.ref en1), .val (.ref en2), .unset, .unset, .unset, .unset, .unset, .unset] [(.int (1 : Int32))])) _
      refine XS.iconst X9.here hx rfl (hb hby at_88) ?_
      show Steps p.tables e below (T9.setTop (mkF m 89 #[.val (.int x0), .val (.int x1), .val (.int x2), .val (.int bits), .val (.int (1 : Int32)), .val (.int (0 : Int32)), .val (.ref o), .val (.ref en0), .val (.ref en1), .val (.ref en2), .unset, .unset, .unset, .unset, .unset, .unset] [(.int (3 : Int32)), (.int (1 : Int32))])) _
      refine XS.icmpYes X9.here hx rfl (pc0 := 89) (pc' := 99) rfl (hb hby at_89) rfl (tlt (by decide)).1 (by decide) (by decide) ?_
      show Steps p.tables e below (T9.setTop (mkF m 99 #[.val (.int x0), .val (.int x1), .val (.int x2), .val (.int bits), .val (.int (1 : Int32)), .val (.int (0 : Int32)), .val (.ref o), .val (.ref en0), .val (.ref en1), .val (.ref en2), .unset, .unset, .unset, .unset, .unset, .unset] [])) _
      refine XS.iload X9.here hx rfl (hb hby at_99) rfl ?_
      show Steps p.tables e below (T9.setTop (mkF m 101 #[.val (.int x0), .val (.int x1), .val (.int x2), .val (.int bits), .val (.int (1 : Int32)), .val (.int (0 : Int32)), .val (.ref o), .val (.ref en0), .val (.ref en1), .val (.ref en2), .unset, .unset, .unset, .unset, .unset, .unset] [(.int (0 : Int32))])) _
      refine XS.ifNo X9.here hx rfl (hb hby at_101) rfl ((if0 _ _).trans (teq rfl).2) ?_
      show Steps p.tables e below (T9.setTop (mkF m 104 #[.val (.int x0), .val (.int x1), .val (.int x2), .val (.int bits), .val (.int (1 : Int32)), .val (.int (0 : Int32)), .val (.ref o), .val (.ref en0), .val (.ref en1), .val (.ref en2), .unset, .unset, .unset, .unset, .unset, .unset] [])) _
      refine XS.aload X9.here hx rfl (hb hby at_104) rfl rfl ?_
      show Steps p.tables e below (T9.setTop (mkF m 106 #[.val (.int x0), .val (.int x1), .val (.int x2), .val (.int bits), .val (.int (1 : Int32)), .val (.int (0 : Int32)), .val (.ref o), .val (.ref en0), .val (.ref en1), .val (.ref en2), .unset, .unset, .unset, .unset, .unset, .unset] [(.ref en0)])) _
      refine XS.goto X9.here hx rfl (pc0 := 106) (pc' := 122) rfl (hb hby at_106) (by decide) (by decide) ?_
      show Steps p.tables e below (T9.setTop (mkF m 122 #[.val (.int x0), .val (.int x1), .val (.int x2), .val (.int bits), .val (.int (1 : Int32)), .val (.int (0 : Int32)), .val (.ref o), .val (.ref en0), .val (.ref en1), .val (.ref en2), .unset, .unset, .unset, .unset, .unset, .unset] [(.ref en0)])) _
      refine XS.astore X9.here hx rfl (hb hby at_122) rfl rfl (l' := #[.val (.int x0), .val (.int x1), .val (.int x2), .val (.int bits), .val (.int (1 : Int32)), .val (.int (0 : Int32)), .val (.ref o), .val (.ref en0), .val (.ref en1), .val (.ref en2), .val (.ref en0), .unset, .unset, .unset, .unset, .unset]) rfl ?_
      show Steps p.tables e below (T9.setTop (mkF m 124 #[.val (.int x0), .val (.int x1), .val (.int x2), .val (.int bits), .val (.int (1 : Int32)), .val (.int (0 : Int32)), .val (.ref o), .val (.ref en0), .val (.ref en1), .val (.ref en2), .val (.ref en0), .unset, .unset, .unset, .unset, .unset] [])) _
      refine XS.aload X9.here hx rfl (hb hby at_124) rfl rfl ?_
      show Steps p.tables e below (T9.setTop (mkF m 126 #[.val (.int x0), .val (.int x1), .val (.int x2), .val (.int bits), .val (.int (1 : Int32)), .val (.int (0 : Int32)), .val (.ref o), .val (.ref en0), .val (.ref en1), .val (.ref en2), .val (.ref en0), .unset, .unset, .unset, .unset, .unset] [(.ref o)])) _
      refine XS.aload X9.here hx rfl (hb hby at_126) rfl rfl ?_
      show Steps p.tables e below (T9.setTop (mkF m 128 #[.val (.int x0), .val (.int x1), .val (.int x2), .val (.int bits), .val (.int (1 : Int32)), .val (.int (0 : Int32)), .val (.ref o), .val (.ref en0), .val (.ref en1), .val (.ref en2), .val (.ref en0), .unset, .unset, .unset, .unset, .unset] [(.ref en0), (.ref o)])) _
      exact kt
    obtain ⟨cq10, kq10, q10a, q10b, q10c⟩ := isOf hZ rfl E_o
    obtain ⟨_, _, ⟨T10, L10, k10, n10⟩, -, X10, ⟨Lc10, hQ10, l10, y10, z10⟩, st10⟩ := X9.virtualBack hx (y := (⟨"com/example/round_table/roundtable/engine/OrderList", "remove", "(Lcom/example/round_table/roundtable/engine/OrderList$Entry;)V"⟩ : MethodName)) (z := (⟨"com/example/round_table/roundtable/engine/OrderList", "remove", "(Lcom/example/round_table/roundtable/engine/OrderList$Entry;)V"⟩ : MethodName)) hown (mvT hZ (hw _ (List.mem_of_getElem? (i := 53) rfl))) (mvT hZ (hw _ (List.mem_of_getElem? (i := 54) rfl))) (notFace_of_selects (args := #[]) (mvT hZ (hw _ (List.mem_of_getElem? (i := 56) rfl)))) (mvT hZ (hw _ (List.mem_of_getElem? (i := 56) rfl))) (mvT hZ (hw _ (List.mem_of_getElem? (i := 55) rfl))) (by decide) (backOf (W := 0) (rm_remE l Z a0 hw [] o en0 hd hd (.ref en0) .null bits eg (0 : Int64) lab_en0 T9.heap n0 Z9 E_o g_o F_head_o F_last_o F_labelBits_o F_endGap_o E_hd g_hd F_label_hd F_previous_hd F_next_hd E_en0 g_en0 F_label_en0 F_previous_en0 F_next_en0 ne_o_hd ne_o_en0 ne_hd_en0) hZ (hw _ (List.mem_of_getElem? (i := 57) rfl)) (hw _ (List.mem_of_getElem? (i := 3) rfl)) (by decide) (by decide)) q10a q10c (g := (mkF m 128 #[.val (.int x0), .val (.int x1), .val (.int x2), .val (.int bits), .val (.int (1 : Int32)), .val (.int (0 : Int32)), .val (.ref o), .val (.ref en0), .val (.ref en1), .val (.ref en2), .val (.ref en0), .unset, .unset, .unset, .unset, .unset] [(.ref en0), (.ref o)])) rfl (by rw [hml]; rfl) (Steps.refl _) (argsL := [(.ref en0)]) (rest := []) (lenOf pd_5 rfl) rfl (by show 2 * 0 + _ ≤ _; exact Nat.le_of_eq rfl) (hb hby at_128) (fun _ _ => ⟨rfl, rfl, (by decide : 5 + 0 ≤ _), (by decide : 16 + 0 ≤ _)⟩)
    dsimp only [Pt.U, Pt.locs, Pt.cells, Pt.slots] at X10 l10 y10 z10 st10 hQ10
    subst l10 y10 z10
    obtain ⟨rfl, N10q, K10, F_head_o, F_last_o, F_labelBits_o, F_endGap_o, F_label_hd, F_previous_hd, F_next_hd, F_label_en0, F_previous_en0, F_next_en0⟩ := hQ10
    have N10 := Fr.app N9 N10q
    have Z10 : n0 ≤ T10.heap.size := Nat.le_trans Z9 K10.1
    have E_o := E_o.keep K10
    have E_hd := E_hd.keep K10
    have E_en0 := E_en0.keep K10
    have F_next_en1 := F_next_en1.keep K10 (ninS (Ne.symm ne_o_en1) (ninS (Ne.symm ne_hd_en1) (ninS (Ne.symm ne_en0_en1) nin0)))
    have F_previous_en1 := F_previous_en1.keep K10 (ninS (Ne.symm ne_o_en1) (ninS (Ne.symm ne_hd_en1) (ninS (Ne.symm ne_en0_en1) nin0)))
    have F_label_en1 := F_label_en1.keep K10 (ninS (Ne.symm ne_o_en1) (ninS (Ne.symm ne_hd_en1) (ninS (Ne.symm ne_en0_en1) nin0)))
    have E_en1 := E_en1.keep K10
    have F_next_en2 := F_next_en2.keep K10 (ninS (Ne.symm ne_o_en2) (ninS (Ne.symm ne_hd_en2) (ninS (Ne.symm ne_en0_en2) nin0)))
    have F_previous_en2 := F_previous_en2.keep K10 (ninS (Ne.symm ne_o_en2) (ninS (Ne.symm ne_hd_en2) (ninS (Ne.symm ne_en0_en2) nin0)))
    have F_label_en2 := F_label_en2.keep K10 (ninS (Ne.symm ne_o_en2) (ninS (Ne.symm ne_hd_en2) (ninS (Ne.symm ne_en0_en2) nin0)))
    have E_en2 := E_en2.keep K10
    refine RunsTo.of (T' := T10) (g' := (mkF m 131 #[.val (.int x0), .val (.int x1), .val (.int x2), .val (.int bits), .val (.int (1 : Int32)), .val (.int (0 : Int32)), .val (.ref o), .val (.ref en0), .val (.ref en1), .val (.ref en2), .val (.ref en0), .unset, .unset, .unset, .unset, .unset] [])) (fun _ kt => st10.trans kt) ?_
    refine RunsTo.of (T' := T10) (g' := (mkF m 137 #[.val (.int x0), .val (.int x1), .val (.int x2), .val (.int bits), .val (.int (1 : Int32)), .val (.int (0 : Int32)), .val (.ref o), .val (.ref en0), .val (.ref en1), .val (.ref en2), .val (.ref en0), .val (.int ((1 : Int32) - (1 : Int32))), .unset, .unset, .unset, .unset] [])) (fun tgt_ kt => ?_) ?_
    · refine XS.iload X10.here hx rfl (hb hby at_131) rfl ?_
      show Steps p.tables e below (T10.setTop (mkF m 133 #[.val (.int x0), .val (.int x1), .val (.int x2), .val (.int bits), .val (.int (1 : Int32)), .val (.int (0 : Int32)), .val (.ref o), .val (.ref en0), .val (.ref en1), .val (.ref en2), .val (.ref en0), .unset, .unset, .unset, .unset, .unset] [(.int (1 : Int32))])) _
      refine XS.iconst X10.here hx rfl (hb hby at_133) ?_
      show Steps p.tables e below (T10.setTop (mkF m 134 #[.val (.int x0), .val (.int x1), .val (.int x2), .val (.int bits), .val (.int (1 : Int32)), .val (.int (0 : Int32)), .val (.ref o), .val (.ref en0), .val (.ref en1), .val (.ref en2), .val (.ref en0), .unset, .unset, .unset, .unset, .unset] [(.int (1 : Int32)), (.int (1 : Int32))])) _
      refine XS.isub X10.here hx rfl (hb hby at_134) rfl ?_
      show Steps p.tables e below (T10.setTop (mkF m 135 #[.val (.int x0), .val (.int x1), .val (.int x2), .val (.int bits), .val (.int (1 : Int32)), .val (.int (0 : Int32)), .val (.ref o), .val (.ref en0), .val (.ref en1), .val (.ref en2), .val (.ref en0), .unset, .unset, .unset, .unset, .unset] [(.int ((1 : Int32) - (1 : Int32)))])) _
      refine XS.istore X10.here hx rfl (hb hby at_135) rfl (l' := #[.val (.int x0), .val (.int x1), .val (.int x2), .val (.int bits), .val (.int (1 : Int32)), .val (.int (0 : Int32)), .val (.ref o), .val (.ref en0), .val (.ref en1), .val (.ref en2), .val (.ref en0), .val (.int ((1 : Int32) - (1 : Int32))), .unset, .unset, .unset, .unset]) rfl ?_
      show Steps p.tables e below (T10.setTop (mkF m 137 #[.val (.int x0), .val (.int x1), .val (.int x2), .val (.int bits), .val (.int (1 : Int32)), .val (.int (0 : Int32)), .val (.ref o), .val (.ref en0), .val (.ref en1), .val (.ref en2), .val (.ref en0), .val (.int ((1 : Int32) - (1 : Int32))), .unset, .unset, .unset, .unset] [])) _
      exact kt
    have hm : (1 : Int32) - (1 : Int32) = (0 : Int32) := by decide
    rw [hm]
    refine RunsTo.of (T' := T10) (g' := (mkF m 173 #[.val (.int x0), .val (.int x1), .val (.int x2), .val (.int bits), .val (.int (1 : Int32)), .val (.int (0 : Int32)), .val (.ref o), .val (.ref en0), .val (.ref en1), .val (.ref en2), .val (.ref en0), .val (.int (0 : Int32)), .val (.ref en1), .val (.ref en2), .unset, .unset] [(.ref o)])) (fun tgt_ kt => ?_) ?_
    · refine XS.iload X10.here hx rfl (hb hby at_137) rfl ?_
      show Steps p.tables e below (T10.setTop (mkF m 139 #[.val (.int x0), .val (.int x1), .val (.int x2), .val (.int bits), .val (.int (1 : Int32)), .val (.int (0 : Int32)), .val (.ref o), .val (.ref en0), .val (.ref en1), .val (.ref en2), .val (.ref en0), .val (.int (0 : Int32)), .unset, .unset, .unset, .unset] [(.int (0 : Int32))])) _
      refine XS.ifNo X10.here hx rfl (hb hby at_139) rfl ((if0 _ _).trans (teq rfl).2) ?_
      show Steps p.tables e below (T10.setTop (mkF m 142 #[.val (.int x0), .val (.int x1), .val (.int x2), .val (.int bits), .val (.int (1 : Int32)), .val (.int (0 : Int32)), .val (.ref o), .val (.ref en0), .val (.ref en1), .val (.ref en2), .val (.ref en0), .val (.int (0 : Int32)), .unset, .unset, .unset, .unset] [])) _
      refine XS.aload X10.here hx rfl (hb hby at_142) rfl rfl ?_
      show Steps p.tables e below (T10.setTop (mkF m 144 #[.val (.int x0), .val (.int x1), .val (.int x2), .val (.int bits), .val (.int (1 : Int32)), .val (.int (0 : Int32)), .val (.ref o), .val (.ref en0), .val (.ref en1), .val (.ref en2), .val (.ref en0), .val (.int (0 : Int32)), .unset, .unset, .unset, .unset] [(.ref en1)])) _
      refine XS.goto X10.here hx rfl (pc0 := 144) (pc' := 149) rfl (hb hby at_144) (by decide) (by decide) ?_
      show Steps p.tables e below (T10.setTop (mkF m 149 #[.val (.int x0), .val (.int x1), .val (.int x2), .val (.int bits), .val (.int (1 : Int32)), .val (.int (0 : Int32)), .val (.ref o), .val (.ref en0), .val (.ref en1), .val (.ref en2), .val (.ref en0), .val (.int (0 : Int32)), .unset, .unset, .unset, .unset] [(.ref en1)])) _
      refine XS.astore X10.here hx rfl (hb hby at_149) rfl rfl (l' := #[.val (.int x0), .val (.int x1), .val (.int x2), .val (.int bits), .val (.int (1 : Int32)), .val (.int (0 : Int32)), .val (.ref o), .val (.ref en0), .val (.ref en1), .val (.ref en2), .val (.ref en0), .val (.int (0 : Int32)), .val (.ref en1), .unset, .unset, .unset]) rfl ?_
      show Steps p.tables e below (T10.setTop (mkF m 151 #[.val (.int x0), .val (.int x1), .val (.int x2), .val (.int bits), .val (.int (1 : Int32)), .val (.int (0 : Int32)), .val (.ref o), .val (.ref en0), .val (.ref en1), .val (.ref en2), .val (.ref en0), .val (.int (0 : Int32)), .val (.ref en1), .unset, .unset, .unset] [])) _
      refine XS.iload X10.here hx rfl (hb hby at_151) rfl ?_
      show Steps p.tables e below (T10.setTop (mkF m 153 #[.val (.int x0), .val (.int x1), .val (.int x2), .val (.int bits), .val (.int (1 : Int32)), .val (.int (0 : Int32)), .val (.ref o), .val (.ref en0), .val (.ref en1), .val (.ref en2), .val (.ref en0), .val (.int (0 : Int32)), .val (.ref en1), .unset, .unset, .unset] [(.int (0 : Int32))])) _
      refine XS.iconst X10.here hx rfl (hb hby at_153) ?_
      show Steps p.tables e below (T10.setTop (mkF m 154 #[.val (.int x0), .val (.int x1), .val (.int x2), .val (.int bits), .val (.int (1 : Int32)), .val (.int (0 : Int32)), .val (.ref o), .val (.ref en0), .val (.ref en1), .val (.ref en2), .val (.ref en0), .val (.int (0 : Int32)), .val (.ref en1), .unset, .unset, .unset] [(.int (2 : Int32)), (.int (0 : Int32))])) _
      refine XS.icmpYes X10.here hx rfl (pc0 := 154) (pc' := 162) rfl (hb hby at_154) rfl (feq (by decide)).2 (by decide) (by decide) ?_
      show Steps p.tables e below (T10.setTop (mkF m 162 #[.val (.int x0), .val (.int x1), .val (.int x2), .val (.int bits), .val (.int (1 : Int32)), .val (.int (0 : Int32)), .val (.ref o), .val (.ref en0), .val (.ref en1), .val (.ref en2), .val (.ref en0), .val (.int (0 : Int32)), .val (.ref en1), .unset, .unset, .unset] [])) _
      refine XS.aload X10.here hx rfl (hb hby at_162) rfl rfl ?_
      show Steps p.tables e below (T10.setTop (mkF m 164 #[.val (.int x0), .val (.int x1), .val (.int x2), .val (.int bits), .val (.int (1 : Int32)), .val (.int (0 : Int32)), .val (.ref o), .val (.ref en0), .val (.ref en1), .val (.ref en2), .val (.ref en0), .val (.int (0 : Int32)), .val (.ref en1), .unset, .unset, .unset] [(.ref en2)])) _
      refine XS.astore X10.here hx rfl (hb hby at_164) rfl rfl (l' := #[.val (.int x0), .val (.int x1), .val (.int x2), .val (.int bits), .val (.int (1 : Int32)), .val (.int (0 : Int32)), .val (.ref o), .val (.ref en0), .val (.ref en1), .val (.ref en2), .val (.ref en0), .val (.int (0 : Int32)), .val (.ref en1), .val (.ref en2), .unset, .unset]) rfl ?_
      show Steps p.tables e below (T10.setTop (mkF m 166 #[.val (.int x0), .val (.int x1), .val (.int x2), .val (.int bits), .val (.int (1 : Int32)), .val (.int (0 : Int32)), .val (.ref o), .val (.ref en0), .val (.ref en1), .val (.ref en2), .val (.ref en0), .val (.int (0 : Int32)), .val (.ref en1), .val (.ref en2), .unset, .unset] [])) _
      refine XS.iload X10.here hx rfl (hb hby at_166) rfl ?_
      show Steps p.tables e below (T10.setTop (mkF m 168 #[.val (.int x0), .val (.int x1), .val (.int x2), .val (.int bits), .val (.int (1 : Int32)), .val (.int (0 : Int32)), .val (.ref o), .val (.ref en0), .val (.ref en1), .val (.ref en2), .val (.ref en0), .val (.int (0 : Int32)), .val (.ref en1), .val (.ref en2), .unset, .unset] [(.int (0 : Int32))])) _
      refine XS.ifNo X10.here hx rfl (hb hby at_168) rfl ((if0 _ _).trans (teq rfl).2) ?_
      show Steps p.tables e below (T10.setTop (mkF m 171 #[.val (.int x0), .val (.int x1), .val (.int x2), .val (.int bits), .val (.int (1 : Int32)), .val (.int (0 : Int32)), .val (.ref o), .val (.ref en0), .val (.ref en1), .val (.ref en2), .val (.ref en0), .val (.int (0 : Int32)), .val (.ref en1), .val (.ref en2), .unset, .unset] [])) _
      refine XS.aload X10.here hx rfl (hb hby at_171) rfl rfl ?_
      show Steps p.tables e below (T10.setTop (mkF m 173 #[.val (.int x0), .val (.int x1), .val (.int x2), .val (.int bits), .val (.int (1 : Int32)), .val (.int (0 : Int32)), .val (.ref o), .val (.ref en0), .val (.ref en1), .val (.ref en2), .val (.ref en0), .val (.int (0 : Int32)), .val (.ref en1), .val (.ref en2), .unset, .unset] [(.ref o)])) _
      exact kt
    obtain ⟨cq11, kq11, q11a, q11b, q11c⟩ := isOf hZ rfl E_o
    obtain ⟨_, _, ⟨T11, L11, k11, n11⟩, -, X11, ⟨Lc11, hQ11, l11, y11, z11⟩, st11⟩ := X10.virtualBack hx (y := (⟨"com/example/round_table/roundtable/engine/OrderList", "last", "()Lcom/example/round_table/roundtable/engine/OrderList$Entry;"⟩ : MethodName)) (z := (⟨"com/example/round_table/roundtable/engine/OrderList", "last", "()Lcom/example/round_table/roundtable/engine/OrderList$Entry;"⟩ : MethodName)) hown (mvT hZ (hw _ (List.mem_of_getElem? (i := 58) rfl))) (mvT hZ (hw _ (List.mem_of_getElem? (i := 33) rfl))) (notFace_of_selects (args := #[]) (mvT hZ (hw _ (List.mem_of_getElem? (i := 35) rfl)))) (mvT hZ (hw _ (List.mem_of_getElem? (i := 35) rfl))) (mvT hZ (hw _ (List.mem_of_getElem? (i := 34) rfl))) (by decide) (backOf (W := 0) (rm_lastE l Z a0 hw [] o hd T10.heap n0 Z10 F_head_o F_last_o) hZ (hw _ (List.mem_of_getElem? (i := 36) rfl)) (hw _ (List.mem_of_getElem? (i := 3) rfl)) (by decide) (by decide)) q11a q11c (g := (mkF m 173 #[.val (.int x0), .val (.int x1), .val (.int x2), .val (.int bits), .val (.int (1 : Int32)), .val (.int (0 : Int32)), .val (.ref o), .val (.ref en0), .val (.ref en1), .val (.ref en2), .val (.ref en0), .val (.int (0 : Int32)), .val (.ref en1), .val (.ref en2), .unset, .unset] [(.ref o)])) rfl (by rw [hml]; rfl) (Steps.refl _) (argsL := []) (rest := []) (lenOf pd_2 rfl) rfl (by show 2 * 0 + _ ≤ _; exact Nat.le_of_eq rfl) (hb hby at_173) (fun _ _ => ⟨rfl, rfl, (by decide : 5 + 0 ≤ _), (by decide : 16 + 0 ≤ _)⟩)
    dsimp only [Pt.U, Pt.locs, Pt.cells, Pt.slots] at X11 l11 y11 z11 st11 hQ11
    subst l11 y11 z11
    obtain ⟨rfl, N11q, e11⟩ := hQ11
    have N11 := Fr.app N10 N11q
    refine RunsTo.of (T' := T11) (g' := (mkF m 176 #[.val (.int x0), .val (.int x1), .val (.int x2), .val (.int bits), .val (.int (1 : Int32)), .val (.int (0 : Int32)), .val (.ref o), .val (.ref en0), .val (.ref en1), .val (.ref en2), .val (.ref en0), .val (.int (0 : Int32)), .val (.ref en1), .val (.ref en2), .unset, .unset] [.null])) (fun _ kt => st11.trans kt) ?_
    refine RunsTo.of (T' := T11) (g' := (mkF m 301 #[.val (.int x0), .val (.int x1), .val (.int x2), .val (.int bits), .val (.int (1 : Int32)), .val (.int (0 : Int32)), .val (.ref o), .val (.ref en0), .val (.ref en1), .val (.ref en2), .val (.ref en0), .val (.int (0 : Int32)), .val (.ref en1), .val (.ref en2), .val (.int (1 : Int32)), .unset] [(.ref en0), .null, (.ref o)])) (fun tgt_ kt => ?_) ?_
    · refine XS.ifnonnullNo X11.here hx rfl (hb hby at_176) rfl ?_
      show Steps p.tables e below (T11.setTop (mkF m 179 #[.val (.int x0), .val (.int x1), .val (.int x2), .val (.int bits), .val (.int (1 : Int32)), .val (.int (0 : Int32)), .val (.ref o), .val (.ref en0), .val (.ref en1), .val (.ref en2), .val (.ref en0), .val (.int (0 : Int32)), .val (.ref en1), .val (.ref en2), .unset, .unset] [])) _
      refine XS.iconst X11.here hx rfl (hb hby at_179) ?_
      show Steps p.tables e below (T11.setTop (mkF m 180 #[.val (.int x0), .val (.int x1), .val (.int x2), .val (.int bits), .val (.int (1 : Int32)), .val (.int (0 : Int32)), .val (.ref o), .val (.ref en0), .val (.ref en1), .val (.ref en2), .val (.ref en0), .val (.int (0 : Int32)), .val (.ref en1), .val (.ref en2), .unset, .unset] [(.int (1 : Int32))])) _
      refine XS.goto X11.here hx rfl (pc0 := 180) (pc' := 184) rfl (hb hby at_180) (by decide) (by decide) ?_
      show Steps p.tables e below (T11.setTop (mkF m 184 #[.val (.int x0), .val (.int x1), .val (.int x2), .val (.int bits), .val (.int (1 : Int32)), .val (.int (0 : Int32)), .val (.ref o), .val (.ref en0), .val (.ref en1), .val (.ref en2), .val (.ref en0), .val (.int (0 : Int32)), .val (.ref en1), .val (.ref en2), .unset, .unset] [(.int (1 : Int32))])) _
      refine XS.istore X11.here hx rfl (hb hby at_184) rfl (l' := #[.val (.int x0), .val (.int x1), .val (.int x2), .val (.int bits), .val (.int (1 : Int32)), .val (.int (0 : Int32)), .val (.ref o), .val (.ref en0), .val (.ref en1), .val (.ref en2), .val (.ref en0), .val (.int (0 : Int32)), .val (.ref en1), .val (.ref en2), .val (.int (1 : Int32)), .unset]) rfl ?_
      show Steps p.tables e below (T11.setTop (mkF m 186 #[.val (.int x0), .val (.int x1), .val (.int x2), .val (.int bits), .val (.int (1 : Int32)), .val (.int (0 : Int32)), .val (.ref o), .val (.ref en0), .val (.ref en1), .val (.ref en2), .val (.ref en0), .val (.int (0 : Int32)), .val (.ref en1), .val (.ref en2), .val (.int (1 : Int32)), .unset] [])) _
      refine XS.goto X11.here hx rfl (pc0 := 186) (pc' := 296) rfl (hb hby at_186) (by decide) (by decide) ?_
      show Steps p.tables e below (T11.setTop (mkF m 296 #[.val (.int x0), .val (.int x1), .val (.int x2), .val (.int bits), .val (.int (1 : Int32)), .val (.int (0 : Int32)), .val (.ref o), .val (.ref en0), .val (.ref en1), .val (.ref en2), .val (.ref en0), .val (.int (0 : Int32)), .val (.ref en1), .val (.ref en2), .val (.int (1 : Int32)), .unset] [])) _
      refine XS.aload X11.here hx rfl (hb hby at_296) rfl rfl ?_
      show Steps p.tables e below (T11.setTop (mkF m 298 #[.val (.int x0), .val (.int x1), .val (.int x2), .val (.int bits), .val (.int (1 : Int32)), .val (.int (0 : Int32)), .val (.ref o), .val (.ref en0), .val (.ref en1), .val (.ref en2), .val (.ref en0), .val (.int (0 : Int32)), .val (.ref en1), .val (.ref en2), .val (.int (1 : Int32)), .unset] [(.ref o)])) _
      refine XS.aconstNull X11.here hx rfl (hb hby at_298) ?_
      show Steps p.tables e below (T11.setTop (mkF m 299 #[.val (.int x0), .val (.int x1), .val (.int x2), .val (.int bits), .val (.int (1 : Int32)), .val (.int (0 : Int32)), .val (.ref o), .val (.ref en0), .val (.ref en1), .val (.ref en2), .val (.ref en0), .val (.int (0 : Int32)), .val (.ref en1), .val (.ref en2), .val (.int (1 : Int32)), .unset] [.null, (.ref o)])) _
      refine XS.aload X11.here hx rfl (hb hby at_299) rfl rfl ?_
      show Steps p.tables e below (T11.setTop (mkF m 301 #[.val (.int x0), .val (.int x1), .val (.int x2), .val (.int bits), .val (.int (1 : Int32)), .val (.int (0 : Int32)), .val (.ref o), .val (.ref en0), .val (.ref en1), .val (.ref en2), .val (.ref en0), .val (.int (0 : Int32)), .val (.ref en1), .val (.ref en2), .val (.int (1 : Int32)), .unset] [(.ref en0), .null, (.ref o)])) _
      exact kt
    obtain ⟨cq12, kq12, q12a, q12b, q12c⟩ := isOf hZ e11 E_o
    obtain ⟨_, _, ⟨T12, L12, k12, n12⟩, -, X12, ⟨Lc12, hQ12, l12, y12, z12⟩, st12⟩ := X11.virtualBack hx (y := (⟨"com/example/round_table/roundtable/engine/OrderList", "insertAfter", "(Lcom/example/round_table/roundtable/engine/OrderList$Entry;Lcom/example/round_table/roundtable/engine/OrderList$Entry;)V"⟩ : MethodName)) (z := (⟨"com/example/round_table/roundtable/engine/OrderList", "insertAfter", "(Lcom/example/round_table/roundtable/engine/OrderList$Entry;Lcom/example/round_table/roundtable/engine/OrderList$Entry;)V"⟩ : MethodName)) hown (mvT hZ (hw _ (List.mem_of_getElem? (i := 59) rfl))) (mvT hZ (hw _ (List.mem_of_getElem? (i := 38) rfl))) (notFace_of_selects (args := #[]) (mvT hZ (hw _ (List.mem_of_getElem? (i := 40) rfl)))) (mvT hZ (hw _ (List.mem_of_getElem? (i := 40) rfl))) (mvT hZ (hw _ (List.mem_of_getElem? (i := 39) rfl))) (by decide) (backOf (W := 0) (rm_insE l Z a0 hw [] o en0 hd bits eg RR 0 lab_en0 T10.heap n0 Z10 E_o g_o F_head_o F_last_o F_labelBits_o F_endGap_o E_hd g_hd F_label_hd F_previous_hd F_next_hd E_en0 g_en0 F_label_en0 F_previous_en0 F_next_en0 ne_o_hd ne_o_en0 ne_hd_en0 hRR hR heg (by omega) (by omega)) hZ (hw _ (List.mem_of_getElem? (i := 41) rfl)) (hw _ (List.mem_of_getElem? (i := 3) rfl)) (by decide) (by decide)) q12a q12c (g := (mkF m 301 #[.val (.int x0), .val (.int x1), .val (.int x2), .val (.int bits), .val (.int (1 : Int32)), .val (.int (0 : Int32)), .val (.ref o), .val (.ref en0), .val (.ref en1), .val (.ref en2), .val (.ref en0), .val (.int (0 : Int32)), .val (.ref en1), .val (.ref en2), .val (.int (1 : Int32)), .unset] [(.ref en0), .null, (.ref o)])) rfl (by rw [hml]; rfl) (Steps.refl _) (argsL := [.null, (.ref en0)]) (rest := []) (lenOf pd_3 rfl) rfl (by show 2 * 0 + _ ≤ _; exact Nat.le_of_eq rfl) (hb hby at_301) (fun _ _ => ⟨rfl, e11, (by decide : 5 + 0 ≤ _), (by decide : 16 + 0 ≤ _)⟩)
    dsimp only [Pt.U, Pt.locs, Pt.cells, Pt.slots] at X12 l12 y12 z12 st12 hQ12
    subst l12 y12 z12
    obtain ⟨labz, rfl, N12q, K12, F_head_o, F_last_o, F_labelBits_o, F_endGap_o, F_label_hd, F_previous_hd, F_next_hd, F_label_en0, F_previous_en0, F_next_en0, hbz1, hbz2, hbz3⟩ := hQ12
    have N12 := Fr.app N11 N12q
    have Z12 : n0 ≤ T12.heap.size := Nat.le_trans Z10 K12.1
    have E_o := E_o.keep K12
    have E_hd := E_hd.keep K12
    have E_en0 := E_en0.keep K12
    have F_next_en1 := F_next_en1.keep K12 (ninS (Ne.symm ne_o_en1) (ninS (Ne.symm ne_hd_en1) (ninS (Ne.symm ne_en0_en1) nin0)))
    have F_previous_en1 := F_previous_en1.keep K12 (ninS (Ne.symm ne_o_en1) (ninS (Ne.symm ne_hd_en1) (ninS (Ne.symm ne_en0_en1) nin0)))
    have F_label_en1 := F_label_en1.keep K12 (ninS (Ne.symm ne_o_en1) (ninS (Ne.symm ne_hd_en1) (ninS (Ne.symm ne_en0_en1) nin0)))
    have E_en1 := E_en1.keep K12
    have F_next_en2 := F_next_en2.keep K12 (ninS (Ne.symm ne_o_en2) (ninS (Ne.symm ne_hd_en2) (ninS (Ne.symm ne_en0_en2) nin0)))
    have F_previous_en2 := F_previous_en2.keep K12 (ninS (Ne.symm ne_o_en2) (ninS (Ne.symm ne_hd_en2) (ninS (Ne.symm ne_en0_en2) nin0)))
    have F_label_en2 := F_label_en2.keep K12 (ninS (Ne.symm ne_o_en2) (ninS (Ne.symm ne_hd_en2) (ninS (Ne.symm ne_en0_en2) nin0)))
    have E_en2 := E_en2.keep K12
    refine RunsTo.of (T' := T12) (g' := (mkF m 304 #[.val (.int x0), .val (.int x1), .val (.int x2), .val (.int bits), .val (.int (1 : Int32)), .val (.int (0 : Int32)), .val (.ref o), .val (.ref en0), .val (.ref en1), .val (.ref en2), .val (.ref en0), .val (.int (0 : Int32)), .val (.ref en1), .val (.ref en2), .val (.int (1 : Int32)), .unset] [])) (fun _ kt => st12.trans kt) ?_
    refine RunsTo.of (T' := T12) (g' := (mkF m 326 #[.val (.int x0), .val (.int x1), .val (.int x2), .val (.int bits), .val (.int (1 : Int32)), .val (.int (0 : Int32)), .val (.ref o), .val (.ref en0), .val (.ref en1), .val (.ref en2), .val (.ref en0), .val (.int (0 : Int32)), .val (.ref en1), .val (.ref en2), .val (.int (1 : Int32)), .val .null] [(.ref en0), (.ref o)])) (fun tgt_ kt => ?_) ?_
    · refine XS.iload X12.here hx rfl (hb hby at_304) rfl ?_
      show Steps p.tables e below (T12.setTop (mkF m 306 #[.val (.int x0), .val (.int x1), .val (.int x2), .val (.int bits), .val (.int (1 : Int32)), .val (.int (0 : Int32)), .val (.ref o), .val (.ref en0), .val (.ref en1), .val (.ref en2), .val (.ref en0), .val (.int (0 : Int32)), .val (.ref en1), .val (.ref en2), .val (.int (1 : Int32)), .unset] [(.int (0 : Int32))])) _
      refine XS.ifNo X12.here hx rfl (hb hby at_306) rfl ((if0 _ _).trans (teq rfl).2) ?_
      show Steps p.tables e below (T12.setTop (mkF m 309 #[.val (.int x0), .val (.int x1), .val (.int x2), .val (.int bits), .val (.int (1 : Int32)), .val (.int (0 : Int32)), .val (.ref o), .val (.ref en0), .val (.ref en1), .val (.ref en2), .val (.ref en0), .val (.int (0 : Int32)), .val (.ref en1), .val (.ref en2), .val (.int (1 : Int32)), .unset] [])) _
      refine XS.aconstNull X12.here hx rfl (hb hby at_309) ?_
      show Steps p.tables e below (T12.setTop (mkF m 310 #[.val (.int x0), .val (.int x1), .val (.int x2), .val (.int bits), .val (.int (1 : Int32)), .val (.int (0 : Int32)), .val (.ref o), .val (.ref en0), .val (.ref en1), .val (.ref en2), .val (.ref en0), .val (.int (0 : Int32)), .val (.ref en1), .val (.ref en2), .val (.int (1 : Int32)), .unset] [.null])) _
      refine XS.goto X12.here hx rfl (pc0 := 310) (pc' := 315) rfl (hb hby at_310) (by decide) (by decide) ?_
      show Steps p.tables e below (T12.setTop (mkF m 315 #[.val (.int x0), .val (.int x1), .val (.int x2), .val (.int bits), .val (.int (1 : Int32)), .val (.int (0 : Int32)), .val (.ref o), .val (.ref en0), .val (.ref en1), .val (.ref en2), .val (.ref en0), .val (.int (0 : Int32)), .val (.ref en1), .val (.ref en2), .val (.int (1 : Int32)), .unset] [.null])) _
      refine XS.astore X12.here hx rfl (hb hby at_315) rfl rfl (l' := #[.val (.int x0), .val (.int x1), .val (.int x2), .val (.int bits), .val (.int (1 : Int32)), .val (.int (0 : Int32)), .val (.ref o), .val (.ref en0), .val (.ref en1), .val (.ref en2), .val (.ref en0), .val (.int (0 : Int32)), .val (.ref en1), .val (.ref en2), .val (.int (1 : Int32)), .val .null]) rfl ?_
      show Steps p.tables e below (T12.setTop (mkF m 317 #[.val (.int x0), .val (.int x1), .val (.int x2), .val (.int bits), .val (.int (1 : Int32)), .val (.int (0 : Int32)), .val (.ref o), .val (.ref en0), .val (.ref en1), .val (.ref en2), .val (.ref en0), .val (.int (0 : Int32)), .val (.ref en1), .val (.ref en2), .val (.int (1 : Int32)), .val .null] [])) _
      refine XS.iload X12.here hx rfl (hb hby at_317) rfl ?_
      show Steps p.tables e below (T12.setTop (mkF m 319 #[.val (.int x0), .val (.int x1), .val (.int x2), .val (.int bits), .val (.int (1 : Int32)), .val (.int (0 : Int32)), .val (.ref o), .val (.ref en0), .val (.ref en1), .val (.ref en2), .val (.ref en0), .val (.int (0 : Int32)), .val (.ref en1), .val (.ref en2), .val (.int (1 : Int32)), .val .null] [(.int (1 : Int32))])) _
      refine XS.ifNo X12.here hx rfl (hb hby at_319) rfl ((if0 _ _).trans (feq (by decide)).1) ?_
      show Steps p.tables e below (T12.setTop (mkF m 322 #[.val (.int x0), .val (.int x1), .val (.int x2), .val (.int bits), .val (.int (1 : Int32)), .val (.int (0 : Int32)), .val (.ref o), .val (.ref en0), .val (.ref en1), .val (.ref en2), .val (.ref en0), .val (.int (0 : Int32)), .val (.ref en1), .val (.ref en2), .val (.int (1 : Int32)), .val .null] [])) _
      refine XS.aload X12.here hx rfl (hb hby at_322) rfl rfl ?_
      show Steps p.tables e below (T12.setTop (mkF m 324 #[.val (.int x0), .val (.int x1), .val (.int x2), .val (.int bits), .val (.int (1 : Int32)), .val (.int (0 : Int32)), .val (.ref o), .val (.ref en0), .val (.ref en1), .val (.ref en2), .val (.ref en0), .val (.int (0 : Int32)), .val (.ref en1), .val (.ref en2), .val (.int (1 : Int32)), .val .null] [(.ref o)])) _
      refine XS.aload X12.here hx rfl (hb hby at_324) rfl rfl ?_
      show Steps p.tables e below (T12.setTop (mkF m 326 #[.val (.int x0), .val (.int x1), .val (.int x2), .val (.int bits), .val (.int (1 : Int32)), .val (.int (0 : Int32)), .val (.ref o), .val (.ref en0), .val (.ref en1), .val (.ref en2), .val (.ref en0), .val (.int (0 : Int32)), .val (.ref en1), .val (.ref en2), .val (.int (1 : Int32)), .val .null] [(.ref en0), (.ref o)])) _
      exact kt
    obtain ⟨cq13, kq13, q13a, q13b, q13c⟩ := isOf hZ rfl E_o
    obtain ⟨_, _, ⟨T13, L13, k13, n13⟩, -, X13, ⟨Lc13, hQ13, l13, y13, z13⟩, st13⟩ := X12.virtualBack hx (y := (⟨"com/example/round_table/roundtable/engine/OrderList", "next", "(Lcom/example/round_table/roundtable/engine/OrderList$Entry;)Lcom/example/round_table/roundtable/engine/OrderList$Entry;"⟩ : MethodName)) (z := (⟨"com/example/round_table/roundtable/engine/OrderList", "next", "(Lcom/example/round_table/roundtable/engine/OrderList$Entry;)Lcom/example/round_table/roundtable/engine/OrderList$Entry;"⟩ : MethodName)) hown (mvT hZ (hw _ (List.mem_of_getElem? (i := 60) rfl))) (mvT hZ (hw _ (List.mem_of_getElem? (i := 61) rfl))) (notFace_of_selects (args := #[]) (mvT hZ (hw _ (List.mem_of_getElem? (i := 63) rfl)))) (mvT hZ (hw _ (List.mem_of_getElem? (i := 63) rfl))) (mvT hZ (hw _ (List.mem_of_getElem? (i := 62) rfl))) (by decide) (backOf (W := 0) (rm9 l Z a0 hw [] o en0 .null rfl T12.heap n0 Z12 F_next_en0) hZ (hw _ (List.mem_of_getElem? (i := 64) rfl)) (hw _ (List.mem_of_getElem? (i := 3) rfl)) (by decide) (by decide)) q13a q13c (g := (mkF m 326 #[.val (.int x0), .val (.int x1), .val (.int x2), .val (.int bits), .val (.int (1 : Int32)), .val (.int (0 : Int32)), .val (.ref o), .val (.ref en0), .val (.ref en1), .val (.ref en2), .val (.ref en0), .val (.int (0 : Int32)), .val (.ref en1), .val (.ref en2), .val (.int (1 : Int32)), .val .null] [(.ref en0), (.ref o)])) rfl (by rw [hml]; rfl) (Steps.refl _) (argsL := [(.ref en0)]) (rest := []) (lenOf pd_6 rfl) rfl (by show 2 * 0 + _ ≤ _; exact Nat.le_of_eq rfl) (hb hby at_326) (fun _ _ => ⟨rfl, rfl, (by decide : 5 + 0 ≤ _), (by decide : 16 + 0 ≤ _)⟩)
    dsimp only [Pt.U, Pt.locs, Pt.cells, Pt.slots] at X13 l13 y13 z13 st13 hQ13
    subst l13 y13 z13
    obtain ⟨rfl, N13q, e13⟩ := hQ13
    have N13 := Fr.app N12 N13q
    refine RunsTo.of (T' := T13) (g' := (mkF m 329 #[.val (.int x0), .val (.int x1), .val (.int x2), .val (.int bits), .val (.int (1 : Int32)), .val (.int (0 : Int32)), .val (.ref o), .val (.ref en0), .val (.ref en1), .val (.ref en2), .val (.ref en0), .val (.int (0 : Int32)), .val (.ref en1), .val (.ref en2), .val (.int (1 : Int32)), .val .null] [.null])) (fun _ kt => st13.trans kt) ?_
    refine RunsTo.of (T' := T13) (g' := (mkF m 343 #[.val (.int x0), .val (.int x1), .val (.int x2), .val (.int bits), .val (.int (1 : Int32)), .val (.int (0 : Int32)), .val (.ref o), .val (.ref en0), .val (.ref en1), .val (.ref en2), .val (.ref en0), .val (.int (0 : Int32)), .val (.ref en1), .val (.ref en2), .val (.int (1 : Int32)), .val .null] [(.int (1 : Int32))])) (fun tgt_ kt => ?_) ?_
    · refine XS.aload X13.here hx rfl (hb hby at_329) rfl rfl ?_
      show Steps p.tables e below (T13.setTop (mkF m 331 #[.val (.int x0), .val (.int x1), .val (.int x2), .val (.int bits), .val (.int (1 : Int32)), .val (.int (0 : Int32)), .val (.ref o), .val (.ref en0), .val (.ref en1), .val (.ref en2), .val (.ref en0), .val (.int (0 : Int32)), .val (.ref en1), .val (.ref en2), .val (.int (1 : Int32)), .val .null] [.null, .null])) _
      refine Jvm.RoadKit.acmp (g := (mkF m 331 #[.val (.int x0), .val (.int x1), .val (.int x2), .val (.int bits), .val (.int (1 : Int32)), .val (.int (0 : Int32)), .val (.ref o), .val (.ref en0), .val (.ref en1), .val (.ref en2), .val (.ref en0), .val (.int (0 : Int32)), .val (.ref en1), .val (.ref en2), .val (.int (1 : Int32)), .val .null] [.null, .null])) X13 hx rfl rfl rfl (pc0 := 331) (pc' := 334) (same := true) rfl (hb hby at_331) rfl (decide_eq_true rfl) (by decide) (by decide) ?_
      show Steps p.tables e below (T13.setTop (mkF m 334 #[.val (.int x0), .val (.int x1), .val (.int x2), .val (.int bits), .val (.int (1 : Int32)), .val (.int (0 : Int32)), .val (.ref o), .val (.ref en0), .val (.ref en1), .val (.ref en2), .val (.ref en0), .val (.int (0 : Int32)), .val (.ref en1), .val (.ref en2), .val (.int (1 : Int32)), .val .null] [])) _
      refine XS.iconst X13.here hx rfl (hb hby at_334) ?_
      show Steps p.tables e below (T13.setTop (mkF m 335 #[.val (.int x0), .val (.int x1), .val (.int x2), .val (.int bits), .val (.int (1 : Int32)), .val (.int (0 : Int32)), .val (.ref o), .val (.ref en0), .val (.ref en1), .val (.ref en2), .val (.ref en0), .val (.int (0 : Int32)), .val (.ref en1), .val (.ref en2), .val (.int (1 : Int32)), .val .null] [(.int (1 : Int32))])) _
      refine XS.goto X13.here hx rfl (pc0 := 335) (pc' := 339) rfl (hb hby at_335) (by decide) (by decide) ?_
      show Steps p.tables e below (T13.setTop (mkF m 339 #[.val (.int x0), .val (.int x1), .val (.int x2), .val (.int bits), .val (.int (1 : Int32)), .val (.int (0 : Int32)), .val (.ref o), .val (.ref en0), .val (.ref en1), .val (.ref en2), .val (.ref en0), .val (.int (0 : Int32)), .val (.ref en1), .val (.ref en2), .val (.int (1 : Int32)), .val .null] [(.int (1 : Int32))])) _
      refine XS.istore X13.here hx rfl (hb hby at_339) rfl (l' := #[.val (.int x0), .val (.int x1), .val (.int x2), .val (.int bits), .val (.int (1 : Int32)), .val (.int (0 : Int32)), .val (.ref o), .val (.ref en0), .val (.ref en1), .val (.ref en2), .val (.ref en0), .val (.int (0 : Int32)), .val (.ref en1), .val (.ref en2), .val (.int (1 : Int32)), .val .null]) rfl ?_
      show Steps p.tables e below (T13.setTop (mkF m 341 #[.val (.int x0), .val (.int x1), .val (.int x2), .val (.int bits), .val (.int (1 : Int32)), .val (.int (0 : Int32)), .val (.ref o), .val (.ref en0), .val (.ref en1), .val (.ref en2), .val (.ref en0), .val (.int (0 : Int32)), .val (.ref en1), .val (.ref en2), .val (.int (1 : Int32)), .val .null] [])) _
      refine XS.iload X13.here hx rfl (hb hby at_341) rfl ?_
      show Steps p.tables e below (T13.setTop (mkF m 343 #[.val (.int x0), .val (.int x1), .val (.int x2), .val (.int bits), .val (.int (1 : Int32)), .val (.int (0 : Int32)), .val (.ref o), .val (.ref en0), .val (.ref en1), .val (.ref en2), .val (.ref en0), .val (.int (0 : Int32)), .val (.ref en1), .val (.ref en2), .val (.int (1 : Int32)), .val .null] [(.int (1 : Int32))])) _
      exact kt
    refine RunsTo.retN X13 hx (t := .boolean) Bd.returns (by simp) Bd.notSynchronized (hb hby at_343) ?_ (by decide) (by decide)
    rw [e13]
    exact ⟨rfl, N13⟩
  · refine RunsTo.of (T' := s₁) (g' := (mkF m 29 #[.val (.int x0), .val (.int x1), .val (.int x2), .val (.int bits), .val (.int (2 : Int32)), .val (.int ((x2 &&& (2147483647 : Int32)) % (2 : Int32))), .unset, .unset, .unset, .unset, .unset, .unset, .unset, .unset, .unset, .unset] [])) (fun tgt_ kt => ?_) ?_
    · refine XS.iloadN X0.here hx rfl (hb hby at_20) rfl ?_
      show Steps p.tables e below (s₁.setTop (mkF m 21 #[.val (.int x0), .val (.int x1), .val (.int x2), .val (.int bits), .val (.int (2 : Int32)), .unset, .unset, .unset, .unset, .unset, .unset, .unset, .unset, .unset, .unset, .unset] [(.int x2)])) _
      refine X0.ldcInt hx hown (mvT hZ (hw _ (List.mem_of_getElem? (i := 0) rfl))) (g := (mkF m 21 #[.val (.int x0), .val (.int x1), .val (.int x2), .val (.int bits), .val (.int (2 : Int32)), .unset, .unset, .unset, .unset, .unset, .unset, .unset, .unset, .unset, .unset, .unset] [(.int x2)])) rfl (hb hby at_21) _ ?_
      show Steps p.tables e below (s₁.setTop (mkF m 23 #[.val (.int x0), .val (.int x1), .val (.int x2), .val (.int bits), .val (.int (2 : Int32)), .unset, .unset, .unset, .unset, .unset, .unset, .unset, .unset, .unset, .unset, .unset] [(.int (2147483647 : Int32)), (.int x2)])) _
      refine XS.iand X0.here hx rfl (hb hby at_23) rfl ?_
      show Steps p.tables e below (s₁.setTop (mkF m 24 #[.val (.int x0), .val (.int x1), .val (.int x2), .val (.int bits), .val (.int (2 : Int32)), .unset, .unset, .unset, .unset, .unset, .unset, .unset, .unset, .unset, .unset, .unset] [(.int (x2 &&& (2147483647 : Int32)))])) _
      refine XS.iload X0.here hx rfl (hb hby at_24) rfl ?_
      show Steps p.tables e below (s₁.setTop (mkF m 26 #[.val (.int x0), .val (.int x1), .val (.int x2), .val (.int bits), .val (.int (2 : Int32)), .unset, .unset, .unset, .unset, .unset, .unset, .unset, .unset, .unset, .unset, .unset] [(.int (2 : Int32)), (.int (x2 &&& (2147483647 : Int32)))])) _
      refine XS.irem X0.here hx rfl (hb hby at_26) rfl (by decide) ?_
      rw [irem_eq_mod]
      show Steps p.tables e below (s₁.setTop (mkF m 27 #[.val (.int x0), .val (.int x1), .val (.int x2), .val (.int bits), .val (.int (2 : Int32)), .unset, .unset, .unset, .unset, .unset, .unset, .unset, .unset, .unset, .unset, .unset] [(.int ((x2 &&& (2147483647 : Int32)) % (2 : Int32)))])) _
      refine XS.istore X0.here hx rfl (hb hby at_27) rfl (l' := #[.val (.int x0), .val (.int x1), .val (.int x2), .val (.int bits), .val (.int (2 : Int32)), .val (.int ((x2 &&& (2147483647 : Int32)) % (2 : Int32))), .unset, .unset, .unset, .unset, .unset, .unset, .unset, .unset, .unset, .unset]) rfl ?_
      show Steps p.tables e below (s₁.setTop (mkF m 29 #[.val (.int x0), .val (.int x1), .val (.int x2), .val (.int bits), .val (.int (2 : Int32)), .val (.int ((x2 &&& (2147483647 : Int32)) % (2 : Int32))), .unset, .unset, .unset, .unset, .unset, .unset, .unset, .unset, .unset, .unset] [])) _
      exact kt
    obtain ⟨kk, hkk⟩ : ∃ z : Int32, z = ((x2 &&& (2147483647 : Int32)) % (2 : Int32)) := ⟨_, rfl⟩
    rw [← hkk]
    have hk : kk = 0 ∨ kk = 1 := by rw [hkk]; exact own_k2 x2
    clear hkk
    rcases hk with rfl | rfl
    · obtain ⟨T14, h14, X14, e14, E14, A14, D14, -, st14⟩ := newO X0 hx hZ hown (hw _ (List.mem_of_getElem? (i := 1) rfl)) (hw _ (List.mem_of_getElem? (i := 2) rfl)) (hw _ (List.mem_of_getElem? (i := 3) rfl)) e0 (g := (mkF m 29 #[.val (.int x0), .val (.int x1), .val (.int x2), .val (.int bits), .val (.int (2 : Int32)), .val (.int (0 : Int32)), .unset, .unset, .unset, .unset, .unset, .unset, .unset, .unset, .unset, .unset] [])) rfl (hb hby at_29) (by decide) (by decide)
      obtain ⟨o, g14⟩ : ∃ z, z = h0.size := ⟨_, rfl⟩
      rw [← g14] at A14 D14 st14
      have Z14 : n0 ≤ h14.size := Nat.le_trans Z0 E14.1
      have g_o : n0 ≤ o := Nat.le_trans Z0 (Nat.le_of_eq g14.symm)
      have F_head_o : Fld Z h14 o "com/example/round_table/roundtable/engine/OrderList" "head" "Lcom/example/round_table/roundtable/engine/OrderList$Entry;" .null := D14 (Or.inr (hw _ (List.mem_of_getElem? (i := 18) rfl))) (ty := (.object "com/example/round_table/roundtable/engine/OrderList$Entry")) (by decide)
      have F_last_o : Fld Z h14 o "com/example/round_table/roundtable/engine/OrderList" "last" "Lcom/example/round_table/roundtable/engine/OrderList$Entry;" .null := D14 (Or.inl (hw _ (List.mem_of_getElem? (i := 20) rfl))) (ty := (.object "com/example/round_table/roundtable/engine/OrderList$Entry")) (by decide)
      have F_labelBits_o : Fld Z h14 o "com/example/round_table/roundtable/engine/OrderList" "labelBits" "I" (.int (0 : Int32)) := D14 (Or.inr (hw _ (List.mem_of_getElem? (i := 22) rfl))) (ty := .int) (by decide)
      have F_endGap_o : Fld Z h14 o "com/example/round_table/roundtable/engine/OrderList" "endGap" "J" (.long (0 : Int64)) := D14 (Or.inr (hw _ (List.mem_of_getElem? (i := 24) rfl))) (ty := .long) (by decide)
      have E_o : Exa Z h14 o "com/example/round_table/roundtable/engine/OrderList" := A14
      refine RunsTo.of (T' := T14) (g' := (mkF m 32 #[.val (.int x0), .val (.int x1), .val (.int x2), .val (.int bits), .val (.int (2 : Int32)), .val (.int (0 : Int32)), .unset, .unset, .unset, .unset, .unset, .unset, .unset, .unset, .unset, .unset] [(.ref o)])) st14 ?_
      have lt_o := E_o.lt
      refine RunsTo.of (T' := T14) (g' := (mkF m 34 #[.val (.int x0), .val (.int x1), .val (.int x2), .val (.int bits), .val (.int (2 : Int32)), .val (.int (0 : Int32)), .unset, .unset, .unset, .unset, .unset, .unset, .unset, .unset, .unset, .unset] [(.int bits), (.ref o), (.ref o)])) (fun tgt_ kt => ?_) ?_
      · refine XS.dup X14.here hx rfl (hb hby at_32) rfl rfl ?_
        show Steps p.tables e below (T14.setTop (mkF m 33 #[.val (.int x0), .val (.int x1), .val (.int x2), .val (.int bits), .val (.int (2 : Int32)), .val (.int (0 : Int32)), .unset, .unset, .unset, .unset, .unset, .unset, .unset, .unset, .unset, .unset] [(.ref o), (.ref o)])) _
        refine XS.iloadN X14.here hx rfl (hb hby at_33) rfl ?_
        show Steps p.tables e below (T14.setTop (mkF m 34 #[.val (.int x0), .val (.int x1), .val (.int x2), .val (.int bits), .val (.int (2 : Int32)), .val (.int (0 : Int32)), .unset, .unset, .unset, .unset, .unset, .unset, .unset, .unset, .unset, .unset] [(.int bits), (.ref o), (.ref o)])) _
        exact kt
      obtain ⟨_, _, ⟨T15, L15, k15, n15⟩, -, X15, ⟨Lc15, hQ15, l15, y15, z15⟩, st15⟩ := X14.specialBack hx (y := (⟨"com/example/round_table/roundtable/engine/OrderList", "<init>", "(I)V"⟩ : MethodName)) rfl hown (mvT hZ (hw _ (List.mem_of_getElem? (i := 4) rfl))) (mvT hZ (hw _ (List.mem_of_getElem? (i := 5) rfl))) (mvT hZ (hw _ (List.mem_of_getElem? (i := 6) rfl))) (by decide) (backOf (W := 1) (rm1 l Z a0 hw [] o bits h14 n0 Z14 E_o g_o F_head_o F_last_o F_labelBits_o F_endGap_o hbits) hZ (hw _ (List.mem_of_getElem? (i := 6) rfl)) (hw _ (List.mem_of_getElem? (i := 3) rfl)) (by decide) (by decide)) (g := (mkF m 34 #[.val (.int x0), .val (.int x1), .val (.int x2), .val (.int bits), .val (.int (2 : Int32)), .val (.int (0 : Int32)), .unset, .unset, .unset, .unset, .unset, .unset, .unset, .unset, .unset, .unset] [(.int bits), (.ref o), (.ref o)])) rfl (by rw [hml]; rfl) (Steps.refl _) (a := o) (argsL := [(.int bits)]) (rest := [(.ref o)]) (lenOf pd_4 rfl) rfl (by show 2 * 0 + _ ≤ _; exact Nat.le_of_eq rfl) (hb hby at_34) (fun _ _ => ⟨rfl, e14, (by decide : 1 + 1 ≤ _), (by decide : 4 + 3 ≤ _)⟩)
      dsimp only [Pt.U, Pt.locs, Pt.cells, Pt.slots] at X15 l15 y15 z15 st15 hQ15
      subst l15 y15 z15
      obtain ⟨hd, rfl, N15q, g_hd, sz_hd, K15, F_head_o, F_last_o, F_labelBits_o, F_endGap_o, E_hd, F_label_hd, F_previous_hd, F_next_hd⟩ := hQ15
      have N15 := Fr.app N0 N15q
      have Z15 : n0 ≤ T15.heap.size := Nat.le_trans Z14 K15.1
      have E_o := E_o.keep K15
      rw [← heg'] at F_endGap_o
      have ne_o_hd : o ≠ hd := Nat.ne_of_lt (Nat.lt_of_lt_of_le lt_o sz_hd)
      refine RunsTo.of (T' := T15) (g' := (mkF m 37 #[.val (.int x0), .val (.int x1), .val (.int x2), .val (.int bits), .val (.int (2 : Int32)), .val (.int (0 : Int32)), .unset, .unset, .unset, .unset, .unset, .unset, .unset, .unset, .unset, .unset] [(.ref o)])) (fun _ kt => st15.trans kt) ?_
      refine RunsTo.of (T' := T15) (g' := (mkF m 39 #[.val (.int x0), .val (.int x1), .val (.int x2), .val (.int bits), .val (.int (2 : Int32)), .val (.int (0 : Int32)), .val (.ref o), .unset, .unset, .unset, .unset, .unset, .unset, .unset, .unset, .unset] [])) (fun tgt_ kt => ?_) ?_
      · refine XS.astore X15.here hx rfl (hb hby at_37) rfl rfl (l' := #[.val (.int x0), .val (.int x1), .val (.int x2), .val (.int bits), .val (.int (2 : Int32)), .val (.int (0 : Int32)), .val (.ref o), .unset, .unset, .unset, .unset, .unset, .unset, .unset, .unset, .unset]) rfl ?_
        show Steps p.tables e below (T15.setTop (mkF m 39 #[.val (.int x0), .val (.int x1), .val (.int x2), .val (.int bits), .val (.int (2 : Int32)), .val (.int (0 : Int32)), .val (.ref o), .unset, .unset, .unset, .unset, .unset, .unset, .unset, .unset, .unset] [])) _
        exact kt
      obtain ⟨T16, h16, X16, e16, E16, A16, D16, -, st16⟩ := newO X15 hx hZ hown (hw _ (List.mem_of_getElem? (i := 25) rfl)) (hw _ (List.mem_of_getElem? (i := 11) rfl)) (hw _ (List.mem_of_getElem? (i := 12) rfl)) rfl (g := (mkF m 39 #[.val (.int x0), .val (.int x1), .val (.int x2), .val (.int bits), .val (.int (2 : Int32)), .val (.int (0 : Int32)), .val (.ref o), .unset, .unset, .unset, .unset, .unset, .unset, .unset, .unset, .unset] [])) rfl (hb hby at_39) (by decide) (by decide)
      obtain ⟨en0, g16⟩ : ∃ z, z = T15.heap.size := ⟨_, rfl⟩
      rw [← g16] at A16 D16 st16
      have Z16 : n0 ≤ h16.size := Nat.le_trans Z15 E16.1
      have g_en0 : n0 ≤ en0 := Nat.le_trans Z15 (Nat.le_of_eq g16.symm)
      have ne_o_en0 : o ≠ en0 := Nat.ne_of_lt (Nat.lt_of_lt_of_le E_o.lt (Nat.le_of_eq g16.symm))
      have ne_hd_en0 : hd ≠ en0 := Nat.ne_of_lt (Nat.lt_of_lt_of_le F_label_hd.lt (Nat.le_of_eq g16.symm))
      have E_o := E_o.ext E16
      have F_head_o := F_head_o.ext E16
      have F_last_o := F_last_o.ext E16
      have F_labelBits_o := F_labelBits_o.ext E16
      have F_endGap_o := F_endGap_o.ext E16
      have F_label_hd := F_label_hd.ext E16
      have F_previous_hd := F_previous_hd.ext E16
      have F_next_hd := F_next_hd.ext E16
      have E_hd := E_hd.ext E16
      have F_next_en0 : Fld Z h16 en0 "com/example/round_table/roundtable/engine/OrderList$Entry" "next" "Lcom/example/round_table/roundtable/engine/OrderList$Entry;" .null := D16 (Or.inl (hw _ (List.mem_of_getElem? (i := 43) rfl))) (ty := (.object "com/example/round_table/roundtable/engine/OrderList$Entry")) (by decide)
      have F_previous_en0 : Fld Z h16 en0 "com/example/round_table/roundtable/engine/OrderList$Entry" "previous" "Lcom/example/round_table/roundtable/engine/OrderList$Entry;" .null := D16 (Or.inl (hw _ (List.mem_of_getElem? (i := 45) rfl))) (ty := (.object "com/example/round_table/roundtable/engine/OrderList$Entry")) (by decide)
      have F_label_en0 : Fld Z h16 en0 "com/example/round_table/roundtable/engine/OrderList$Entry" "label" "J" (.long (0 : Int64)) := D16 (Or.inl (hw _ (List.mem_of_getElem? (i := 47) rfl))) (ty := .long) (by decide)
      have E_en0 : Exa Z h16 en0 "com/example/round_table/roundtable/engine/OrderList$Entry" := A16
      refine RunsTo.of (T' := T16) (g' := (mkF m 42 #[.val (.int x0), .val (.int x1), .val (.int x2), .val (.int bits), .val (.int (2 : Int32)), .val (.int (0 : Int32)), .val (.ref o), .unset, .unset, .unset, .unset, .unset, .unset, .unset, .unset, .unset] [(.ref en0)])) st16 ?_
      refine RunsTo.of (T' := T16) (g' := (mkF m 43 #[.val (.int x0), .val (.int x1), .val (.int x2), .val (.int bits), .val (.int (2 : Int32)), .val (.int (0 : Int32)), .val (.ref o), .unset, .unset, .unset, .unset, .unset, .unset, .unset, .unset, .unset] [(.ref en0), (.ref en0)])) (fun tgt_ kt => ?_) ?_
      · refine XS.dup X16.here hx rfl (hb hby at_42) rfl rfl ?_
        show Steps p.tables e below (T16.setTop (mkF m 43 #[.val (.int x0), .val (.int x1), .val (.int x2), .val (.int bits), .val (.int (2 : Int32)), .val (.int (0 : Int32)), .val (.ref o), .unset, .unset, .unset, .unset, .unset, .unset, .unset, .unset, .unset] [(.ref en0), (.ref en0)])) _
        exact kt
      obtain ⟨_, _, ⟨T17, L17, k17, n17⟩, -, X17, ⟨Lc17, hQ17, l17, y17, z17⟩, st17⟩ := X16.specialBack hx (y := (⟨"com/example/round_table/roundtable/engine/OrderList$Entry", "<init>", "()V"⟩ : MethodName)) rfl hown (mvT hZ (hw _ (List.mem_of_getElem? (i := 26) rfl))) (mvT hZ (hw _ (List.mem_of_getElem? (i := 14) rfl))) (mvT hZ (hw _ (List.mem_of_getElem? (i := 15) rfl))) (by decide) (backOf (W := 1) (rm3 l Z a0 hw [] en0 h16 n0 Z16 ) hZ (hw _ (List.mem_of_getElem? (i := 15) rfl)) (hw _ (List.mem_of_getElem? (i := 12) rfl)) (by decide) (by decide)) (g := (mkF m 43 #[.val (.int x0), .val (.int x1), .val (.int x2), .val (.int bits), .val (.int (2 : Int32)), .val (.int (0 : Int32)), .val (.ref o), .unset, .unset, .unset, .unset, .unset, .unset, .unset, .unset, .unset] [(.ref en0), (.ref en0)])) rfl (by rw [hml]; rfl) (Steps.refl _) (a := en0) (argsL := []) (rest := [(.ref en0)]) (lenOf pd_0 rfl) rfl (by show 2 * 0 + _ ≤ _; exact Nat.le_of_eq rfl) (hb hby at_43) (fun _ _ => ⟨rfl, e16, (by decide : 3 + 0 ≤ _), (by decide : 10 + 0 ≤ _)⟩)
      dsimp only [Pt.U, Pt.locs, Pt.cells, Pt.slots] at X17 l17 y17 z17 st17 hQ17
      subst l17 y17 z17
      obtain ⟨rfl, N17q, e17⟩ := hQ17
      have N17 := Fr.app N15 N17q
      refine RunsTo.of (T' := T17) (g' := (mkF m 46 #[.val (.int x0), .val (.int x1), .val (.int x2), .val (.int bits), .val (.int (2 : Int32)), .val (.int (0 : Int32)), .val (.ref o), .unset, .unset, .unset, .unset, .unset, .unset, .unset, .unset, .unset] [(.ref en0)])) (fun _ kt => st17.trans kt) ?_
      refine RunsTo.of (T' := T17) (g' := (mkF m 48 #[.val (.int x0), .val (.int x1), .val (.int x2), .val (.int bits), .val (.int (2 : Int32)), .val (.int (0 : Int32)), .val (.ref o), .val (.ref en0), .unset, .unset, .unset, .unset, .unset, .unset, .unset, .unset] [])) (fun tgt_ kt => ?_) ?_
      · refine XS.astore X17.here hx rfl (hb hby at_46) rfl rfl (l' := #[.val (.int x0), .val (.int x1), .val (.int x2), .val (.int bits), .val (.int (2 : Int32)), .val (.int (0 : Int32)), .val (.ref o), .val (.ref en0), .unset, .unset, .unset, .unset, .unset, .unset, .unset, .unset]) rfl ?_
        show Steps p.tables e below (T17.setTop (mkF m 48 #[.val (.int x0), .val (.int x1), .val (.int x2), .val (.int bits), .val (.int (2 : Int32)), .val (.int (0 : Int32)), .val (.ref o), .val (.ref en0), .unset, .unset, .unset, .unset, .unset, .unset, .unset, .unset] [])) _
        exact kt
      obtain ⟨T18, h18, X18, e18, E18, A18, D18, -, st18⟩ := newO X17 hx hZ hown (hw _ (List.mem_of_getElem? (i := 25) rfl)) (hw _ (List.mem_of_getElem? (i := 11) rfl)) (hw _ (List.mem_of_getElem? (i := 12) rfl)) e17 (g := (mkF m 48 #[.val (.int x0), .val (.int x1), .val (.int x2), .val (.int bits), .val (.int (2 : Int32)), .val (.int (0 : Int32)), .val (.ref o), .val (.ref en0), .unset, .unset, .unset, .unset, .unset, .unset, .unset, .unset] [])) rfl (hb hby at_48) (by decide) (by decide)
      obtain ⟨en1, g18⟩ : ∃ z, z = h16.size := ⟨_, rfl⟩
      rw [← g18] at A18 D18 st18
      have Z18 : n0 ≤ h18.size := Nat.le_trans Z16 E18.1
      have g_en1 : n0 ≤ en1 := Nat.le_trans Z16 (Nat.le_of_eq g18.symm)
      have ne_o_en1 : o ≠ en1 := Nat.ne_of_lt (Nat.lt_of_lt_of_le E_o.lt (Nat.le_of_eq g18.symm))
      have ne_hd_en1 : hd ≠ en1 := Nat.ne_of_lt (Nat.lt_of_lt_of_le F_label_hd.lt (Nat.le_of_eq g18.symm))
      have ne_en0_en1 : en0 ≠ en1 := Nat.ne_of_lt (Nat.lt_of_lt_of_le F_next_en0.lt (Nat.le_of_eq g18.symm))
      have E_o := E_o.ext E18
      have F_head_o := F_head_o.ext E18
      have F_last_o := F_last_o.ext E18
      have F_labelBits_o := F_labelBits_o.ext E18
      have F_endGap_o := F_endGap_o.ext E18
      have F_label_hd := F_label_hd.ext E18
      have F_previous_hd := F_previous_hd.ext E18
      have F_next_hd := F_next_hd.ext E18
      have E_hd := E_hd.ext E18
      have F_next_en0 := F_next_en0.ext E18
      have F_previous_en0 := F_previous_en0.ext E18
      have F_label_en0 := F_label_en0.ext E18
      have E_en0 := E_en0.ext E18
      have F_next_en1 : Fld Z h18 en1 "com/example/round_table/roundtable/engine/OrderList$Entry" "next" "Lcom/example/round_table/roundtable/engine/OrderList$Entry;" .null := D18 (Or.inl (hw _ (List.mem_of_getElem? (i := 43) rfl))) (ty := (.object "com/example/round_table/roundtable/engine/OrderList$Entry")) (by decide)
      have F_previous_en1 : Fld Z h18 en1 "com/example/round_table/roundtable/engine/OrderList$Entry" "previous" "Lcom/example/round_table/roundtable/engine/OrderList$Entry;" .null := D18 (Or.inl (hw _ (List.mem_of_getElem? (i := 45) rfl))) (ty := (.object "com/example/round_table/roundtable/engine/OrderList$Entry")) (by decide)
      have F_label_en1 : Fld Z h18 en1 "com/example/round_table/roundtable/engine/OrderList$Entry" "label" "J" (.long (0 : Int64)) := D18 (Or.inl (hw _ (List.mem_of_getElem? (i := 47) rfl))) (ty := .long) (by decide)
      have E_en1 : Exa Z h18 en1 "com/example/round_table/roundtable/engine/OrderList$Entry" := A18
      refine RunsTo.of (T' := T18) (g' := (mkF m 51 #[.val (.int x0), .val (.int x1), .val (.int x2), .val (.int bits), .val (.int (2 : Int32)), .val (.int (0 : Int32)), .val (.ref o), .val (.ref en0), .unset, .unset, .unset, .unset, .unset, .unset, .unset, .unset] [(.ref en1)])) st18 ?_
      refine RunsTo.of (T' := T18) (g' := (mkF m 52 #[.val (.int x0), .val (.int x1), .val (.int x2), .val (.int bits), .val (.int (2 : Int32)), .val (.int (0 : Int32)), .val (.ref o), .val (.ref en0), .unset, .unset, .unset, .unset, .unset, .unset, .unset, .unset] [(.ref en1), (.ref en1)])) (fun tgt_ kt => ?_) ?_
      · refine XS.dup X18.here hx rfl (hb hby at_51) rfl rfl ?_
        show Steps p.tables e below (T18.setTop (mkF m 52 #[.val (.int x0), .val (.int x1), .val (.int x2), .val (.int bits), .val (.int (2 : Int32)), .val (.int (0 : Int32)), .val (.ref o), .val (.ref en0), .unset, .unset, .unset, .unset, .unset, .unset, .unset, .unset] [(.ref en1), (.ref en1)])) _
        exact kt
      obtain ⟨_, _, ⟨T19, L19, k19, n19⟩, -, X19, ⟨Lc19, hQ19, l19, y19, z19⟩, st19⟩ := X18.specialBack hx (y := (⟨"com/example/round_table/roundtable/engine/OrderList$Entry", "<init>", "()V"⟩ : MethodName)) rfl hown (mvT hZ (hw _ (List.mem_of_getElem? (i := 26) rfl))) (mvT hZ (hw _ (List.mem_of_getElem? (i := 14) rfl))) (mvT hZ (hw _ (List.mem_of_getElem? (i := 15) rfl))) (by decide) (backOf (W := 1) (rm3 l Z a0 hw [] en1 h18 n0 Z18 ) hZ (hw _ (List.mem_of_getElem? (i := 15) rfl)) (hw _ (List.mem_of_getElem? (i := 12) rfl)) (by decide) (by decide)) (g := (mkF m 52 #[.val (.int x0), .val (.int x1), .val (.int x2), .val (.int bits), .val (.int (2 : Int32)), .val (.int (0 : Int32)), .val (.ref o), .val (.ref en0), .unset, .unset, .unset, .unset, .unset, .unset, .unset, .unset] [(.ref en1), (.ref en1)])) rfl (by rw [hml]; rfl) (Steps.refl _) (a := en1) (argsL := []) (rest := [(.ref en1)]) (lenOf pd_0 rfl) rfl (by show 2 * 0 + _ ≤ _; exact Nat.le_of_eq rfl) (hb hby at_52) (fun _ _ => ⟨rfl, e18, (by decide : 4 + 0 ≤ _), (by decide : 13 + 0 ≤ _)⟩)
      dsimp only [Pt.U, Pt.locs, Pt.cells, Pt.slots] at X19 l19 y19 z19 st19 hQ19
      subst l19 y19 z19
      obtain ⟨rfl, N19q, e19⟩ := hQ19
      have N19 := Fr.app N17 N19q
      refine RunsTo.of (T' := T19) (g' := (mkF m 55 #[.val (.int x0), .val (.int x1), .val (.int x2), .val (.int bits), .val (.int (2 : Int32)), .val (.int (0 : Int32)), .val (.ref o), .val (.ref en0), .unset, .unset, .unset, .unset, .unset, .unset, .unset, .unset] [(.ref en1)])) (fun _ kt => st19.trans kt) ?_
      refine RunsTo.of (T' := T19) (g' := (mkF m 57 #[.val (.int x0), .val (.int x1), .val (.int x2), .val (.int bits), .val (.int (2 : Int32)), .val (.int (0 : Int32)), .val (.ref o), .val (.ref en0), .val (.ref en1), .unset, .unset, .unset, .unset, .unset, .unset, .unset] [])) (fun tgt_ kt => ?_) ?_
      · refine XS.astore X19.here hx rfl (hb hby at_55) rfl rfl (l' := #[.val (.int x0), .val (.int x1), .val (.int x2), .val (.int bits), .val (.int (2 : Int32)), .val (.int (0 : Int32)), .val (.ref o), .val (.ref en0), .val (.ref en1), .unset, .unset, .unset, .unset, .unset, .unset, .unset]) rfl ?_
        show Steps p.tables e below (T19.setTop (mkF m 57 #[.val (.int x0), .val (.int x1), .val (.int x2), .val (.int bits), .val (.int (2 : Int32)), .val (.int (0 : Int32)), .val (.ref o), .val (.ref en0), .val (.ref en1), .unset, .unset, .unset, .unset, .unset, .unset, .unset] [])) _
        exact kt
      obtain ⟨T20, h20, X20, e20, E20, A20, D20, -, st20⟩ := newO X19 hx hZ hown (hw _ (List.mem_of_getElem? (i := 25) rfl)) (hw _ (List.mem_of_getElem? (i := 11) rfl)) (hw _ (List.mem_of_getElem? (i := 12) rfl)) e19 (g := (mkF m 57 #[.val (.int x0), .val (.int x1), .val (.int x2), .val (.int bits), .val (.int (2 : Int32)), .val (.int (0 : Int32)), .val (.ref o), .val (.ref en0), .val (.ref en1), .unset, .unset, .unset, .unset, .unset, .unset, .unset] [])) rfl (hb hby at_57) (by decide) (by decide)
      obtain ⟨en2, g20⟩ : ∃ z, z = h18.size := ⟨_, rfl⟩
      rw [← g20] at A20 D20 st20
      have Z20 : n0 ≤ h20.size := Nat.le_trans Z18 E20.1
      have g_en2 : n0 ≤ en2 := Nat.le_trans Z18 (Nat.le_of_eq g20.symm)
      have ne_o_en2 : o ≠ en2 := Nat.ne_of_lt (Nat.lt_of_lt_of_le E_o.lt (Nat.le_of_eq g20.symm))
      have ne_hd_en2 : hd ≠ en2 := Nat.ne_of_lt (Nat.lt_of_lt_of_le F_label_hd.lt (Nat.le_of_eq g20.symm))
      have ne_en0_en2 : en0 ≠ en2 := Nat.ne_of_lt (Nat.lt_of_lt_of_le F_next_en0.lt (Nat.le_of_eq g20.symm))
      have ne_en1_en2 : en1 ≠ en2 := Nat.ne_of_lt (Nat.lt_of_lt_of_le F_next_en1.lt (Nat.le_of_eq g20.symm))
      have E_o := E_o.ext E20
      have F_head_o := F_head_o.ext E20
      have F_last_o := F_last_o.ext E20
      have F_labelBits_o := F_labelBits_o.ext E20
      have F_endGap_o := F_endGap_o.ext E20
      have F_label_hd := F_label_hd.ext E20
      have F_previous_hd := F_previous_hd.ext E20
      have F_next_hd := F_next_hd.ext E20
      have E_hd := E_hd.ext E20
      have F_next_en0 := F_next_en0.ext E20
      have F_previous_en0 := F_previous_en0.ext E20
      have F_label_en0 := F_label_en0.ext E20
      have E_en0 := E_en0.ext E20
      have F_next_en1 := F_next_en1.ext E20
      have F_previous_en1 := F_previous_en1.ext E20
      have F_label_en1 := F_label_en1.ext E20
      have E_en1 := E_en1.ext E20
      have F_next_en2 : Fld Z h20 en2 "com/example/round_table/roundtable/engine/OrderList$Entry" "next" "Lcom/example/round_table/roundtable/engine/OrderList$Entry;" .null := D20 (Or.inl (hw _ (List.mem_of_getElem? (i := 43) rfl))) (ty := (.object "com/example/round_table/roundtable/engine/OrderList$Entry")) (by decide)
      have F_previous_en2 : Fld Z h20 en2 "com/example/round_table/roundtable/engine/OrderList$Entry" "previous" "Lcom/example/round_table/roundtable/engine/OrderList$Entry;" .null := D20 (Or.inl (hw _ (List.mem_of_getElem? (i := 45) rfl))) (ty := (.object "com/example/round_table/roundtable/engine/OrderList$Entry")) (by decide)
      have F_label_en2 : Fld Z h20 en2 "com/example/round_table/roundtable/engine/OrderList$Entry" "label" "J" (.long (0 : Int64)) := D20 (Or.inl (hw _ (List.mem_of_getElem? (i := 47) rfl))) (ty := .long) (by decide)
      have E_en2 : Exa Z h20 en2 "com/example/round_table/roundtable/engine/OrderList$Entry" := A20
      refine RunsTo.of (T' := T20) (g' := (mkF m 60 #[.val (.int x0), .val (.int x1), .val (.int x2), .val (.int bits), .val (.int (2 : Int32)), .val (.int (0 : Int32)), .val (.ref o), .val (.ref en0), .val (.ref en1), .unset, .unset, .unset, .unset, .unset, .unset, .unset] [(.ref en2)])) st20 ?_
      refine RunsTo.of (T' := T20) (g' := (mkF m 61 #[.val (.int x0), .val (.int x1), .val (.int x2), .val (.int bits), .val (.int (2 : Int32)), .val (.int (0 : Int32)), .val (.ref o), .val (.ref en0), .val (.ref en1), .unset, .unset, .unset, .unset, .unset, .unset, .unset] [(.ref en2), (.ref en2)])) (fun tgt_ kt => ?_) ?_
      · refine XS.dup X20.here hx rfl (hb hby at_60) rfl rfl ?_
        show Steps p.tables e below (T20.setTop (mkF m 61 #[.val (.int x0), .val (.int x1), .val (.int x2), .val (.int bits), .val (.int (2 : Int32)), .val (.int (0 : Int32)), .val (.ref o), .val (.ref en0), .val (.ref en1), .unset, .unset, .unset, .unset, .unset, .unset, .unset] [(.ref en2), (.ref en2)])) _
        exact kt
      obtain ⟨_, _, ⟨T21, L21, k21, n21⟩, -, X21, ⟨Lc21, hQ21, l21, y21, z21⟩, st21⟩ := X20.specialBack hx (y := (⟨"com/example/round_table/roundtable/engine/OrderList$Entry", "<init>", "()V"⟩ : MethodName)) rfl hown (mvT hZ (hw _ (List.mem_of_getElem? (i := 26) rfl))) (mvT hZ (hw _ (List.mem_of_getElem? (i := 14) rfl))) (mvT hZ (hw _ (List.mem_of_getElem? (i := 15) rfl))) (by decide) (backOf (W := 1) (rm3 l Z a0 hw [] en2 h20 n0 Z20 ) hZ (hw _ (List.mem_of_getElem? (i := 15) rfl)) (hw _ (List.mem_of_getElem? (i := 12) rfl)) (by decide) (by decide)) (g := (mkF m 61 #[.val (.int x0), .val (.int x1), .val (.int x2), .val (.int bits), .val (.int (2 : Int32)), .val (.int (0 : Int32)), .val (.ref o), .val (.ref en0), .val (.ref en1), .unset, .unset, .unset, .unset, .unset, .unset, .unset] [(.ref en2), (.ref en2)])) rfl (by rw [hml]; rfl) (Steps.refl _) (a := en2) (argsL := []) (rest := [(.ref en2)]) (lenOf pd_0 rfl) rfl (by show 2 * 0 + _ ≤ _; exact Nat.le_of_eq rfl) (hb hby at_61) (fun _ _ => ⟨rfl, e20, (by decide : 5 + 0 ≤ _), (by decide : 16 + 0 ≤ _)⟩)
      dsimp only [Pt.U, Pt.locs, Pt.cells, Pt.slots] at X21 l21 y21 z21 st21 hQ21
      subst l21 y21 z21
      obtain ⟨rfl, N21q, e21⟩ := hQ21
      have N21 := Fr.app N19 N21q
      refine RunsTo.of (T' := T21) (g' := (mkF m 64 #[.val (.int x0), .val (.int x1), .val (.int x2), .val (.int bits), .val (.int (2 : Int32)), .val (.int (0 : Int32)), .val (.ref o), .val (.ref en0), .val (.ref en1), .unset, .unset, .unset, .unset, .unset, .unset, .unset] [(.ref en2)])) (fun _ kt => st21.trans kt) ?_
      refine RunsTo.of (T' := T21) (g' := (mkF m 70 #[.val (.int x0), .val (.int x1), .val (.int x2), .val (.int bits), .val (.int (2 : Int32)), .val (.int (0 : Int32)), .val (.ref o), .val (.ref en0), .val (.ref en1), .val (.ref en2), .unset, .unset, .unset, .unset, .unset, .unset] [(.ref en0), (.ref o)])) (fun tgt_ kt => ?_) ?_
      · refine XS.astore X21.here hx rfl (hb hby at_64) rfl rfl (l' := #[.val (.int x0), .val (.int x1), .val (.int x2), .val (.int bits), .val (.int (2 : Int32)), .val (.int (0 : Int32)), .val (.ref o), .val (.ref en0), .val (.ref en1), .val (.ref en2), .unset, .unset, .unset, .unset, .unset, .unset]) rfl ?_
        show Steps p.tables e below (T21.setTop (mkF m 66 #[.val (.int x0), .val (.int x1), .val (.int x2), .val (.int bits), .val (.int (2 : Int32)), .val (.int (0 : Int32)), .val (.ref o), .val (.ref en0), .val (.ref en1), .val (.ref en2), .unset, .unset, .unset, .unset, .unset, .unset] [])) _
        refine XS.aload X21.here hx rfl (hb hby at_66) rfl rfl ?_
        show Steps p.tables e below (T21.setTop (mkF m 68 #[.val (.int x0), .val (.int x1), .val (.int x2), .val (.int bits), .val (.int (2 : Int32)), .val (.int (0 : Int32)), .val (.ref o), .val (.ref en0), .val (.ref en1), .val (.ref en2), .unset, .unset, .unset, .unset, .unset, .unset] [(.ref o)])) _
        refine XS.aload X21.here hx rfl (hb hby at_68) rfl rfl ?_
        show Steps p.tables e below (T21.setTop (mkF m 70 #[.val (.int x0), .val (.int x1), .val (.int x2), .val (.int bits), .val (.int (2 : Int32)), .val (.int (0 : Int32)), .val (.ref o), .val (.ref en0), .val (.ref en1), .val (.ref en2), .unset, .unset, .unset, .unset, .unset, .unset] [(.ref en0), (.ref o)])) _
        exact kt
      obtain ⟨cq22, kq22, q22a, q22b, q22c⟩ := isOf hZ e21 E_o
      obtain ⟨_, _, ⟨T22, L22, k22, n22⟩, -, X22, ⟨Lc22, hQ22, l22, y22, z22⟩, st22⟩ := X21.virtualBack hx (y := (⟨"com/example/round_table/roundtable/engine/OrderList", "append", "(Lcom/example/round_table/roundtable/engine/OrderList$Entry;)V"⟩ : MethodName)) (z := (⟨"com/example/round_table/roundtable/engine/OrderList", "append", "(Lcom/example/round_table/roundtable/engine/OrderList$Entry;)V"⟩ : MethodName)) hown (mvT hZ (hw _ (List.mem_of_getElem? (i := 27) rfl))) (mvT hZ (hw _ (List.mem_of_getElem? (i := 28) rfl))) (notFace_of_selects (args := #[]) (mvT hZ (hw _ (List.mem_of_getElem? (i := 30) rfl)))) (mvT hZ (hw _ (List.mem_of_getElem? (i := 30) rfl))) (mvT hZ (hw _ (List.mem_of_getElem? (i := 29) rfl))) (by decide) (backOf (W := 0) (rm_appE l Z a0 hw [] o en0 hd bits eg RR (0 : Int64) (0 : Int64) h20 n0 Z20 E_o g_o F_head_o F_last_o F_labelBits_o F_endGap_o E_hd g_hd F_label_hd F_previous_hd F_next_hd E_en0 g_en0 F_label_en0 F_previous_en0 F_next_en0 ne_o_hd ne_o_en0 ne_hd_en0 hRR hR heg (by omega) (by omega)) hZ (hw _ (List.mem_of_getElem? (i := 31) rfl)) (hw _ (List.mem_of_getElem? (i := 3) rfl)) (by decide) (by decide)) q22a q22c (g := (mkF m 70 #[.val (.int x0), .val (.int x1), .val (.int x2), .val (.int bits), .val (.int (2 : Int32)), .val (.int (0 : Int32)), .val (.ref o), .val (.ref en0), .val (.ref en1), .val (.ref en2), .unset, .unset, .unset, .unset, .unset, .unset] [(.ref en0), (.ref o)])) rfl (by rw [hml]; rfl) (Steps.refl _) (argsL := [(.ref en0)]) (rest := []) (lenOf pd_5 rfl) rfl (by show 2 * 0 + _ ≤ _; exact Nat.le_of_eq rfl) (hb hby at_70) (fun _ _ => ⟨rfl, e21, (by decide : 5 + 0 ≤ _), (by decide : 16 + 0 ≤ _)⟩)
      dsimp only [Pt.U, Pt.locs, Pt.cells, Pt.slots] at X22 l22 y22 z22 st22 hQ22
      subst l22 y22 z22
      obtain ⟨lab_en0, rfl, N22q, K22, F_head_o, F_last_o, F_labelBits_o, F_endGap_o, F_label_hd, F_previous_hd, F_next_hd, F_label_en0, F_previous_en0, F_next_en0, hb1_en0, hb2_en0, hb3_en0⟩ := hQ22
      have N22 := Fr.app N21 N22q
      have Z22 : n0 ≤ T22.heap.size := Nat.le_trans Z20 K22.1
      have E_o := E_o.keep K22
      have E_hd := E_hd.keep K22
      have E_en0 := E_en0.keep K22
      have F_next_en1 := F_next_en1.keep K22 (ninS (Ne.symm ne_o_en1) (ninS (Ne.symm ne_hd_en1) (ninS (Ne.symm ne_en0_en1) nin0)))
      have F_previous_en1 := F_previous_en1.keep K22 (ninS (Ne.symm ne_o_en1) (ninS (Ne.symm ne_hd_en1) (ninS (Ne.symm ne_en0_en1) nin0)))
      have F_label_en1 := F_label_en1.keep K22 (ninS (Ne.symm ne_o_en1) (ninS (Ne.symm ne_hd_en1) (ninS (Ne.symm ne_en0_en1) nin0)))
      have E_en1 := E_en1.keep K22
      have F_next_en2 := F_next_en2.keep K22 (ninS (Ne.symm ne_o_en2) (ninS (Ne.symm ne_hd_en2) (ninS (Ne.symm ne_en0_en2) nin0)))
      have F_previous_en2 := F_previous_en2.keep K22 (ninS (Ne.symm ne_o_en2) (ninS (Ne.symm ne_hd_en2) (ninS (Ne.symm ne_en0_en2) nin0)))
      have F_label_en2 := F_label_en2.keep K22 (ninS (Ne.symm ne_o_en2) (ninS (Ne.symm ne_hd_en2) (ninS (Ne.symm ne_en0_en2) nin0)))
      have E_en2 := E_en2.keep K22
      refine RunsTo.of (T' := T22) (g' := (mkF m 73 #[.val (.int x0), .val (.int x1), .val (.int x2), .val (.int bits), .val (.int (2 : Int32)), .val (.int (0 : Int32)), .val (.ref o), .val (.ref en0), .val (.ref en1), .val (.ref en2), .unset, .unset, .unset, .unset, .unset, .unset] [])) (fun _ kt => st22.trans kt) ?_
      refine RunsTo.of (T' := T22) (g' := (mkF m 83 #[.val (.int x0), .val (.int x1), .val (.int x2), .val (.int bits), .val (.int (2 : Int32)), .val (.int (0 : Int32)), .val (.ref o), .val (.ref en0), .val (.ref en1), .val (.ref en2), .unset, .unset, .unset, .unset, .unset, .unset] [(.ref en1), (.ref o)])) (fun tgt_ kt => ?_) ?_
      · refine XS.iload X22.here hx rfl (hb hby at_73) rfl ?_
        show Steps p.tables e below (T22.setTop (mkF m 75 #[.val (.int x0), .val (.int x1), .val (.int x2), .val (.int bits), .val (.int (2 : Int32)), .val (.int (0 : Int32)), .val (.ref o), .val (.ref en0), .val (.ref en1), .val (.ref en2), .unset, .unset, .unset, .unset, .unset, .unset] [(.int (2 : Int32))])) _
        refine XS.iconst X22.here hx rfl (hb hby at_75) ?_
        show Steps p.tables e below (T22.setTop (mkF m 76 #[.val (.int x0), .val (.int x1), .val (.int x2), .val (.int bits), .val (.int (2 : Int32)), .val (.int (0 : Int32)), .val (.ref o), .val (.ref en0), .val (.ref en1), .val (.ref en2), .unset, .unset, .unset, .unset, .unset, .unset] [(.int (2 : Int32)), (.int (2 : Int32))])) _
        refine XS.icmpNo X22.here hx rfl (hb hby at_76) rfl (flt (by decide)).1 ?_
        show Steps p.tables e below (T22.setTop (mkF m 79 #[.val (.int x0), .val (.int x1), .val (.int x2), .val (.int bits), .val (.int (2 : Int32)), .val (.int (0 : Int32)), .val (.ref o), .val (.ref en0), .val (.ref en1), .val (.ref en2), .unset, .unset, .unset, .unset, .unset, .unset] [])) _
        refine XS.aload X22.here hx rfl (hb hby at_79) rfl rfl ?_
        show Steps p.tables e below (T22.setTop (mkF m 81 #[.val (.int x0), .val (.int x1), .val (.int x2), .val (.int bits), .val (.int (2 : Int32)), .val (.int (0 : Int32)), .val (.ref o), .val (.ref en0), .val (.ref en1), .val (.ref en2), .unset, .unset, .unset, .unset, .unset, .unset] [(.ref o)])) _
        refine XS.aload X22.here hx rfl (hb hby at_81) rfl rfl ?_
        show Steps p.tables e below (T22.setTop (mkF m 83 #[.val (.int x0), .val (.int x1), .val (.int x2), .val (.int bits), .val (.int (2 : Int32)), .val (.int (0 : Int32)), .val (.ref o), .val (.ref en0), .val (.ref en1), .val (.ref en2), .unset, .unset, .unset, .unset, .unset, .unset] [(.ref en1), (.ref o)])) _
        exact kt
      obtain ⟨cq23, kq23, q23a, q23b, q23c⟩ := isOf hZ rfl E_o
      obtain ⟨_, _, ⟨T23, L23, k23, n23⟩, -, X23, ⟨Lc23, hQ23, l23, y23, z23⟩, st23⟩ := X22.virtualBack hx (y := (⟨"com/example/round_table/roundtable/engine/OrderList", "append", "(Lcom/example/round_table/roundtable/engine/OrderList$Entry;)V"⟩ : MethodName)) (z := (⟨"com/example/round_table/roundtable/engine/OrderList", "append", "(Lcom/example/round_table/roundtable/engine/OrderList$Entry;)V"⟩ : MethodName)) hown (mvT hZ (hw _ (List.mem_of_getElem? (i := 27) rfl))) (mvT hZ (hw _ (List.mem_of_getElem? (i := 28) rfl))) (notFace_of_selects (args := #[]) (mvT hZ (hw _ (List.mem_of_getElem? (i := 30) rfl)))) (mvT hZ (hw _ (List.mem_of_getElem? (i := 30) rfl))) (mvT hZ (hw _ (List.mem_of_getElem? (i := 29) rfl))) (by decide) (backOf (W := 0) (rm_appN l Z a0 hw [] o en1 hd en0 (.ref hd) bits eg RR lab_en0 (0 : Int64) T22.heap n0 Z22 E_o g_o F_head_o F_last_o F_labelBits_o F_endGap_o E_en0 g_en0 F_label_en0 F_previous_en0 F_next_en0 E_en1 g_en1 F_label_en1 F_previous_en1 F_next_en1 ne_o_en0 ne_o_en1 ne_en0_en1 (Ne.symm ne_hd_en0) hRR hR heg (by omega) (by omega)) hZ (hw _ (List.mem_of_getElem? (i := 31) rfl)) (hw _ (List.mem_of_getElem? (i := 3) rfl)) (by decide) (by decide)) q23a q23c (g := (mkF m 83 #[.val (.int x0), .val (.int x1), .val (.int x2), .val (.int bits), .val (.int (2 : Int32)), .val (.int (0 : Int32)), .val (.ref o), .val (.ref en0), .val (.ref en1), .val (.ref en2), .unset, .unset, .unset, .unset, .unset, .unset] [(.ref en1), (.ref o)])) rfl (by rw [hml]; rfl) (Steps.refl _) (argsL := [(.ref en1)]) (rest := []) (lenOf pd_5 rfl) rfl (by show 2 * 0 + _ ≤ _; exact Nat.le_of_eq rfl) (hb hby at_83) (fun _ _ => ⟨rfl, rfl, (by decide : 5 + 0 ≤ _), (by decide : 16 + 0 ≤ _)⟩)
      dsimp only [Pt.U, Pt.locs, Pt.cells, Pt.slots] at X23 l23 y23 z23 st23 hQ23
      subst l23 y23 z23
      obtain ⟨lab_en1, rfl, N23q, K23, F_head_o, F_last_o, F_labelBits_o, F_endGap_o, F_label_en0, F_previous_en0, F_next_en0, F_label_en1, F_previous_en1, F_next_en1, hb1_en1, hb2_en1, hb3_en1⟩ := hQ23
      have N23 := Fr.app N22 N23q
      have Z23 : n0 ≤ T23.heap.size := Nat.le_trans Z22 K23.1
      have E_o := E_o.keep K23
      have E_hd := E_hd.keep K23
      have E_en0 := E_en0.keep K23
      have E_en1 := E_en1.keep K23
      have F_next_en2 := F_next_en2.keep K23 (ninS (Ne.symm ne_o_en2) (ninS (Ne.symm ne_en0_en2) (ninS (Ne.symm ne_en1_en2) nin0)))
      have F_previous_en2 := F_previous_en2.keep K23 (ninS (Ne.symm ne_o_en2) (ninS (Ne.symm ne_en0_en2) (ninS (Ne.symm ne_en1_en2) nin0)))
      have F_label_en2 := F_label_en2.keep K23 (ninS (Ne.symm ne_o_en2) (ninS (Ne.symm ne_en0_en2) (ninS (Ne.symm ne_en1_en2) nin0)))
      have E_en2 := E_en2.keep K23
      have F_label_hd := F_label_hd.keep K23 (ninS (Ne.symm ne_o_hd) (ninS ne_hd_en0 (ninS ne_hd_en1 nin0)))
      have F_previous_hd := F_previous_hd.keep K23 (ninS (Ne.symm ne_o_hd) (ninS ne_hd_en0 (ninS ne_hd_en1 nin0)))
      have F_next_hd := F_next_hd.keep K23 (ninS (Ne.symm ne_o_hd) (ninS ne_hd_en0 (ninS ne_hd_en1 nin0)))
      refine RunsTo.of (T' := T23) (g' := (mkF m 86 #[.val (.int x0), .val (.int x1), .val (.int x2), .val (.int bits), .val (.int (2 : Int32)), .val (.int (0 : Int32)), .val (.ref o), .val (.ref en0), .val (.ref en1), .val (.ref en2), .unset, .unset, .unset, .unset, .unset, .unset] [])) (fun _ kt => st23.trans kt) ?_
      refine RunsTo.of (T' := T23) (g' := (mkF m 128 #[.val (.int x0), .val (.int x1), .val (.int x2), .val (.int bits), .val (.int (2 : Int32)), .val (.int (0 : Int32)), .val (.ref o), .val (.ref en0), .val (.ref en1), .val (.ref en2), .val (.ref en0), .unset, .unset, .unset, .unset, .unset] [(.ref en0), (.ref o)])) (fun tgt_ kt => ?_) ?_
      · refine XS.iload X23.here hx rfl (hb hby at_86) rfl ?_
        show Steps p.tables e below (T23.setTop (mkF m 88 #[.val (.int x0), .val (.int x1), .val (.int x2), .val (.int bits), .val (.int (2 : Int32)), .val (.int (0 : Int32)), .val (.ref o), .val (.ref en0), .val (.ref en1), .val (.ref en2), .unset, .unset, .unset, .unset, .unset, .unset] [(.int (2 : Int32))])) _
        refine XS.iconst X23.here hx rfl (hb hby at_88) ?_
        show Steps p.tables e below (T23.setTop (mkF m 89 #[.val (.int x0), .val (.int x1), .val (.int x2), .val (.int bits), .val (.int (2 : Int32)), .val (.int (0 : Int32)), .val (.ref o), .val (.ref en0), .val (.ref en1), .val (.ref en2), .unset, .unset, .unset, .unset, .unset, .unset] [(.int (3 : Int32)), (.int (2 : Int32))])) _
        refine XS.icmpYes X23.here hx rfl (pc0 := 89) (pc' := 99) rfl (hb hby at_89) rfl (tlt (by decide)).1 (by decide) (by decide) ?_
        show Steps p.tables e below (T23.setTop (mkF m 99 #[.val (.int x0), .val (.int x1), .val (.int x2), .val (.int bits), .val (.int (2 : Int32)), .val (.int (0 : Int32)), .val (.ref o), .val (.ref en0), .val (.ref en1), .val (.ref en2), .unset, .unset, .unset, .unset, .unset, .unset] [])) _
        refine XS.iload X23.here hx rfl (hb hby at_99) rfl ?_
        show Steps p.tables e below (T23.setTop (mkF m 101 #[.val (.int x0), .val (.int x1), .val (.int x2), .val (.int bits), .val (.int (2 : Int32)), .val (.int (0 : Int32)), .val (.ref o), .val (.ref en0), .val (.ref en1), .val (.ref en2), .unset, .unset, .unset, .unset, .unset, .unset] [(.int (0 : Int32))])) _
        refine XS.ifNo X23.here hx rfl (hb hby at_101) rfl ((if0 _ _).trans (teq rfl).2) ?_
        show Steps p.tables e below (T23.setTop (mkF m 104 #[.val (.int x0), .val (.int x1), .val (.int x2), .val (.int bits), .val (.int (2 : Int32)), .val (.int (0 : Int32)), .val (.ref o), .val (.ref en0), .val (.ref en1), .val (.ref en2), .unset, .unset, .unset, .unset, .unset, .unset] [])) _
        refine XS.aload X23.here hx rfl (hb hby at_104) rfl rfl ?_
        show Steps p.tables e below (T23.setTop (mkF m 106 #[.val (.int x0), .val (.int x1), .val (.int x2), .val (.int bits), .val (.int (2 : Int32)), .val (.int (0 : Int32)), .val (.ref o), .val (.ref en0), .val (.ref en1), .val (.ref en2), .unset, .unset, .unset, .unset, .unset, .unset] [(.ref en0)])) _
        refine XS.goto X23.here hx rfl (pc0 := 106) (pc' := 122) rfl (hb hby at_106) (by decide) (by decide) ?_
        show Steps p.tables e below (T23.setTop (mkF m 122 #[.val (.int x0), .val (.int x1), .val (.int x2), .val (.int bits), .val (.int (2 : Int32)), .val (.int (0 : Int32)), .val (.ref o), .val (.ref en0), .val (.ref en1), .val (.ref en2), .unset, .unset, .unset, .unset, .unset, .unset] [(.ref en0)])) _
        refine XS.astore X23.here hx rfl (hb hby at_122) rfl rfl (l' := #[.val (.int x0), .val (.int x1), .val (.int x2), .val (.int bits), .val (.int (2 : Int32)), .val (.int (0 : Int32)), .val (.ref o), .val (.ref en0), .val (.ref en1), .val (.ref en2), .val (.ref en0), .unset, .unset, .unset, .unset, .unset]) rfl ?_
        show Steps p.tables e below (T23.setTop (mkF m 124 #[.val (.int x0), .val (.int x1), .val (.int x2), .val (.int bits), .val (.int (2 : Int32)), .val (.int (0 : Int32)), .val (.ref o), .val (.ref en0), .val (.ref en1), .val (.ref en2), .val (.ref en0), .unset, .unset, .unset, .unset, .unset] [])) _
        refine XS.aload X23.here hx rfl (hb hby at_124) rfl rfl ?_
        show Steps p.tables e below (T23.setTop (mkF m 126 #[.val (.int x0), .val (.int x1), .val (.int x2), .val (.int bits), .val (.int (2 : Int32)), .val (.int (0 : Int32)), .val (.ref o), .val (.ref en0), .val (.ref en1), .val (.ref en2), .val (.ref en0), .unset, .unset, .unset, .unset, .unset] [(.ref o)])) _
        refine XS.aload X23.here hx rfl (hb hby at_126) rfl rfl ?_
        show Steps p.tables e below (T23.setTop (mkF m 128 #[.val (.int x0), .val (.int x1), .val (.int x2), .val (.int bits), .val (.int (2 : Int32)), .val (.int (0 : Int32)), .val (.ref o), .val (.ref en0), .val (.ref en1), .val (.ref en2), .val (.ref en0), .unset, .unset, .unset, .unset, .unset] [(.ref en0), (.ref o)])) _
        exact kt
      obtain ⟨cq24, kq24, q24a, q24b, q24c⟩ := isOf hZ rfl E_o
      obtain ⟨_, _, ⟨T24, L24, k24, n24⟩, -, X24, ⟨Lc24, hQ24, l24, y24, z24⟩, st24⟩ := X23.virtualBack hx (y := (⟨"com/example/round_table/roundtable/engine/OrderList", "remove", "(Lcom/example/round_table/roundtable/engine/OrderList$Entry;)V"⟩ : MethodName)) (z := (⟨"com/example/round_table/roundtable/engine/OrderList", "remove", "(Lcom/example/round_table/roundtable/engine/OrderList$Entry;)V"⟩ : MethodName)) hown (mvT hZ (hw _ (List.mem_of_getElem? (i := 53) rfl))) (mvT hZ (hw _ (List.mem_of_getElem? (i := 54) rfl))) (notFace_of_selects (args := #[]) (mvT hZ (hw _ (List.mem_of_getElem? (i := 56) rfl)))) (mvT hZ (hw _ (List.mem_of_getElem? (i := 56) rfl))) (mvT hZ (hw _ (List.mem_of_getElem? (i := 55) rfl))) (by decide) (backOf (W := 0) (rm_remN l Z a0 hw [] o en0 hd hd (.ref en1) .null bits eg (0 : Int64) lab_en0 en1 lab_en1 .null T23.heap n0 Z23 E_o g_o F_head_o F_last_o F_labelBits_o F_endGap_o E_hd g_hd F_label_hd F_previous_hd F_next_hd E_en0 g_en0 F_label_en0 F_previous_en0 F_next_en0 ne_o_hd ne_o_en0 ne_hd_en0 E_en1 g_en1 F_label_en1 F_previous_en1 F_next_en1 ne_o_en1 ne_hd_en1 ne_en0_en1) hZ (hw _ (List.mem_of_getElem? (i := 57) rfl)) (hw _ (List.mem_of_getElem? (i := 3) rfl)) (by decide) (by decide)) q24a q24c (g := (mkF m 128 #[.val (.int x0), .val (.int x1), .val (.int x2), .val (.int bits), .val (.int (2 : Int32)), .val (.int (0 : Int32)), .val (.ref o), .val (.ref en0), .val (.ref en1), .val (.ref en2), .val (.ref en0), .unset, .unset, .unset, .unset, .unset] [(.ref en0), (.ref o)])) rfl (by rw [hml]; rfl) (Steps.refl _) (argsL := [(.ref en0)]) (rest := []) (lenOf pd_5 rfl) rfl (by show 2 * 0 + _ ≤ _; exact Nat.le_of_eq rfl) (hb hby at_128) (fun _ _ => ⟨rfl, rfl, (by decide : 5 + 0 ≤ _), (by decide : 16 + 0 ≤ _)⟩)
      dsimp only [Pt.U, Pt.locs, Pt.cells, Pt.slots] at X24 l24 y24 z24 st24 hQ24
      subst l24 y24 z24
      obtain ⟨rfl, N24q, K24, F_head_o, F_last_o, F_labelBits_o, F_endGap_o, F_label_hd, F_previous_hd, F_next_hd, F_label_en0, F_previous_en0, F_next_en0, F_label_en1, F_previous_en1, F_next_en1⟩ := hQ24
      have N24 := Fr.app N23 N24q
      have Z24 : n0 ≤ T24.heap.size := Nat.le_trans Z23 K24.1
      have E_o := E_o.keep K24
      have E_hd := E_hd.keep K24
      have E_en0 := E_en0.keep K24
      have E_en1 := E_en1.keep K24
      have F_next_en2 := F_next_en2.keep K24 (ninS (Ne.symm ne_o_en2) (ninS (Ne.symm ne_hd_en2) (ninS (Ne.symm ne_en0_en2) (ninS (Ne.symm ne_en1_en2) nin0))))
      have F_previous_en2 := F_previous_en2.keep K24 (ninS (Ne.symm ne_o_en2) (ninS (Ne.symm ne_hd_en2) (ninS (Ne.symm ne_en0_en2) (ninS (Ne.symm ne_en1_en2) nin0))))
      have F_label_en2 := F_label_en2.keep K24 (ninS (Ne.symm ne_o_en2) (ninS (Ne.symm ne_hd_en2) (ninS (Ne.symm ne_en0_en2) (ninS (Ne.symm ne_en1_en2) nin0))))
      have E_en2 := E_en2.keep K24
      refine RunsTo.of (T' := T24) (g' := (mkF m 131 #[.val (.int x0), .val (.int x1), .val (.int x2), .val (.int bits), .val (.int (2 : Int32)), .val (.int (0 : Int32)), .val (.ref o), .val (.ref en0), .val (.ref en1), .val (.ref en2), .val (.ref en0), .unset, .unset, .unset, .unset, .unset] [])) (fun _ kt => st24.trans kt) ?_
      refine RunsTo.of (T' := T24) (g' := (mkF m 137 #[.val (.int x0), .val (.int x1), .val (.int x2), .val (.int bits), .val (.int (2 : Int32)), .val (.int (0 : Int32)), .val (.ref o), .val (.ref en0), .val (.ref en1), .val (.ref en2), .val (.ref en0), .val (.int ((2 : Int32) - (1 : Int32))), .unset, .unset, .unset, .unset] [])) (fun tgt_ kt => ?_) ?_
      · refine XS.iload X24.here hx rfl (hb hby at_131) rfl ?_
        show Steps p.tables e below (T24.setTop (mkF m 133 #[.val (.int x0), .val (.int x1), .val (.int x2), .val (.int bits), .val (.int (2 : Int32)), .val (.int (0 : Int32)), .val (.ref o), .val (.ref en0), .val (.ref en1), .val (.ref en2), .val (.ref en0), .unset, .unset, .unset, .unset, .unset] [(.int (2 : Int32))])) _
        refine XS.iconst X24.here hx rfl (hb hby at_133) ?_
        show Steps p.tables e below (T24.setTop (mkF m 134 #[.val (.int x0), .val (.int x1), .val (.int x2), .val (.int bits), .val (.int (2 : Int32)), .val (.int (0 : Int32)), .val (.ref o), .val (.ref en0), .val (.ref en1), .val (.ref en2), .val (.ref en0), .unset, .unset, .unset, .unset, .unset] [(.int (1 : Int32)), (.int (2 : Int32))])) _
        refine XS.isub X24.here hx rfl (hb hby at_134) rfl ?_
        show Steps p.tables e below (T24.setTop (mkF m 135 #[.val (.int x0), .val (.int x1), .val (.int x2), .val (.int bits), .val (.int (2 : Int32)), .val (.int (0 : Int32)), .val (.ref o), .val (.ref en0), .val (.ref en1), .val (.ref en2), .val (.ref en0), .unset, .unset, .unset, .unset, .unset] [(.int ((2 : Int32) - (1 : Int32)))])) _
        refine XS.istore X24.here hx rfl (hb hby at_135) rfl (l' := #[.val (.int x0), .val (.int x1), .val (.int x2), .val (.int bits), .val (.int (2 : Int32)), .val (.int (0 : Int32)), .val (.ref o), .val (.ref en0), .val (.ref en1), .val (.ref en2), .val (.ref en0), .val (.int ((2 : Int32) - (1 : Int32))), .unset, .unset, .unset, .unset]) rfl ?_
        show Steps p.tables e below (T24.setTop (mkF m 137 #[.val (.int x0), .val (.int x1), .val (.int x2), .val (.int bits), .val (.int (2 : Int32)), .val (.int (0 : Int32)), .val (.ref o), .val (.ref en0), .val (.ref en1), .val (.ref en2), .val (.ref en0), .val (.int ((2 : Int32) - (1 : Int32))), .unset, .unset, .unset, .unset] [])) _
        exact kt
      have hm : (2 : Int32) - (1 : Int32) = (1 : Int32) := by decide
      rw [hm]
      refine RunsTo.of (T' := T24) (g' := (mkF m 197 #[.val (.int x0), .val (.int x1), .val (.int x2), .val (.int bits), .val (.int (2 : Int32)), .val (.int (0 : Int32)), .val (.ref o), .val (.ref en0), .val (.ref en1), .val (.ref en2), .val (.ref en0), .val (.int (1 : Int32)), .val (.ref en1), .val (.ref en2), .unset, .unset] [(.ref o)])) (fun tgt_ kt => ?_) ?_
      · refine XS.iload X24.here hx rfl (hb hby at_137) rfl ?_
        show Steps p.tables e below (T24.setTop (mkF m 139 #[.val (.int x0), .val (.int x1), .val (.int x2), .val (.int bits), .val (.int (2 : Int32)), .val (.int (0 : Int32)), .val (.ref o), .val (.ref en0), .val (.ref en1), .val (.ref en2), .val (.ref en0), .val (.int (1 : Int32)), .unset, .unset, .unset, .unset] [(.int (0 : Int32))])) _
        refine XS.ifNo X24.here hx rfl (hb hby at_139) rfl ((if0 _ _).trans (teq rfl).2) ?_
        show Steps p.tables e below (T24.setTop (mkF m 142 #[.val (.int x0), .val (.int x1), .val (.int x2), .val (.int bits), .val (.int (2 : Int32)), .val (.int (0 : Int32)), .val (.ref o), .val (.ref en0), .val (.ref en1), .val (.ref en2), .val (.ref en0), .val (.int (1 : Int32)), .unset, .unset, .unset, .unset] [])) _
        refine XS.aload X24.here hx rfl (hb hby at_142) rfl rfl ?_
        show Steps p.tables e below (T24.setTop (mkF m 144 #[.val (.int x0), .val (.int x1), .val (.int x2), .val (.int bits), .val (.int (2 : Int32)), .val (.int (0 : Int32)), .val (.ref o), .val (.ref en0), .val (.ref en1), .val (.ref en2), .val (.ref en0), .val (.int (1 : Int32)), .unset, .unset, .unset, .unset] [(.ref en1)])) _
        refine XS.goto X24.here hx rfl (pc0 := 144) (pc' := 149) rfl (hb hby at_144) (by decide) (by decide) ?_
        show Steps p.tables e below (T24.setTop (mkF m 149 #[.val (.int x0), .val (.int x1), .val (.int x2), .val (.int bits), .val (.int (2 : Int32)), .val (.int (0 : Int32)), .val (.ref o), .val (.ref en0), .val (.ref en1), .val (.ref en2), .val (.ref en0), .val (.int (1 : Int32)), .unset, .unset, .unset, .unset] [(.ref en1)])) _
        refine XS.astore X24.here hx rfl (hb hby at_149) rfl rfl (l' := #[.val (.int x0), .val (.int x1), .val (.int x2), .val (.int bits), .val (.int (2 : Int32)), .val (.int (0 : Int32)), .val (.ref o), .val (.ref en0), .val (.ref en1), .val (.ref en2), .val (.ref en0), .val (.int (1 : Int32)), .val (.ref en1), .unset, .unset, .unset]) rfl ?_
        show Steps p.tables e below (T24.setTop (mkF m 151 #[.val (.int x0), .val (.int x1), .val (.int x2), .val (.int bits), .val (.int (2 : Int32)), .val (.int (0 : Int32)), .val (.ref o), .val (.ref en0), .val (.ref en1), .val (.ref en2), .val (.ref en0), .val (.int (1 : Int32)), .val (.ref en1), .unset, .unset, .unset] [])) _
        refine XS.iload X24.here hx rfl (hb hby at_151) rfl ?_
        show Steps p.tables e below (T24.setTop (mkF m 153 #[.val (.int x0), .val (.int x1), .val (.int x2), .val (.int bits), .val (.int (2 : Int32)), .val (.int (0 : Int32)), .val (.ref o), .val (.ref en0), .val (.ref en1), .val (.ref en2), .val (.ref en0), .val (.int (1 : Int32)), .val (.ref en1), .unset, .unset, .unset] [(.int (0 : Int32))])) _
        refine XS.iconst X24.here hx rfl (hb hby at_153) ?_
        show Steps p.tables e below (T24.setTop (mkF m 154 #[.val (.int x0), .val (.int x1), .val (.int x2), .val (.int bits), .val (.int (2 : Int32)), .val (.int (0 : Int32)), .val (.ref o), .val (.ref en0), .val (.ref en1), .val (.ref en2), .val (.ref en0), .val (.int (1 : Int32)), .val (.ref en1), .unset, .unset, .unset] [(.int (2 : Int32)), (.int (0 : Int32))])) _
        refine XS.icmpYes X24.here hx rfl (pc0 := 154) (pc' := 162) rfl (hb hby at_154) rfl (feq (by decide)).2 (by decide) (by decide) ?_
        show Steps p.tables e below (T24.setTop (mkF m 162 #[.val (.int x0), .val (.int x1), .val (.int x2), .val (.int bits), .val (.int (2 : Int32)), .val (.int (0 : Int32)), .val (.ref o), .val (.ref en0), .val (.ref en1), .val (.ref en2), .val (.ref en0), .val (.int (1 : Int32)), .val (.ref en1), .unset, .unset, .unset] [])) _
        refine XS.aload X24.here hx rfl (hb hby at_162) rfl rfl ?_
        show Steps p.tables e below (T24.setTop (mkF m 164 #[.val (.int x0), .val (.int x1), .val (.int x2), .val (.int bits), .val (.int (2 : Int32)), .val (.int (0 : Int32)), .val (.ref o), .val (.ref en0), .val (.ref en1), .val (.ref en2), .val (.ref en0), .val (.int (1 : Int32)), .val (.ref en1), .unset, .unset, .unset] [(.ref en2)])) _
        refine XS.astore X24.here hx rfl (hb hby at_164) rfl rfl (l' := #[.val (.int x0), .val (.int x1), .val (.int x2), .val (.int bits), .val (.int (2 : Int32)), .val (.int (0 : Int32)), .val (.ref o), .val (.ref en0), .val (.ref en1), .val (.ref en2), .val (.ref en0), .val (.int (1 : Int32)), .val (.ref en1), .val (.ref en2), .unset, .unset]) rfl ?_
        show Steps p.tables e below (T24.setTop (mkF m 166 #[.val (.int x0), .val (.int x1), .val (.int x2), .val (.int bits), .val (.int (2 : Int32)), .val (.int (0 : Int32)), .val (.ref o), .val (.ref en0), .val (.ref en1), .val (.ref en2), .val (.ref en0), .val (.int (1 : Int32)), .val (.ref en1), .val (.ref en2), .unset, .unset] [])) _
        refine XS.iload X24.here hx rfl (hb hby at_166) rfl ?_
        show Steps p.tables e below (T24.setTop (mkF m 168 #[.val (.int x0), .val (.int x1), .val (.int x2), .val (.int bits), .val (.int (2 : Int32)), .val (.int (0 : Int32)), .val (.ref o), .val (.ref en0), .val (.ref en1), .val (.ref en2), .val (.ref en0), .val (.int (1 : Int32)), .val (.ref en1), .val (.ref en2), .unset, .unset] [(.int (1 : Int32))])) _
        refine XS.ifYes X24.here hx rfl (pc0 := 168) (pc' := 189) rfl (hb hby at_168) rfl ((if0 _ _).trans (feq (by decide)).2) (by decide) (by decide) ?_
        show Steps p.tables e below (T24.setTop (mkF m 189 #[.val (.int x0), .val (.int x1), .val (.int x2), .val (.int bits), .val (.int (2 : Int32)), .val (.int (0 : Int32)), .val (.ref o), .val (.ref en0), .val (.ref en1), .val (.ref en2), .val (.ref en0), .val (.int (1 : Int32)), .val (.ref en1), .val (.ref en2), .unset, .unset] [])) _
        refine XS.iload X24.here hx rfl (hb hby at_189) rfl ?_
        show Steps p.tables e below (T24.setTop (mkF m 191 #[.val (.int x0), .val (.int x1), .val (.int x2), .val (.int bits), .val (.int (2 : Int32)), .val (.int (0 : Int32)), .val (.ref o), .val (.ref en0), .val (.ref en1), .val (.ref en2), .val (.ref en0), .val (.int (1 : Int32)), .val (.ref en1), .val (.ref en2), .unset, .unset] [(.int (1 : Int32))])) _
        refine XS.iconst X24.here hx rfl (hb hby at_191) ?_
        show Steps p.tables e below (T24.setTop (mkF m 192 #[.val (.int x0), .val (.int x1), .val (.int x2), .val (.int bits), .val (.int (2 : Int32)), .val (.int (0 : Int32)), .val (.ref o), .val (.ref en0), .val (.ref en1), .val (.ref en2), .val (.ref en0), .val (.int (1 : Int32)), .val (.ref en1), .val (.ref en2), .unset, .unset] [(.int (1 : Int32)), (.int (1 : Int32))])) _
        refine XS.icmpNo X24.here hx rfl (hb hby at_192) rfl (teq rfl).2 ?_
        show Steps p.tables e below (T24.setTop (mkF m 195 #[.val (.int x0), .val (.int x1), .val (.int x2), .val (.int bits), .val (.int (2 : Int32)), .val (.int (0 : Int32)), .val (.ref o), .val (.ref en0), .val (.ref en1), .val (.ref en2), .val (.ref en0), .val (.int (1 : Int32)), .val (.ref en1), .val (.ref en2), .unset, .unset] [])) _
        refine XS.aload X24.here hx rfl (hb hby at_195) rfl rfl ?_
        show Steps p.tables e below (T24.setTop (mkF m 197 #[.val (.int x0), .val (.int x1), .val (.int x2), .val (.int bits), .val (.int (2 : Int32)), .val (.int (0 : Int32)), .val (.ref o), .val (.ref en0), .val (.ref en1), .val (.ref en2), .val (.ref en0), .val (.int (1 : Int32)), .val (.ref en1), .val (.ref en2), .unset, .unset] [(.ref o)])) _
        exact kt
      obtain ⟨cq25, kq25, q25a, q25b, q25c⟩ := isOf hZ rfl E_o
      obtain ⟨_, _, ⟨T25, L25, k25, n25⟩, -, X25, ⟨Lc25, hQ25, l25, y25, z25⟩, st25⟩ := X24.virtualBack hx (y := (⟨"com/example/round_table/roundtable/engine/OrderList", "last", "()Lcom/example/round_table/roundtable/engine/OrderList$Entry;"⟩ : MethodName)) (z := (⟨"com/example/round_table/roundtable/engine/OrderList", "last", "()Lcom/example/round_table/roundtable/engine/OrderList$Entry;"⟩ : MethodName)) hown (mvT hZ (hw _ (List.mem_of_getElem? (i := 58) rfl))) (mvT hZ (hw _ (List.mem_of_getElem? (i := 33) rfl))) (notFace_of_selects (args := #[]) (mvT hZ (hw _ (List.mem_of_getElem? (i := 35) rfl)))) (mvT hZ (hw _ (List.mem_of_getElem? (i := 35) rfl))) (mvT hZ (hw _ (List.mem_of_getElem? (i := 34) rfl))) (by decide) (backOf (W := 0) (rm_lastN l Z a0 hw [] o hd en1 T24.heap n0 Z24 F_head_o F_last_o (Ne.symm ne_hd_en1)) hZ (hw _ (List.mem_of_getElem? (i := 36) rfl)) (hw _ (List.mem_of_getElem? (i := 3) rfl)) (by decide) (by decide)) q25a q25c (g := (mkF m 197 #[.val (.int x0), .val (.int x1), .val (.int x2), .val (.int bits), .val (.int (2 : Int32)), .val (.int (0 : Int32)), .val (.ref o), .val (.ref en0), .val (.ref en1), .val (.ref en2), .val (.ref en0), .val (.int (1 : Int32)), .val (.ref en1), .val (.ref en2), .unset, .unset] [(.ref o)])) rfl (by rw [hml]; rfl) (Steps.refl _) (argsL := []) (rest := []) (lenOf pd_2 rfl) rfl (by show 2 * 0 + _ ≤ _; exact Nat.le_of_eq rfl) (hb hby at_197) (fun _ _ => ⟨rfl, rfl, (by decide : 5 + 0 ≤ _), (by decide : 16 + 0 ≤ _)⟩)
      dsimp only [Pt.U, Pt.locs, Pt.cells, Pt.slots] at X25 l25 y25 z25 st25 hQ25
      subst l25 y25 z25
      obtain ⟨rfl, N25q, e25⟩ := hQ25
      have N25 := Fr.app N24 N25q
      refine RunsTo.of (T' := T25) (g' := (mkF m 200 #[.val (.int x0), .val (.int x1), .val (.int x2), .val (.int bits), .val (.int (2 : Int32)), .val (.int (0 : Int32)), .val (.ref o), .val (.ref en0), .val (.ref en1), .val (.ref en2), .val (.ref en0), .val (.int (1 : Int32)), .val (.ref en1), .val (.ref en2), .unset, .unset] [(.ref en1)])) (fun _ kt => st25.trans kt) ?_
      refine RunsTo.of (T' := T25) (g' := (mkF m 209 #[.val (.int x0), .val (.int x1), .val (.int x2), .val (.int bits), .val (.int (2 : Int32)), .val (.int (0 : Int32)), .val (.ref o), .val (.ref en0), .val (.ref en1), .val (.ref en2), .val (.ref en0), .val (.int (1 : Int32)), .val (.ref en1), .val (.ref en2), .unset, .unset] [(.ref en1), (.ref o)])) (fun tgt_ kt => ?_) ?_
      · refine XS.aload X25.here hx rfl (hb hby at_200) rfl rfl ?_
        show Steps p.tables e below (T25.setTop (mkF m 202 #[.val (.int x0), .val (.int x1), .val (.int x2), .val (.int bits), .val (.int (2 : Int32)), .val (.int (0 : Int32)), .val (.ref o), .val (.ref en0), .val (.ref en1), .val (.ref en2), .val (.ref en0), .val (.int (1 : Int32)), .val (.ref en1), .val (.ref en2), .unset, .unset] [(.ref en1), (.ref en1)])) _
        refine Jvm.RoadKit.acmp (g := (mkF m 202 #[.val (.int x0), .val (.int x1), .val (.int x2), .val (.int bits), .val (.int (2 : Int32)), .val (.int (0 : Int32)), .val (.ref o), .val (.ref en0), .val (.ref en1), .val (.ref en2), .val (.ref en0), .val (.int (1 : Int32)), .val (.ref en1), .val (.ref en2), .unset, .unset] [(.ref en1), (.ref en1)])) X25 hx rfl rfl rfl (pc0 := 202) (pc' := 205) (same := true) rfl (hb hby at_202) rfl (decide_eq_true (congrArg Value.ref rfl)) (by decide) (by decide) ?_
        show Steps p.tables e below (T25.setTop (mkF m 205 #[.val (.int x0), .val (.int x1), .val (.int x2), .val (.int bits), .val (.int (2 : Int32)), .val (.int (0 : Int32)), .val (.ref o), .val (.ref en0), .val (.ref en1), .val (.ref en2), .val (.ref en0), .val (.int (1 : Int32)), .val (.ref en1), .val (.ref en2), .unset, .unset] [])) _
        refine XS.aload X25.here hx rfl (hb hby at_205) rfl rfl ?_
        show Steps p.tables e below (T25.setTop (mkF m 207 #[.val (.int x0), .val (.int x1), .val (.int x2), .val (.int bits), .val (.int (2 : Int32)), .val (.int (0 : Int32)), .val (.ref o), .val (.ref en0), .val (.ref en1), .val (.ref en2), .val (.ref en0), .val (.int (1 : Int32)), .val (.ref en1), .val (.ref en2), .unset, .unset] [(.ref o)])) _
        refine XS.aload X25.here hx rfl (hb hby at_207) rfl rfl ?_
        show Steps p.tables e below (T25.setTop (mkF m 209 #[.val (.int x0), .val (.int x1), .val (.int x2), .val (.int bits), .val (.int (2 : Int32)), .val (.int (0 : Int32)), .val (.ref o), .val (.ref en0), .val (.ref en1), .val (.ref en2), .val (.ref en0), .val (.int (1 : Int32)), .val (.ref en1), .val (.ref en2), .unset, .unset] [(.ref en1), (.ref o)])) _
        exact kt
      obtain ⟨cq26, kq26, q26a, q26b, q26c⟩ := isOf hZ e25 E_o
      obtain ⟨_, _, ⟨T26, L26, k26, n26⟩, -, X26, ⟨Lc26, hQ26, l26, y26, z26⟩, st26⟩ := X25.virtualBack hx (y := (⟨"com/example/round_table/roundtable/engine/OrderList", "previous", "(Lcom/example/round_table/roundtable/engine/OrderList$Entry;)Lcom/example/round_table/roundtable/engine/OrderList$Entry;"⟩ : MethodName)) (z := (⟨"com/example/round_table/roundtable/engine/OrderList", "previous", "(Lcom/example/round_table/roundtable/engine/OrderList$Entry;)Lcom/example/round_table/roundtable/engine/OrderList$Entry;"⟩ : MethodName)) hown (mvT hZ (hw _ (List.mem_of_getElem? (i := 65) rfl))) (mvT hZ (hw _ (List.mem_of_getElem? (i := 66) rfl))) (notFace_of_selects (args := #[]) (mvT hZ (hw _ (List.mem_of_getElem? (i := 68) rfl)))) (mvT hZ (hw _ (List.mem_of_getElem? (i := 68) rfl))) (mvT hZ (hw _ (List.mem_of_getElem? (i := 67) rfl))) (by decide) (backOf (W := 0) (rm_prevE l Z a0 hw [] o en1 hd T24.heap n0 Z24 F_head_o F_previous_en1) hZ (hw _ (List.mem_of_getElem? (i := 69) rfl)) (hw _ (List.mem_of_getElem? (i := 3) rfl)) (by decide) (by decide)) q26a q26c (g := (mkF m 209 #[.val (.int x0), .val (.int x1), .val (.int x2), .val (.int bits), .val (.int (2 : Int32)), .val (.int (0 : Int32)), .val (.ref o), .val (.ref en0), .val (.ref en1), .val (.ref en2), .val (.ref en0), .val (.int (1 : Int32)), .val (.ref en1), .val (.ref en2), .unset, .unset] [(.ref en1), (.ref o)])) rfl (by rw [hml]; rfl) (Steps.refl _) (argsL := [(.ref en1)]) (rest := []) (lenOf pd_6 rfl) rfl (by show 2 * 0 + _ ≤ _; exact Nat.le_of_eq rfl) (hb hby at_209) (fun _ _ => ⟨rfl, e25, (by decide : 5 + 0 ≤ _), (by decide : 16 + 0 ≤ _)⟩)
      dsimp only [Pt.U, Pt.locs, Pt.cells, Pt.slots] at X26 l26 y26 z26 st26 hQ26
      subst l26 y26 z26
      obtain ⟨rfl, N26q, e26⟩ := hQ26
      have N26 := Fr.app N25 N26q
      refine RunsTo.of (T' := T26) (g' := (mkF m 212 #[.val (.int x0), .val (.int x1), .val (.int x2), .val (.int bits), .val (.int (2 : Int32)), .val (.int (0 : Int32)), .val (.ref o), .val (.ref en0), .val (.ref en1), .val (.ref en2), .val (.ref en0), .val (.int (1 : Int32)), .val (.ref en1), .val (.ref en2), .unset, .unset] [.null])) (fun _ kt => st26.trans kt) ?_
      refine RunsTo.of (T' := T26) (g' := (mkF m 219 #[.val (.int x0), .val (.int x1), .val (.int x2), .val (.int bits), .val (.int (2 : Int32)), .val (.int (0 : Int32)), .val (.ref o), .val (.ref en0), .val (.ref en1), .val (.ref en2), .val (.ref en0), .val (.int (1 : Int32)), .val (.ref en1), .val (.ref en2), .unset, .unset] [(.ref en1), (.ref o)])) (fun tgt_ kt => ?_) ?_
      · refine XS.ifnonnullNo X26.here hx rfl (hb hby at_212) rfl ?_
        show Steps p.tables e below (T26.setTop (mkF m 215 #[.val (.int x0), .val (.int x1), .val (.int x2), .val (.int bits), .val (.int (2 : Int32)), .val (.int (0 : Int32)), .val (.ref o), .val (.ref en0), .val (.ref en1), .val (.ref en2), .val (.ref en0), .val (.int (1 : Int32)), .val (.ref en1), .val (.ref en2), .unset, .unset] [])) _
        refine XS.aload X26.here hx rfl (hb hby at_215) rfl rfl ?_
        show Steps p.tables e below (T26.setTop (mkF m 217 #[.val (.int x0), .val (.int x1), .val (.int x2), .val (.int bits), .val (.int (2 : Int32)), .val (.int (0 : Int32)), .val (.ref o), .val (.ref en0), .val (.ref en1), .val (.ref en2), .val (.ref en0), .val (.int (1 : Int32)), .val (.ref en1), .val (.ref en2), .unset, .unset] [(.ref o)])) _
        refine XS.aload X26.here hx rfl (hb hby at_217) rfl rfl ?_
        show Steps p.tables e below (T26.setTop (mkF m 219 #[.val (.int x0), .val (.int x1), .val (.int x2), .val (.int bits), .val (.int (2 : Int32)), .val (.int (0 : Int32)), .val (.ref o), .val (.ref en0), .val (.ref en1), .val (.ref en2), .val (.ref en0), .val (.int (1 : Int32)), .val (.ref en1), .val (.ref en2), .unset, .unset] [(.ref en1), (.ref o)])) _
        exact kt
      obtain ⟨cq27, kq27, q27a, q27b, q27c⟩ := isOf hZ e26 E_o
      obtain ⟨_, _, ⟨T27, L27, k27, n27⟩, -, X27, ⟨Lc27, hQ27, l27, y27, z27⟩, st27⟩ := X26.virtualBack hx (y := (⟨"com/example/round_table/roundtable/engine/OrderList", "next", "(Lcom/example/round_table/roundtable/engine/OrderList$Entry;)Lcom/example/round_table/roundtable/engine/OrderList$Entry;"⟩ : MethodName)) (z := (⟨"com/example/round_table/roundtable/engine/OrderList", "next", "(Lcom/example/round_table/roundtable/engine/OrderList$Entry;)Lcom/example/round_table/roundtable/engine/OrderList$Entry;"⟩ : MethodName)) hown (mvT hZ (hw _ (List.mem_of_getElem? (i := 60) rfl))) (mvT hZ (hw _ (List.mem_of_getElem? (i := 61) rfl))) (notFace_of_selects (args := #[]) (mvT hZ (hw _ (List.mem_of_getElem? (i := 63) rfl)))) (mvT hZ (hw _ (List.mem_of_getElem? (i := 63) rfl))) (mvT hZ (hw _ (List.mem_of_getElem? (i := 62) rfl))) (by decide) (backOf (W := 0) (rm9 l Z a0 hw [] o en1 .null rfl T24.heap n0 Z24 F_next_en1) hZ (hw _ (List.mem_of_getElem? (i := 64) rfl)) (hw _ (List.mem_of_getElem? (i := 3) rfl)) (by decide) (by decide)) q27a q27c (g := (mkF m 219 #[.val (.int x0), .val (.int x1), .val (.int x2), .val (.int bits), .val (.int (2 : Int32)), .val (.int (0 : Int32)), .val (.ref o), .val (.ref en0), .val (.ref en1), .val (.ref en2), .val (.ref en0), .val (.int (1 : Int32)), .val (.ref en1), .val (.ref en2), .unset, .unset] [(.ref en1), (.ref o)])) rfl (by rw [hml]; rfl) (Steps.refl _) (argsL := [(.ref en1)]) (rest := []) (lenOf pd_6 rfl) rfl (by show 2 * 0 + _ ≤ _; exact Nat.le_of_eq rfl) (hb hby at_219) (fun _ _ => ⟨rfl, e26, (by decide : 5 + 0 ≤ _), (by decide : 16 + 0 ≤ _)⟩)
      dsimp only [Pt.U, Pt.locs, Pt.cells, Pt.slots] at X27 l27 y27 z27 st27 hQ27
      subst l27 y27 z27
      obtain ⟨rfl, N27q, e27⟩ := hQ27
      have N27 := Fr.app N26 N27q
      refine RunsTo.of (T' := T27) (g' := (mkF m 222 #[.val (.int x0), .val (.int x1), .val (.int x2), .val (.int bits), .val (.int (2 : Int32)), .val (.int (0 : Int32)), .val (.ref o), .val (.ref en0), .val (.ref en1), .val (.ref en2), .val (.ref en0), .val (.int (1 : Int32)), .val (.ref en1), .val (.ref en2), .unset, .unset] [.null])) (fun _ kt => st27.trans kt) ?_
      refine RunsTo.of (T' := T27) (g' := (mkF m 301 #[.val (.int x0), .val (.int x1), .val (.int x2), .val (.int bits), .val (.int (2 : Int32)), .val (.int (0 : Int32)), .val (.ref o), .val (.ref en0), .val (.ref en1), .val (.ref en2), .val (.ref en0), .val (.int (1 : Int32)), .val (.ref en1), .val (.ref en2), .val (.int (1 : Int32)), .unset] [(.ref en0), .null, (.ref o)])) (fun tgt_ kt => ?_) ?_
      · refine XS.ifnonnullNo X27.here hx rfl (hb hby at_222) rfl ?_
        show Steps p.tables e below (T27.setTop (mkF m 225 #[.val (.int x0), .val (.int x1), .val (.int x2), .val (.int bits), .val (.int (2 : Int32)), .val (.int (0 : Int32)), .val (.ref o), .val (.ref en0), .val (.ref en1), .val (.ref en2), .val (.ref en0), .val (.int (1 : Int32)), .val (.ref en1), .val (.ref en2), .unset, .unset] [])) _
        refine XS.iconst X27.here hx rfl (hb hby at_225) ?_
        show Steps p.tables e below (T27.setTop (mkF m 226 #[.val (.int x0), .val (.int x1), .val (.int x2), .val (.int bits), .val (.int (2 : Int32)), .val (.int (0 : Int32)), .val (.ref o), .val (.ref en0), .val (.ref en1), .val (.ref en2), .val (.ref en0), .val (.int (1 : Int32)), .val (.ref en1), .val (.ref en2), .unset, .unset] [(.int (1 : Int32))])) _
        refine XS.goto X27.here hx rfl (pc0 := 226) (pc' := 230) rfl (hb hby at_226) (by decide) (by decide) ?_
        show Steps p.tables e below (T27.setTop (mkF m 230 #[.val (.int x0), .val (.int x1), .val (.int x2), .val (.int bits), .val (.int (2 : Int32)), .val (.int (0 : Int32)), .val (.ref o), .val (.ref en0), .val (.ref en1), .val (.ref en2), .val (.ref en0), .val (.int (1 : Int32)), .val (.ref en1), .val (.ref en2), .unset, .unset] [(.int (1 : Int32))])) _
        refine XS.istore X27.here hx rfl (hb hby at_230) rfl (l' := #[.val (.int x0), .val (.int x1), .val (.int x2), .val (.int bits), .val (.int (2 : Int32)), .val (.int (0 : Int32)), .val (.ref o), .val (.ref en0), .val (.ref en1), .val (.ref en2), .val (.ref en0), .val (.int (1 : Int32)), .val (.ref en1), .val (.ref en2), .val (.int (1 : Int32)), .unset]) rfl ?_
        show Steps p.tables e below (T27.setTop (mkF m 232 #[.val (.int x0), .val (.int x1), .val (.int x2), .val (.int bits), .val (.int (2 : Int32)), .val (.int (0 : Int32)), .val (.ref o), .val (.ref en0), .val (.ref en1), .val (.ref en2), .val (.ref en0), .val (.int (1 : Int32)), .val (.ref en1), .val (.ref en2), .val (.int (1 : Int32)), .unset] [])) _
        refine XS.goto X27.here hx rfl (pc0 := 232) (pc' := 296) rfl (hb hby at_232) (by decide) (by decide) ?_
        show Steps p.tables e below (T27.setTop (mkF m 296 #[.val (.int x0), .val (.int x1), .val (.int x2), .val (.int bits), .val (.int (2 : Int32)), .val (.int (0 : Int32)), .val (.ref o), .val (.ref en0), .val (.ref en1), .val (.ref en2), .val (.ref en0), .val (.int (1 : Int32)), .val (.ref en1), .val (.ref en2), .val (.int (1 : Int32)), .unset] [])) _
        refine XS.aload X27.here hx rfl (hb hby at_296) rfl rfl ?_
        show Steps p.tables e below (T27.setTop (mkF m 298 #[.val (.int x0), .val (.int x1), .val (.int x2), .val (.int bits), .val (.int (2 : Int32)), .val (.int (0 : Int32)), .val (.ref o), .val (.ref en0), .val (.ref en1), .val (.ref en2), .val (.ref en0), .val (.int (1 : Int32)), .val (.ref en1), .val (.ref en2), .val (.int (1 : Int32)), .unset] [(.ref o)])) _
        refine XS.aconstNull X27.here hx rfl (hb hby at_298) ?_
        show Steps p.tables e below (T27.setTop (mkF m 299 #[.val (.int x0), .val (.int x1), .val (.int x2), .val (.int bits), .val (.int (2 : Int32)), .val (.int (0 : Int32)), .val (.ref o), .val (.ref en0), .val (.ref en1), .val (.ref en2), .val (.ref en0), .val (.int (1 : Int32)), .val (.ref en1), .val (.ref en2), .val (.int (1 : Int32)), .unset] [.null, (.ref o)])) _
        refine XS.aload X27.here hx rfl (hb hby at_299) rfl rfl ?_
        show Steps p.tables e below (T27.setTop (mkF m 301 #[.val (.int x0), .val (.int x1), .val (.int x2), .val (.int bits), .val (.int (2 : Int32)), .val (.int (0 : Int32)), .val (.ref o), .val (.ref en0), .val (.ref en1), .val (.ref en2), .val (.ref en0), .val (.int (1 : Int32)), .val (.ref en1), .val (.ref en2), .val (.int (1 : Int32)), .unset] [(.ref en0), .null, (.ref o)])) _
        exact kt
      obtain ⟨cq28, kq28, q28a, q28b, q28c⟩ := isOf hZ e27 E_o
      obtain ⟨_, _, ⟨T28, L28, k28, n28⟩, -, X28, ⟨Lc28, hQ28, l28, y28, z28⟩, st28⟩ := X27.virtualBack hx (y := (⟨"com/example/round_table/roundtable/engine/OrderList", "insertAfter", "(Lcom/example/round_table/roundtable/engine/OrderList$Entry;Lcom/example/round_table/roundtable/engine/OrderList$Entry;)V"⟩ : MethodName)) (z := (⟨"com/example/round_table/roundtable/engine/OrderList", "insertAfter", "(Lcom/example/round_table/roundtable/engine/OrderList$Entry;Lcom/example/round_table/roundtable/engine/OrderList$Entry;)V"⟩ : MethodName)) hown (mvT hZ (hw _ (List.mem_of_getElem? (i := 59) rfl))) (mvT hZ (hw _ (List.mem_of_getElem? (i := 38) rfl))) (notFace_of_selects (args := #[]) (mvT hZ (hw _ (List.mem_of_getElem? (i := 40) rfl)))) (mvT hZ (hw _ (List.mem_of_getElem? (i := 40) rfl))) (mvT hZ (hw _ (List.mem_of_getElem? (i := 39) rfl))) (by decide) (backOf (W := 0) (rm_insF l Z a0 hw [] o en0 hd en1 (.ref en1) bits eg lab_en1 lab_en0 .null T24.heap n0 Z24 E_o g_o F_head_o F_last_o F_labelBits_o F_endGap_o E_hd g_hd F_label_hd F_previous_hd F_next_hd E_en1 g_en1 F_label_en1 F_previous_en1 F_next_en1 E_en0 g_en0 F_label_en0 F_previous_en0 F_next_en0 ne_o_hd ne_o_en0 ne_o_en1 ne_hd_en0 ne_hd_en1 (Ne.symm ne_en0_en1) (by omega)) hZ (hw _ (List.mem_of_getElem? (i := 41) rfl)) (hw _ (List.mem_of_getElem? (i := 3) rfl)) (by decide) (by decide)) q28a q28c (g := (mkF m 301 #[.val (.int x0), .val (.int x1), .val (.int x2), .val (.int bits), .val (.int (2 : Int32)), .val (.int (0 : Int32)), .val (.ref o), .val (.ref en0), .val (.ref en1), .val (.ref en2), .val (.ref en0), .val (.int (1 : Int32)), .val (.ref en1), .val (.ref en2), .val (.int (1 : Int32)), .unset] [(.ref en0), .null, (.ref o)])) rfl (by rw [hml]; rfl) (Steps.refl _) (argsL := [.null, (.ref en0)]) (rest := []) (lenOf pd_3 rfl) rfl (by show 2 * 0 + _ ≤ _; exact Nat.le_of_eq rfl) (hb hby at_301) (fun _ _ => ⟨rfl, e27, (by decide : 5 + 0 ≤ _), (by decide : 16 + 0 ≤ _)⟩)
      dsimp only [Pt.U, Pt.locs, Pt.cells, Pt.slots] at X28 l28 y28 z28 st28 hQ28
      subst l28 y28 z28
      obtain ⟨rfl, N28q, K28, F_next_en0⟩ := hQ28
      have N28 := Fr.app N27 N28q
      have Z28 : n0 ≤ T28.heap.size := Nat.le_trans Z24 K28.1
      have E_o := E_o.keep K28
      have E_hd := E_hd.keep K28
      have E_en0 := E_en0.keep K28
      have E_en1 := E_en1.keep K28
      have F_next_en2 := F_next_en2.keep K28 (ninS (Ne.symm ne_o_en2) (ninS (Ne.symm ne_hd_en2) (ninS (Ne.symm ne_en1_en2) (ninS (Ne.symm ne_en0_en2) nin0))))
      have F_previous_en2 := F_previous_en2.keep K28 (ninS (Ne.symm ne_o_en2) (ninS (Ne.symm ne_hd_en2) (ninS (Ne.symm ne_en1_en2) (ninS (Ne.symm ne_en0_en2) nin0))))
      have F_label_en2 := F_label_en2.keep K28 (ninS (Ne.symm ne_o_en2) (ninS (Ne.symm ne_hd_en2) (ninS (Ne.symm ne_en1_en2) (ninS (Ne.symm ne_en0_en2) nin0))))
      have E_en2 := E_en2.keep K28
      refine RunsTo.of (T' := T28) (g' := (mkF m 304 #[.val (.int x0), .val (.int x1), .val (.int x2), .val (.int bits), .val (.int (2 : Int32)), .val (.int (0 : Int32)), .val (.ref o), .val (.ref en0), .val (.ref en1), .val (.ref en2), .val (.ref en0), .val (.int (1 : Int32)), .val (.ref en1), .val (.ref en2), .val (.int (1 : Int32)), .unset] [])) (fun _ kt => st28.trans kt) ?_
      refine RunsTo.of (T' := T28) (g' := (mkF m 326 #[.val (.int x0), .val (.int x1), .val (.int x2), .val (.int bits), .val (.int (2 : Int32)), .val (.int (0 : Int32)), .val (.ref o), .val (.ref en0), .val (.ref en1), .val (.ref en2), .val (.ref en0), .val (.int (1 : Int32)), .val (.ref en1), .val (.ref en2), .val (.int (1 : Int32)), .val (.ref en1)] [(.ref en0), (.ref o)])) (fun tgt_ kt => ?_) ?_
      · refine XS.iload X28.here hx rfl (hb hby at_304) rfl ?_
        show Steps p.tables e below (T28.setTop (mkF m 306 #[.val (.int x0), .val (.int x1), .val (.int x2), .val (.int bits), .val (.int (2 : Int32)), .val (.int (0 : Int32)), .val (.ref o), .val (.ref en0), .val (.ref en1), .val (.ref en2), .val (.ref en0), .val (.int (1 : Int32)), .val (.ref en1), .val (.ref en2), .val (.int (1 : Int32)), .unset] [(.int (1 : Int32))])) _
        refine XS.ifYes X28.here hx rfl (pc0 := 306) (pc' := 313) rfl (hb hby at_306) rfl ((if0 _ _).trans (feq (by decide)).2) (by decide) (by decide) ?_
        show Steps p.tables e below (T28.setTop (mkF m 313 #[.val (.int x0), .val (.int x1), .val (.int x2), .val (.int bits), .val (.int (2 : Int32)), .val (.int (0 : Int32)), .val (.ref o), .val (.ref en0), .val (.ref en1), .val (.ref en2), .val (.ref en0), .val (.int (1 : Int32)), .val (.ref en1), .val (.ref en2), .val (.int (1 : Int32)), .unset] [])) _
        refine XS.aload X28.here hx rfl (hb hby at_313) rfl rfl ?_
        show Steps p.tables e below (T28.setTop (mkF m 315 #[.val (.int x0), .val (.int x1), .val (.int x2), .val (.int bits), .val (.int (2 : Int32)), .val (.int (0 : Int32)), .val (.ref o), .val (.ref en0), .val (.ref en1), .val (.ref en2), .val (.ref en0), .val (.int (1 : Int32)), .val (.ref en1), .val (.ref en2), .val (.int (1 : Int32)), .unset] [(.ref en1)])) _
        refine XS.astore X28.here hx rfl (hb hby at_315) rfl rfl (l' := #[.val (.int x0), .val (.int x1), .val (.int x2), .val (.int bits), .val (.int (2 : Int32)), .val (.int (0 : Int32)), .val (.ref o), .val (.ref en0), .val (.ref en1), .val (.ref en2), .val (.ref en0), .val (.int (1 : Int32)), .val (.ref en1), .val (.ref en2), .val (.int (1 : Int32)), .val (.ref en1)]) rfl ?_
        show Steps p.tables e below (T28.setTop (mkF m 317 #[.val (.int x0), .val (.int x1), .val (.int x2), .val (.int bits), .val (.int (2 : Int32)), .val (.int (0 : Int32)), .val (.ref o), .val (.ref en0), .val (.ref en1), .val (.ref en2), .val (.ref en0), .val (.int (1 : Int32)), .val (.ref en1), .val (.ref en2), .val (.int (1 : Int32)), .val (.ref en1)] [])) _
        refine XS.iload X28.here hx rfl (hb hby at_317) rfl ?_
        show Steps p.tables e below (T28.setTop (mkF m 319 #[.val (.int x0), .val (.int x1), .val (.int x2), .val (.int bits), .val (.int (2 : Int32)), .val (.int (0 : Int32)), .val (.ref o), .val (.ref en0), .val (.ref en1), .val (.ref en2), .val (.ref en0), .val (.int (1 : Int32)), .val (.ref en1), .val (.ref en2), .val (.int (1 : Int32)), .val (.ref en1)] [(.int (1 : Int32))])) _
        refine XS.ifNo X28.here hx rfl (hb hby at_319) rfl ((if0 _ _).trans (feq (by decide)).1) ?_
        show Steps p.tables e below (T28.setTop (mkF m 322 #[.val (.int x0), .val (.int x1), .val (.int x2), .val (.int bits), .val (.int (2 : Int32)), .val (.int (0 : Int32)), .val (.ref o), .val (.ref en0), .val (.ref en1), .val (.ref en2), .val (.ref en0), .val (.int (1 : Int32)), .val (.ref en1), .val (.ref en2), .val (.int (1 : Int32)), .val (.ref en1)] [])) _
        refine XS.aload X28.here hx rfl (hb hby at_322) rfl rfl ?_
        show Steps p.tables e below (T28.setTop (mkF m 324 #[.val (.int x0), .val (.int x1), .val (.int x2), .val (.int bits), .val (.int (2 : Int32)), .val (.int (0 : Int32)), .val (.ref o), .val (.ref en0), .val (.ref en1), .val (.ref en2), .val (.ref en0), .val (.int (1 : Int32)), .val (.ref en1), .val (.ref en2), .val (.int (1 : Int32)), .val (.ref en1)] [(.ref o)])) _
        refine XS.aload X28.here hx rfl (hb hby at_324) rfl rfl ?_
        show Steps p.tables e below (T28.setTop (mkF m 326 #[.val (.int x0), .val (.int x1), .val (.int x2), .val (.int bits), .val (.int (2 : Int32)), .val (.int (0 : Int32)), .val (.ref o), .val (.ref en0), .val (.ref en1), .val (.ref en2), .val (.ref en0), .val (.int (1 : Int32)), .val (.ref en1), .val (.ref en2), .val (.int (1 : Int32)), .val (.ref en1)] [(.ref en0), (.ref o)])) _
        exact kt
      obtain ⟨cq29, kq29, q29a, q29b, q29c⟩ := isOf hZ rfl E_o
      obtain ⟨_, _, ⟨T29, L29, k29, n29⟩, -, X29, ⟨Lc29, hQ29, l29, y29, z29⟩, st29⟩ := X28.virtualBack hx (y := (⟨"com/example/round_table/roundtable/engine/OrderList", "next", "(Lcom/example/round_table/roundtable/engine/OrderList$Entry;)Lcom/example/round_table/roundtable/engine/OrderList$Entry;"⟩ : MethodName)) (z := (⟨"com/example/round_table/roundtable/engine/OrderList", "next", "(Lcom/example/round_table/roundtable/engine/OrderList$Entry;)Lcom/example/round_table/roundtable/engine/OrderList$Entry;"⟩ : MethodName)) hown (mvT hZ (hw _ (List.mem_of_getElem? (i := 60) rfl))) (mvT hZ (hw _ (List.mem_of_getElem? (i := 61) rfl))) (notFace_of_selects (args := #[]) (mvT hZ (hw _ (List.mem_of_getElem? (i := 63) rfl)))) (mvT hZ (hw _ (List.mem_of_getElem? (i := 63) rfl))) (mvT hZ (hw _ (List.mem_of_getElem? (i := 62) rfl))) (by decide) (backOf (W := 0) (rm9 l Z a0 hw [] o en0 (.ref en1) rfl T28.heap n0 Z28 F_next_en0) hZ (hw _ (List.mem_of_getElem? (i := 64) rfl)) (hw _ (List.mem_of_getElem? (i := 3) rfl)) (by decide) (by decide)) q29a q29c (g := (mkF m 326 #[.val (.int x0), .val (.int x1), .val (.int x2), .val (.int bits), .val (.int (2 : Int32)), .val (.int (0 : Int32)), .val (.ref o), .val (.ref en0), .val (.ref en1), .val (.ref en2), .val (.ref en0), .val (.int (1 : Int32)), .val (.ref en1), .val (.ref en2), .val (.int (1 : Int32)), .val (.ref en1)] [(.ref en0), (.ref o)])) rfl (by rw [hml]; rfl) (Steps.refl _) (argsL := [(.ref en0)]) (rest := []) (lenOf pd_6 rfl) rfl (by show 2 * 0 + _ ≤ _; exact Nat.le_of_eq rfl) (hb hby at_326) (fun _ _ => ⟨rfl, rfl, (by decide : 5 + 0 ≤ _), (by decide : 16 + 0 ≤ _)⟩)
      dsimp only [Pt.U, Pt.locs, Pt.cells, Pt.slots] at X29 l29 y29 z29 st29 hQ29
      subst l29 y29 z29
      obtain ⟨rfl, N29q, e29⟩ := hQ29
      have N29 := Fr.app N28 N29q
      refine RunsTo.of (T' := T29) (g' := (mkF m 329 #[.val (.int x0), .val (.int x1), .val (.int x2), .val (.int bits), .val (.int (2 : Int32)), .val (.int (0 : Int32)), .val (.ref o), .val (.ref en0), .val (.ref en1), .val (.ref en2), .val (.ref en0), .val (.int (1 : Int32)), .val (.ref en1), .val (.ref en2), .val (.int (1 : Int32)), .val (.ref en1)] [(.ref en1)])) (fun _ kt => st29.trans kt) ?_
      refine RunsTo.of (T' := T29) (g' := (mkF m 343 #[.val (.int x0), .val (.int x1), .val (.int x2), .val (.int bits), .val (.int (2 : Int32)), .val (.int (0 : Int32)), .val (.ref o), .val (.ref en0), .val (.ref en1), .val (.ref en2), .val (.ref en0), .val (.int (1 : Int32)), .val (.ref en1), .val (.ref en2), .val (.int (1 : Int32)), .val (.ref en1)] [(.int (1 : Int32))])) (fun tgt_ kt => ?_) ?_
      · refine XS.aload X29.here hx rfl (hb hby at_329) rfl rfl ?_
        show Steps p.tables e below (T29.setTop (mkF m 331 #[.val (.int x0), .val (.int x1), .val (.int x2), .val (.int bits), .val (.int (2 : Int32)), .val (.int (0 : Int32)), .val (.ref o), .val (.ref en0), .val (.ref en1), .val (.ref en2), .val (.ref en0), .val (.int (1 : Int32)), .val (.ref en1), .val (.ref en2), .val (.int (1 : Int32)), .val (.ref en1)] [(.ref en1), (.ref en1)])) _
        refine Jvm.RoadKit.acmp (g := (mkF m 331 #[.val (.int x0), .val (.int x1), .val (.int x2), .val (.int bits), .val (.int (2 : Int32)), .val (.int (0 : Int32)), .val (.ref o), .val (.ref en0), .val (.ref en1), .val (.ref en2), .val (.ref en0), .val (.int (1 : Int32)), .val (.ref en1), .val (.ref en2), .val (.int (1 : Int32)), .val (.ref en1)] [(.ref en1), (.ref en1)])) X29 hx rfl rfl rfl (pc0 := 331) (pc' := 334) (same := true) rfl (hb hby at_331) rfl (decide_eq_true (congrArg Value.ref rfl)) (by decide) (by decide) ?_
        show Steps p.tables e below (T29.setTop (mkF m 334 #[.val (.int x0), .val (.int x1), .val (.int x2), .val (.int bits), .val (.int (2 : Int32)), .val (.int (0 : Int32)), .val (.ref o), .val (.ref en0), .val (.ref en1), .val (.ref en2), .val (.ref en0), .val (.int (1 : Int32)), .val (.ref en1), .val (.ref en2), .val (.int (1 : Int32)), .val (.ref en1)] [])) _
        refine XS.iconst X29.here hx rfl (hb hby at_334) ?_
        show Steps p.tables e below (T29.setTop (mkF m 335 #[.val (.int x0), .val (.int x1), .val (.int x2), .val (.int bits), .val (.int (2 : Int32)), .val (.int (0 : Int32)), .val (.ref o), .val (.ref en0), .val (.ref en1), .val (.ref en2), .val (.ref en0), .val (.int (1 : Int32)), .val (.ref en1), .val (.ref en2), .val (.int (1 : Int32)), .val (.ref en1)] [(.int (1 : Int32))])) _
        refine XS.goto X29.here hx rfl (pc0 := 335) (pc' := 339) rfl (hb hby at_335) (by decide) (by decide) ?_
        show Steps p.tables e below (T29.setTop (mkF m 339 #[.val (.int x0), .val (.int x1), .val (.int x2), .val (.int bits), .val (.int (2 : Int32)), .val (.int (0 : Int32)), .val (.ref o), .val (.ref en0), .val (.ref en1), .val (.ref en2), .val (.ref en0), .val (.int (1 : Int32)), .val (.ref en1), .val (.ref en2), .val (.int (1 : Int32)), .val (.ref en1)] [(.int (1 : Int32))])) _
        refine XS.istore X29.here hx rfl (hb hby at_339) rfl (l' := #[.val (.int x0), .val (.int x1), .val (.int x2), .val (.int bits), .val (.int (2 : Int32)), .val (.int (0 : Int32)), .val (.ref o), .val (.ref en0), .val (.ref en1), .val (.ref en2), .val (.ref en0), .val (.int (1 : Int32)), .val (.ref en1), .val (.ref en2), .val (.int (1 : Int32)), .val (.ref en1)]) rfl ?_
        show Steps p.tables e below (T29.setTop (mkF m 341 #[.val (.int x0), .val (.int x1), .val (.int x2), .val (.int bits), .val (.int (2 : Int32)), .val (.int (0 : Int32)), .val (.ref o), .val (.ref en0), .val (.ref en1), .val (.ref en2), .val (.ref en0), .val (.int (1 : Int32)), .val (.ref en1), .val (.ref en2), .val (.int (1 : Int32)), .val (.ref en1)] [])) _
        refine XS.iload X29.here hx rfl (hb hby at_341) rfl ?_
        show Steps p.tables e below (T29.setTop (mkF m 343 #[.val (.int x0), .val (.int x1), .val (.int x2), .val (.int bits), .val (.int (2 : Int32)), .val (.int (0 : Int32)), .val (.ref o), .val (.ref en0), .val (.ref en1), .val (.ref en2), .val (.ref en0), .val (.int (1 : Int32)), .val (.ref en1), .val (.ref en2), .val (.int (1 : Int32)), .val (.ref en1)] [(.int (1 : Int32))])) _
        exact kt
      refine RunsTo.retN X29 hx (t := .boolean) Bd.returns (by simp) Bd.notSynchronized (hb hby at_343) ?_ (by decide) (by decide)
      rw [e29]
      exact ⟨rfl, N29⟩
    · obtain ⟨T30, h30, X30, e30, E30, A30, D30, -, st30⟩ := newO X0 hx hZ hown (hw _ (List.mem_of_getElem? (i := 1) rfl)) (hw _ (List.mem_of_getElem? (i := 2) rfl)) (hw _ (List.mem_of_getElem? (i := 3) rfl)) e0 (g := (mkF m 29 #[.val (.int x0), .val (.int x1), .val (.int x2), .val (.int bits), .val (.int (2 : Int32)), .val (.int (1 : Int32)), .unset, .unset, .unset, .unset, .unset, .unset, .unset, .unset, .unset, .unset] [])) rfl (hb hby at_29) (by decide) (by decide)
      obtain ⟨o, g30⟩ : ∃ z, z = h0.size := ⟨_, rfl⟩
      rw [← g30] at A30 D30 st30
      have Z30 : n0 ≤ h30.size := Nat.le_trans Z0 E30.1
      have g_o : n0 ≤ o := Nat.le_trans Z0 (Nat.le_of_eq g30.symm)
      have F_head_o : Fld Z h30 o "com/example/round_table/roundtable/engine/OrderList" "head" "Lcom/example/round_table/roundtable/engine/OrderList$Entry;" .null := D30 (Or.inr (hw _ (List.mem_of_getElem? (i := 18) rfl))) (ty := (.object "com/example/round_table/roundtable/engine/OrderList$Entry")) (by decide)
      have F_last_o : Fld Z h30 o "com/example/round_table/roundtable/engine/OrderList" "last" "Lcom/example/round_table/roundtable/engine/OrderList$Entry;" .null := D30 (Or.inl (hw _ (List.mem_of_getElem? (i := 20) rfl))) (ty := (.object "com/example/round_table/roundtable/engine/OrderList$Entry")) (by decide)
      have F_labelBits_o : Fld Z h30 o "com/example/round_table/roundtable/engine/OrderList" "labelBits" "I" (.int (0 : Int32)) := D30 (Or.inr (hw _ (List.mem_of_getElem? (i := 22) rfl))) (ty := .int) (by decide)
      have F_endGap_o : Fld Z h30 o "com/example/round_table/roundtable/engine/OrderList" "endGap" "J" (.long (0 : Int64)) := D30 (Or.inr (hw _ (List.mem_of_getElem? (i := 24) rfl))) (ty := .long) (by decide)
      have E_o : Exa Z h30 o "com/example/round_table/roundtable/engine/OrderList" := A30
      refine RunsTo.of (T' := T30) (g' := (mkF m 32 #[.val (.int x0), .val (.int x1), .val (.int x2), .val (.int bits), .val (.int (2 : Int32)), .val (.int (1 : Int32)), .unset, .unset, .unset, .unset, .unset, .unset, .unset, .unset, .unset, .unset] [(.ref o)])) st30 ?_
      have lt_o := E_o.lt
      refine RunsTo.of (T' := T30) (g' := (mkF m 34 #[.val (.int x0), .val (.int x1), .val (.int x2), .val (.int bits), .val (.int (2 : Int32)), .val (.int (1 : Int32)), .unset, .unset, .unset, .unset, .unset, .unset, .unset, .unset, .unset, .unset] [(.int bits), (.ref o), (.ref o)])) (fun tgt_ kt => ?_) ?_
      · refine XS.dup X30.here hx rfl (hb hby at_32) rfl rfl ?_
        show Steps p.tables e below (T30.setTop (mkF m 33 #[.val (.int x0), .val (.int x1), .val (.int x2), .val (.int bits), .val (.int (2 : Int32)), .val (.int (1 : Int32)), .unset, .unset, .unset, .unset, .unset, .unset, .unset, .unset, .unset, .unset] [(.ref o), (.ref o)])) _
        refine XS.iloadN X30.here hx rfl (hb hby at_33) rfl ?_
        show Steps p.tables e below (T30.setTop (mkF m 34 #[.val (.int x0), .val (.int x1), .val (.int x2), .val (.int bits), .val (.int (2 : Int32)), .val (.int (1 : Int32)), .unset, .unset, .unset, .unset, .unset, .unset, .unset, .unset, .unset, .unset] [(.int bits), (.ref o), (.ref o)])) _
        exact kt
      obtain ⟨_, _, ⟨T31, L31, k31, n31⟩, -, X31, ⟨Lc31, hQ31, l31, y31, z31⟩, st31⟩ := X30.specialBack hx (y := (⟨"com/example/round_table/roundtable/engine/OrderList", "<init>", "(I)V"⟩ : MethodName)) rfl hown (mvT hZ (hw _ (List.mem_of_getElem? (i := 4) rfl))) (mvT hZ (hw _ (List.mem_of_getElem? (i := 5) rfl))) (mvT hZ (hw _ (List.mem_of_getElem? (i := 6) rfl))) (by decide) (backOf (W := 1) (rm1 l Z a0 hw [] o bits h30 n0 Z30 E_o g_o F_head_o F_last_o F_labelBits_o F_endGap_o hbits) hZ (hw _ (List.mem_of_getElem? (i := 6) rfl)) (hw _ (List.mem_of_getElem? (i := 3) rfl)) (by decide) (by decide)) (g := (mkF m 34 #[.val (.int x0), .val (.int x1), .val (.int x2), .val (.int bits), .val (.int (2 : Int32)), .val (.int (1 : Int32)), .unset, .unset, .unset, .unset, .unset, .unset, .unset, .unset, .unset, .unset] [(.int bits), (.ref o), (.ref o)])) rfl (by rw [hml]; rfl) (Steps.refl _) (a := o) (argsL := [(.int bits)]) (rest := [(.ref o)]) (lenOf pd_4 rfl) rfl (by show 2 * 0 + _ ≤ _; exact Nat.le_of_eq rfl) (hb hby at_34) (fun _ _ => ⟨rfl, e30, (by decide : 1 + 1 ≤ _), (by decide : 4 + 3 ≤ _)⟩)
      dsimp only [Pt.U, Pt.locs, Pt.cells, Pt.slots] at X31 l31 y31 z31 st31 hQ31
      subst l31 y31 z31
      obtain ⟨hd, rfl, N31q, g_hd, sz_hd, K31, F_head_o, F_last_o, F_labelBits_o, F_endGap_o, E_hd, F_label_hd, F_previous_hd, F_next_hd⟩ := hQ31
      have N31 := Fr.app N0 N31q
      have Z31 : n0 ≤ T31.heap.size := Nat.le_trans Z30 K31.1
      have E_o := E_o.keep K31
      rw [← heg'] at F_endGap_o
      have ne_o_hd : o ≠ hd := Nat.ne_of_lt (Nat.lt_of_lt_of_le lt_o sz_hd)
      refine RunsTo.of (T' := T31) (g' := (mkF m 37 #[.val (.int x0), .val (.int x1), .val (.int x2), .val (.int bits), .val (.int (2 : Int32)), .val (.int (1 : Int32)), .unset, .unset, .unset, .unset, .unset, .unset, .unset, .unset, .unset, .unset] [(.ref o)])) (fun _ kt => st31.trans kt) ?_
      refine RunsTo.of (T' := T31) (g' := (mkF m 39 #[.val (.int x0), .val (.int x1), .val (.int x2), .val (.int bits), .val (.int (2 : Int32)), .val (.int (1 : Int32)), .val (.ref o), .unset, .unset, .unset, .unset, .unset, .unset, .unset, .unset, .unset] [])) (fun tgt_ kt => ?_) ?_
      · refine XS.astore X31.here hx rfl (hb hby at_37) rfl rfl (l' := #[.val (.int x0), .val (.int x1), .val (.int x2), .val (.int bits), .val (.int (2 : Int32)), .val (.int (1 : Int32)), .val (.ref o), .unset, .unset, .unset, .unset, .unset, .unset, .unset, .unset, .unset]) rfl ?_
        show Steps p.tables e below (T31.setTop (mkF m 39 #[.val (.int x0), .val (.int x1), .val (.int x2), .val (.int bits), .val (.int (2 : Int32)), .val (.int (1 : Int32)), .val (.ref o), .unset, .unset, .unset, .unset, .unset, .unset, .unset, .unset, .unset] [])) _
        exact kt
      obtain ⟨T32, h32, X32, e32, E32, A32, D32, -, st32⟩ := newO X31 hx hZ hown (hw _ (List.mem_of_getElem? (i := 25) rfl)) (hw _ (List.mem_of_getElem? (i := 11) rfl)) (hw _ (List.mem_of_getElem? (i := 12) rfl)) rfl (g := (mkF m 39 #[.val (.int x0), .val (.int x1), .val (.int x2), .val (.int bits), .val (.int (2 : Int32)), .val (.int (1 : Int32)), .val (.ref o), .unset, .unset, .unset, .unset, .unset, .unset, .unset, .unset, .unset] [])) rfl (hb hby at_39) (by decide) (by decide)
      obtain ⟨en0, g32⟩ : ∃ z, z = T31.heap.size := ⟨_, rfl⟩
      rw [← g32] at A32 D32 st32
      have Z32 : n0 ≤ h32.size := Nat.le_trans Z31 E32.1
      have g_en0 : n0 ≤ en0 := Nat.le_trans Z31 (Nat.le_of_eq g32.symm)
      have ne_o_en0 : o ≠ en0 := Nat.ne_of_lt (Nat.lt_of_lt_of_le E_o.lt (Nat.le_of_eq g32.symm))
      have ne_hd_en0 : hd ≠ en0 := Nat.ne_of_lt (Nat.lt_of_lt_of_le F_label_hd.lt (Nat.le_of_eq g32.symm))
      have E_o := E_o.ext E32
      have F_head_o := F_head_o.ext E32
      have F_last_o := F_last_o.ext E32
      have F_labelBits_o := F_labelBits_o.ext E32
      have F_endGap_o := F_endGap_o.ext E32
      have F_label_hd := F_label_hd.ext E32
      have F_previous_hd := F_previous_hd.ext E32
      have F_next_hd := F_next_hd.ext E32
      have E_hd := E_hd.ext E32
      have F_next_en0 : Fld Z h32 en0 "com/example/round_table/roundtable/engine/OrderList$Entry" "next" "Lcom/example/round_table/roundtable/engine/OrderList$Entry;" .null := D32 (Or.inl (hw _ (List.mem_of_getElem? (i := 43) rfl))) (ty := (.object "com/example/round_table/roundtable/engine/OrderList$Entry")) (by decide)
      have F_previous_en0 : Fld Z h32 en0 "com/example/round_table/roundtable/engine/OrderList$Entry" "previous" "Lcom/example/round_table/roundtable/engine/OrderList$Entry;" .null := D32 (Or.inl (hw _ (List.mem_of_getElem? (i := 45) rfl))) (ty := (.object "com/example/round_table/roundtable/engine/OrderList$Entry")) (by decide)
      have F_label_en0 : Fld Z h32 en0 "com/example/round_table/roundtable/engine/OrderList$Entry" "label" "J" (.long (0 : Int64)) := D32 (Or.inl (hw _ (List.mem_of_getElem? (i := 47) rfl))) (ty := .long) (by decide)
      have E_en0 : Exa Z h32 en0 "com/example/round_table/roundtable/engine/OrderList$Entry" := A32
      refine RunsTo.of (T' := T32) (g' := (mkF m 42 #[.val (.int x0), .val (.int x1), .val (.int x2), .val (.int bits), .val (.int (2 : Int32)), .val (.int (1 : Int32)), .val (.ref o), .unset, .unset, .unset, .unset, .unset, .unset, .unset, .unset, .unset] [(.ref en0)])) st32 ?_
      refine RunsTo.of (T' := T32) (g' := (mkF m 43 #[.val (.int x0), .val (.int x1), .val (.int x2), .val (.int bits), .val (.int (2 : Int32)), .val (.int (1 : Int32)), .val (.ref o), .unset, .unset, .unset, .unset, .unset, .unset, .unset, .unset, .unset] [(.ref en0), (.ref en0)])) (fun tgt_ kt => ?_) ?_
      · refine XS.dup X32.here hx rfl (hb hby at_42) rfl rfl ?_
        show Steps p.tables e below (T32.setTop (mkF m 43 #[.val (.int x0), .val (.int x1), .val (.int x2), .val (.int bits), .val (.int (2 : Int32)), .val (.int (1 : Int32)), .val (.ref o), .unset, .unset, .unset, .unset, .unset, .unset, .unset, .unset, .unset] [(.ref en0), (.ref en0)])) _
        exact kt
      obtain ⟨_, _, ⟨T33, L33, k33, n33⟩, -, X33, ⟨Lc33, hQ33, l33, y33, z33⟩, st33⟩ := X32.specialBack hx (y := (⟨"com/example/round_table/roundtable/engine/OrderList$Entry", "<init>", "()V"⟩ : MethodName)) rfl hown (mvT hZ (hw _ (List.mem_of_getElem? (i := 26) rfl))) (mvT hZ (hw _ (List.mem_of_getElem? (i := 14) rfl))) (mvT hZ (hw _ (List.mem_of_getElem? (i := 15) rfl))) (by decide) (backOf (W := 1) (rm3 l Z a0 hw [] en0 h32 n0 Z32 ) hZ (hw _ (List.mem_of_getElem? (i := 15) rfl)) (hw _ (List.mem_of_getElem? (i := 12) rfl)) (by decide) (by decide)) (g := (mkF m 43 #[.val (.int x0), .val (.int x1), .val (.int x2), .val (.int bits), .val (.int (2 : Int32)), .val (.int (1 : Int32)), .val (.ref o), .unset, .unset, .unset, .unset, .unset, .unset, .unset, .unset, .unset] [(.ref en0), (.ref en0)])) rfl (by rw [hml]; rfl) (Steps.refl _) (a := en0) (argsL := []) (rest := [(.ref en0)]) (lenOf pd_0 rfl) rfl (by show 2 * 0 + _ ≤ _; exact Nat.le_of_eq rfl) (hb hby at_43) (fun _ _ => ⟨rfl, e32, (by decide : 3 + 0 ≤ _), (by decide : 10 + 0 ≤ _)⟩)
      dsimp only [Pt.U, Pt.locs, Pt.cells, Pt.slots] at X33 l33 y33 z33 st33 hQ33
      subst l33 y33 z33
      obtain ⟨rfl, N33q, e33⟩ := hQ33
      have N33 := Fr.app N31 N33q
      refine RunsTo.of (T' := T33) (g' := (mkF m 46 #[.val (.int x0), .val (.int x1), .val (.int x2), .val (.int bits), .val (.int (2 : Int32)), .val (.int (1 : Int32)), .val (.ref o), .unset, .unset, .unset, .unset, .unset, .unset, .unset, .unset, .unset] [(.ref en0)])) (fun _ kt => st33.trans kt) ?_
      refine RunsTo.of (T' := T33) (g' := (mkF m 48 #[.val (.int x0), .val (.int x1), .val (.int x2), .val (.int bits), .val (.int (2 : Int32)), .val (.int (1 : Int32)), .val (.ref o), .val (.ref en0), .unset, .unset, .unset, .unset, .unset, .unset, .unset, .unset] [])) (fun tgt_ kt => ?_) ?_
      · refine XS.astore X33.here hx rfl (hb hby at_46) rfl rfl (l' := #[.val (.int x0), .val (.int x1), .val (.int x2), .val (.int bits), .val (.int (2 : Int32)), .val (.int (1 : Int32)), .val (.ref o), .val (.ref en0), .unset, .unset, .unset, .unset, .unset, .unset, .unset, .unset]) rfl ?_
        show Steps p.tables e below (T33.setTop (mkF m 48 #[.val (.int x0), .val (.int x1), .val (.int x2), .val (.int bits), .val (.int (2 : Int32)), .val (.int (1 : Int32)), .val (.ref o), .val (.ref en0), .unset, .unset, .unset, .unset, .unset, .unset, .unset, .unset] [])) _
        exact kt
      obtain ⟨T34, h34, X34, e34, E34, A34, D34, -, st34⟩ := newO X33 hx hZ hown (hw _ (List.mem_of_getElem? (i := 25) rfl)) (hw _ (List.mem_of_getElem? (i := 11) rfl)) (hw _ (List.mem_of_getElem? (i := 12) rfl)) e33 (g := (mkF m 48 #[.val (.int x0), .val (.int x1), .val (.int x2), .val (.int bits), .val (.int (2 : Int32)), .val (.int (1 : Int32)), .val (.ref o), .val (.ref en0), .unset, .unset, .unset, .unset, .unset, .unset, .unset, .unset] [])) rfl (hb hby at_48) (by decide) (by decide)
      obtain ⟨en1, g34⟩ : ∃ z, z = h32.size := ⟨_, rfl⟩
      rw [← g34] at A34 D34 st34
      have Z34 : n0 ≤ h34.size := Nat.le_trans Z32 E34.1
      have g_en1 : n0 ≤ en1 := Nat.le_trans Z32 (Nat.le_of_eq g34.symm)
      have ne_o_en1 : o ≠ en1 := Nat.ne_of_lt (Nat.lt_of_lt_of_le E_o.lt (Nat.le_of_eq g34.symm))
      have ne_hd_en1 : hd ≠ en1 := Nat.ne_of_lt (Nat.lt_of_lt_of_le F_label_hd.lt (Nat.le_of_eq g34.symm))
      have ne_en0_en1 : en0 ≠ en1 := Nat.ne_of_lt (Nat.lt_of_lt_of_le F_next_en0.lt (Nat.le_of_eq g34.symm))
      have E_o := E_o.ext E34
      have F_head_o := F_head_o.ext E34
      have F_last_o := F_last_o.ext E34
      have F_labelBits_o := F_labelBits_o.ext E34
      have F_endGap_o := F_endGap_o.ext E34
      have F_label_hd := F_label_hd.ext E34
      have F_previous_hd := F_previous_hd.ext E34
      have F_next_hd := F_next_hd.ext E34
      have E_hd := E_hd.ext E34
      have F_next_en0 := F_next_en0.ext E34
      have F_previous_en0 := F_previous_en0.ext E34
      have F_label_en0 := F_label_en0.ext E34
      have E_en0 := E_en0.ext E34
      have F_next_en1 : Fld Z h34 en1 "com/example/round_table/roundtable/engine/OrderList$Entry" "next" "Lcom/example/round_table/roundtable/engine/OrderList$Entry;" .null := D34 (Or.inl (hw _ (List.mem_of_getElem? (i := 43) rfl))) (ty := (.object "com/example/round_table/roundtable/engine/OrderList$Entry")) (by decide)
      have F_previous_en1 : Fld Z h34 en1 "com/example/round_table/roundtable/engine/OrderList$Entry" "previous" "Lcom/example/round_table/roundtable/engine/OrderList$Entry;" .null := D34 (Or.inl (hw _ (List.mem_of_getElem? (i := 45) rfl))) (ty := (.object "com/example/round_table/roundtable/engine/OrderList$Entry")) (by decide)
      have F_label_en1 : Fld Z h34 en1 "com/example/round_table/roundtable/engine/OrderList$Entry" "label" "J" (.long (0 : Int64)) := D34 (Or.inl (hw _ (List.mem_of_getElem? (i := 47) rfl))) (ty := .long) (by decide)
      have E_en1 : Exa Z h34 en1 "com/example/round_table/roundtable/engine/OrderList$Entry" := A34
      refine RunsTo.of (T' := T34) (g' := (mkF m 51 #[.val (.int x0), .val (.int x1), .val (.int x2), .val (.int bits), .val (.int (2 : Int32)), .val (.int (1 : Int32)), .val (.ref o), .val (.ref en0), .unset, .unset, .unset, .unset, .unset, .unset, .unset, .unset] [(.ref en1)])) st34 ?_
      refine RunsTo.of (T' := T34) (g' := (mkF m 52 #[.val (.int x0), .val (.int x1), .val (.int x2), .val (.int bits), .val (.int (2 : Int32)), .val (.int (1 : Int32)), .val (.ref o), .val (.ref en0), .unset, .unset, .unset, .unset, .unset, .unset, .unset, .unset] [(.ref en1), (.ref en1)])) (fun tgt_ kt => ?_) ?_
      · refine XS.dup X34.here hx rfl (hb hby at_51) rfl rfl ?_
        show Steps p.tables e below (T34.setTop (mkF m 52 #[.val (.int x0), .val (.int x1), .val (.int x2), .val (.int bits), .val (.int (2 : Int32)), .val (.int (1 : Int32)), .val (.ref o), .val (.ref en0), .unset, .unset, .unset, .unset, .unset, .unset, .unset, .unset] [(.ref en1), (.ref en1)])) _
        exact kt
      obtain ⟨_, _, ⟨T35, L35, k35, n35⟩, -, X35, ⟨Lc35, hQ35, l35, y35, z35⟩, st35⟩ := X34.specialBack hx (y := (⟨"com/example/round_table/roundtable/engine/OrderList$Entry", "<init>", "()V"⟩ : MethodName)) rfl hown (mvT hZ (hw _ (List.mem_of_getElem? (i := 26) rfl))) (mvT hZ (hw _ (List.mem_of_getElem? (i := 14) rfl))) (mvT hZ (hw _ (List.mem_of_getElem? (i := 15) rfl))) (by decide) (backOf (W := 1) (rm3 l Z a0 hw [] en1 h34 n0 Z34 ) hZ (hw _ (List.mem_of_getElem? (i := 15) rfl)) (hw _ (List.mem_of_getElem? (i := 12) rfl)) (by decide) (by decide)) (g := (mkF m 52 #[.val (.int x0), .val (.int x1), .val (.int x2), .val (.int bits), .val (.int (2 : Int32)), .val (.int (1 : Int32)), .val (.ref o), .val (.ref en0), .unset, .unset, .unset, .unset, .unset, .unset, .unset, .unset] [(.ref en1), (.ref en1)])) rfl (by rw [hml]; rfl) (Steps.refl _) (a := en1) (argsL := []) (rest := [(.ref en1)]) (lenOf pd_0 rfl) rfl (by show 2 * 0 + _ ≤ _; exact Nat.le_of_eq rfl) (hb hby at_52) (fun _ _ => ⟨rfl, e34, (by decide : 4 + 0 ≤ _), (by decide : 13 + 0 ≤ _)⟩)
      dsimp only [Pt.U, Pt.locs, Pt.cells, Pt.slots] at X35 l35 y35 z35 st35 hQ35
      subst l35 y35 z35
      obtain ⟨rfl, N35q, e35⟩ := hQ35
      have N35 := Fr.app N33 N35q
      refine RunsTo.of (T' := T35) (g' := (mkF m 55 #[.val (.int x0), .val (.int x1), .val (.int x2), .val (.int bits), .val (.int (2 : Int32)), .val (.int (1 : Int32)), .val (.ref o), .val (.ref en0), .unset, .unset, .unset, .unset, .unset, .unset, .unset, .unset] [(.ref en1)])) (fun _ kt => st35.trans kt) ?_
      refine RunsTo.of (T' := T35) (g' := (mkF m 57 #[.val (.int x0), .val (.int x1), .val (.int x2), .val (.int bits), .val (.int (2 : Int32)), .val (.int (1 : Int32)), .val (.ref o), .val (.ref en0), .val (.ref en1), .unset, .unset, .unset, .unset, .unset, .unset, .unset] [])) (fun tgt_ kt => ?_) ?_
      · refine XS.astore X35.here hx rfl (hb hby at_55) rfl rfl (l' := #[.val (.int x0), .val (.int x1), .val (.int x2), .val (.int bits), .val (.int (2 : Int32)), .val (.int (1 : Int32)), .val (.ref o), .val (.ref en0), .val (.ref en1), .unset, .unset, .unset, .unset, .unset, .unset, .unset]) rfl ?_
        show Steps p.tables e below (T35.setTop (mkF m 57 #[.val (.int x0), .val (.int x1), .val (.int x2), .val (.int bits), .val (.int (2 : Int32)), .val (.int (1 : Int32)), .val (.ref o), .val (.ref en0), .val (.ref en1), .unset, .unset, .unset, .unset, .unset, .unset, .unset] [])) _
        exact kt
      obtain ⟨T36, h36, X36, e36, E36, A36, D36, -, st36⟩ := newO X35 hx hZ hown (hw _ (List.mem_of_getElem? (i := 25) rfl)) (hw _ (List.mem_of_getElem? (i := 11) rfl)) (hw _ (List.mem_of_getElem? (i := 12) rfl)) e35 (g := (mkF m 57 #[.val (.int x0), .val (.int x1), .val (.int x2), .val (.int bits), .val (.int (2 : Int32)), .val (.int (1 : Int32)), .val (.ref o), .val (.ref en0), .val (.ref en1), .unset, .unset, .unset, .unset, .unset, .unset, .unset] [])) rfl (hb hby at_57) (by decide) (by decide)
      obtain ⟨en2, g36⟩ : ∃ z, z = h34.size := ⟨_, rfl⟩
      rw [← g36] at A36 D36 st36
      have Z36 : n0 ≤ h36.size := Nat.le_trans Z34 E36.1
      have g_en2 : n0 ≤ en2 := Nat.le_trans Z34 (Nat.le_of_eq g36.symm)
      have ne_o_en2 : o ≠ en2 := Nat.ne_of_lt (Nat.lt_of_lt_of_le E_o.lt (Nat.le_of_eq g36.symm))
      have ne_hd_en2 : hd ≠ en2 := Nat.ne_of_lt (Nat.lt_of_lt_of_le F_label_hd.lt (Nat.le_of_eq g36.symm))
      have ne_en0_en2 : en0 ≠ en2 := Nat.ne_of_lt (Nat.lt_of_lt_of_le F_next_en0.lt (Nat.le_of_eq g36.symm))
      have ne_en1_en2 : en1 ≠ en2 := Nat.ne_of_lt (Nat.lt_of_lt_of_le F_next_en1.lt (Nat.le_of_eq g36.symm))
      have E_o := E_o.ext E36
      have F_head_o := F_head_o.ext E36
      have F_last_o := F_last_o.ext E36
      have F_labelBits_o := F_labelBits_o.ext E36
      have F_endGap_o := F_endGap_o.ext E36
      have F_label_hd := F_label_hd.ext E36
      have F_previous_hd := F_previous_hd.ext E36
      have F_next_hd := F_next_hd.ext E36
      have E_hd := E_hd.ext E36
      have F_next_en0 := F_next_en0.ext E36
      have F_previous_en0 := F_previous_en0.ext E36
      have F_label_en0 := F_label_en0.ext E36
      have E_en0 := E_en0.ext E36
      have F_next_en1 := F_next_en1.ext E36
      have F_previous_en1 := F_previous_en1.ext E36
      have F_label_en1 := F_label_en1.ext E36
      have E_en1 := E_en1.ext E36
      have F_next_en2 : Fld Z h36 en2 "com/example/round_table/roundtable/engine/OrderList$Entry" "next" "Lcom/example/round_table/roundtable/engine/OrderList$Entry;" .null := D36 (Or.inl (hw _ (List.mem_of_getElem? (i := 43) rfl))) (ty := (.object "com/example/round_table/roundtable/engine/OrderList$Entry")) (by decide)
      have F_previous_en2 : Fld Z h36 en2 "com/example/round_table/roundtable/engine/OrderList$Entry" "previous" "Lcom/example/round_table/roundtable/engine/OrderList$Entry;" .null := D36 (Or.inl (hw _ (List.mem_of_getElem? (i := 45) rfl))) (ty := (.object "com/example/round_table/roundtable/engine/OrderList$Entry")) (by decide)
      have F_label_en2 : Fld Z h36 en2 "com/example/round_table/roundtable/engine/OrderList$Entry" "label" "J" (.long (0 : Int64)) := D36 (Or.inl (hw _ (List.mem_of_getElem? (i := 47) rfl))) (ty := .long) (by decide)
      have E_en2 : Exa Z h36 en2 "com/example/round_table/roundtable/engine/OrderList$Entry" := A36
      refine RunsTo.of (T' := T36) (g' := (mkF m 60 #[.val (.int x0), .val (.int x1), .val (.int x2), .val (.int bits), .val (.int (2 : Int32)), .val (.int (1 : Int32)), .val (.ref o), .val (.ref en0), .val (.ref en1), .unset, .unset, .unset, .unset, .unset, .unset, .unset] [(.ref en2)])) st36 ?_
      refine RunsTo.of (T' := T36) (g' := (mkF m 61 #[.val (.int x0), .val (.int x1), .val (.int x2), .val (.int bits), .val (.int (2 : Int32)), .val (.int (1 : Int32)), .val (.ref o), .val (.ref en0), .val (.ref en1), .unset, .unset, .unset, .unset, .unset, .unset, .unset] [(.ref en2), (.ref en2)])) (fun tgt_ kt => ?_) ?_
      · refine XS.dup X36.here hx rfl (hb hby at_60) rfl rfl ?_
        show Steps p.tables e below (T36.setTop (mkF m 61 #[.val (.int x0), .val (.int x1), .val (.int x2), .val (.int bits), .val (.int (2 : Int32)), .val (.int (1 : Int32)), .val (.ref o), .val (.ref en0), .val (.ref en1), .unset, .unset, .unset, .unset, .unset, .unset, .unset] [(.ref en2), (.ref en2)])) _
        exact kt
      obtain ⟨_, _, ⟨T37, L37, k37, n37⟩, -, X37, ⟨Lc37, hQ37, l37, y37, z37⟩, st37⟩ := X36.specialBack hx (y := (⟨"com/example/round_table/roundtable/engine/OrderList$Entry", "<init>", "()V"⟩ : MethodName)) rfl hown (mvT hZ (hw _ (List.mem_of_getElem? (i := 26) rfl))) (mvT hZ (hw _ (List.mem_of_getElem? (i := 14) rfl))) (mvT hZ (hw _ (List.mem_of_getElem? (i := 15) rfl))) (by decide) (backOf (W := 1) (rm3 l Z a0 hw [] en2 h36 n0 Z36 ) hZ (hw _ (List.mem_of_getElem? (i := 15) rfl)) (hw _ (List.mem_of_getElem? (i := 12) rfl)) (by decide) (by decide)) (g := (mkF m 61 #[.val (.int x0), .val (.int x1), .val (.int x2), .val (.int bits), .val (.int (2 : Int32)), .val (.int (1 : Int32)), .val (.ref o), .val (.ref en0), .val (.ref en1), .unset, .unset, .unset, .unset, .unset, .unset, .unset] [(.ref en2), (.ref en2)])) rfl (by rw [hml]; rfl) (Steps.refl _) (a := en2) (argsL := []) (rest := [(.ref en2)]) (lenOf pd_0 rfl) rfl (by show 2 * 0 + _ ≤ _; exact Nat.le_of_eq rfl) (hb hby at_61) (fun _ _ => ⟨rfl, e36, (by decide : 5 + 0 ≤ _), (by decide : 16 + 0 ≤ _)⟩)
      dsimp only [Pt.U, Pt.locs, Pt.cells, Pt.slots] at X37 l37 y37 z37 st37 hQ37
      subst l37 y37 z37
      obtain ⟨rfl, N37q, e37⟩ := hQ37
      have N37 := Fr.app N35 N37q
      refine RunsTo.of (T' := T37) (g' := (mkF m 64 #[.val (.int x0), .val (.int x1), .val (.int x2), .val (.int bits), .val (.int (2 : Int32)), .val (.int (1 : Int32)), .val (.ref o), .val (.ref en0), .val (.ref en1), .unset, .unset, .unset, .unset, .unset, .unset, .unset] [(.ref en2)])) (fun _ kt => st37.trans kt) ?_
      refine RunsTo.of (T' := T37) (g' := (mkF m 70 #[.val (.int x0), .val (.int x1), .val (.int x2), .val (.int bits), .val (.int (2 : Int32)), .val (.int (1 : Int32)), .val (.ref o), .val (.ref en0), .val (.ref en1), .val (.ref en2), .unset, .unset, .unset, .unset, .unset, .unset] [(.ref en0), (.ref o)])) (fun tgt_ kt => ?_) ?_
      · refine XS.astore X37.here hx rfl (hb hby at_64) rfl rfl (l' := #[.val (.int x0), .val (.int x1), .val (.int x2), .val (.int bits), .val (.int (2 : Int32)), .val (.int (1 : Int32)), .val (.ref o), .val (.ref en0), .val (.ref en1), .val (.ref en2), .unset, .unset, .unset, .unset, .unset, .unset]) rfl ?_
        show Steps p.tables e below (T37.setTop (mkF m 66 #[.val (.int x0), .val (.int x1), .val (.int x2), .val (.int bits), .val (.int (2 : Int32)), .val (.int (1 : Int32)), .val (.ref o), .val (.ref en0), .val (.ref en1), .val (.ref en2), .unset, .unset, .unset, .unset, .unset, .unset] [])) _
        refine XS.aload X37.here hx rfl (hb hby at_66) rfl rfl ?_
        show Steps p.tables e below (T37.setTop (mkF m 68 #[.val (.int x0), .val (.int x1), .val (.int x2), .val (.int bits), .val (.int (2 : Int32)), .val (.int (1 : Int32)), .val (.ref o), .val (.ref en0), .val (.ref en1), .val (.ref en2), .unset, .unset, .unset, .unset, .unset, .unset] [(.ref o)])) _
        refine XS.aload X37.here hx rfl (hb hby at_68) rfl rfl ?_
        show Steps p.tables e below (T37.setTop (mkF m 70 #[.val (.int x0), .val (.int x1), .val (.int x2), .val (.int bits), .val (.int (2 : Int32)), .val (.int (1 : Int32)), .val (.ref o), .val (.ref en0), .val (.ref en1), .val (.ref en2), .unset, .unset, .unset, .unset, .unset, .unset] [(.ref en0), (.ref o)])) _
        exact kt
      obtain ⟨cq38, kq38, q38a, q38b, q38c⟩ := isOf hZ e37 E_o
      obtain ⟨_, _, ⟨T38, L38, k38, n38⟩, -, X38, ⟨Lc38, hQ38, l38, y38, z38⟩, st38⟩ := X37.virtualBack hx (y := (⟨"com/example/round_table/roundtable/engine/OrderList", "append", "(Lcom/example/round_table/roundtable/engine/OrderList$Entry;)V"⟩ : MethodName)) (z := (⟨"com/example/round_table/roundtable/engine/OrderList", "append", "(Lcom/example/round_table/roundtable/engine/OrderList$Entry;)V"⟩ : MethodName)) hown (mvT hZ (hw _ (List.mem_of_getElem? (i := 27) rfl))) (mvT hZ (hw _ (List.mem_of_getElem? (i := 28) rfl))) (notFace_of_selects (args := #[]) (mvT hZ (hw _ (List.mem_of_getElem? (i := 30) rfl)))) (mvT hZ (hw _ (List.mem_of_getElem? (i := 30) rfl))) (mvT hZ (hw _ (List.mem_of_getElem? (i := 29) rfl))) (by decide) (backOf (W := 0) (rm_appE l Z a0 hw [] o en0 hd bits eg RR (0 : Int64) (0 : Int64) h36 n0 Z36 E_o g_o F_head_o F_last_o F_labelBits_o F_endGap_o E_hd g_hd F_label_hd F_previous_hd F_next_hd E_en0 g_en0 F_label_en0 F_previous_en0 F_next_en0 ne_o_hd ne_o_en0 ne_hd_en0 hRR hR heg (by omega) (by omega)) hZ (hw _ (List.mem_of_getElem? (i := 31) rfl)) (hw _ (List.mem_of_getElem? (i := 3) rfl)) (by decide) (by decide)) q38a q38c (g := (mkF m 70 #[.val (.int x0), .val (.int x1), .val (.int x2), .val (.int bits), .val (.int (2 : Int32)), .val (.int (1 : Int32)), .val (.ref o), .val (.ref en0), .val (.ref en1), .val (.ref en2), .unset, .unset, .unset, .unset, .unset, .unset] [(.ref en0), (.ref o)])) rfl (by rw [hml]; rfl) (Steps.refl _) (argsL := [(.ref en0)]) (rest := []) (lenOf pd_5 rfl) rfl (by show 2 * 0 + _ ≤ _; exact Nat.le_of_eq rfl) (hb hby at_70) (fun _ _ => ⟨rfl, e37, (by decide : 5 + 0 ≤ _), (by decide : 16 + 0 ≤ _)⟩)
      dsimp only [Pt.U, Pt.locs, Pt.cells, Pt.slots] at X38 l38 y38 z38 st38 hQ38
      subst l38 y38 z38
      obtain ⟨lab_en0, rfl, N38q, K38, F_head_o, F_last_o, F_labelBits_o, F_endGap_o, F_label_hd, F_previous_hd, F_next_hd, F_label_en0, F_previous_en0, F_next_en0, hb1_en0, hb2_en0, hb3_en0⟩ := hQ38
      have N38 := Fr.app N37 N38q
      have Z38 : n0 ≤ T38.heap.size := Nat.le_trans Z36 K38.1
      have E_o := E_o.keep K38
      have E_hd := E_hd.keep K38
      have E_en0 := E_en0.keep K38
      have F_next_en1 := F_next_en1.keep K38 (ninS (Ne.symm ne_o_en1) (ninS (Ne.symm ne_hd_en1) (ninS (Ne.symm ne_en0_en1) nin0)))
      have F_previous_en1 := F_previous_en1.keep K38 (ninS (Ne.symm ne_o_en1) (ninS (Ne.symm ne_hd_en1) (ninS (Ne.symm ne_en0_en1) nin0)))
      have F_label_en1 := F_label_en1.keep K38 (ninS (Ne.symm ne_o_en1) (ninS (Ne.symm ne_hd_en1) (ninS (Ne.symm ne_en0_en1) nin0)))
      have E_en1 := E_en1.keep K38
      have F_next_en2 := F_next_en2.keep K38 (ninS (Ne.symm ne_o_en2) (ninS (Ne.symm ne_hd_en2) (ninS (Ne.symm ne_en0_en2) nin0)))
      have F_previous_en2 := F_previous_en2.keep K38 (ninS (Ne.symm ne_o_en2) (ninS (Ne.symm ne_hd_en2) (ninS (Ne.symm ne_en0_en2) nin0)))
      have F_label_en2 := F_label_en2.keep K38 (ninS (Ne.symm ne_o_en2) (ninS (Ne.symm ne_hd_en2) (ninS (Ne.symm ne_en0_en2) nin0)))
      have E_en2 := E_en2.keep K38
      refine RunsTo.of (T' := T38) (g' := (mkF m 73 #[.val (.int x0), .val (.int x1), .val (.int x2), .val (.int bits), .val (.int (2 : Int32)), .val (.int (1 : Int32)), .val (.ref o), .val (.ref en0), .val (.ref en1), .val (.ref en2), .unset, .unset, .unset, .unset, .unset, .unset] [])) (fun _ kt => st38.trans kt) ?_
      refine RunsTo.of (T' := T38) (g' := (mkF m 83 #[.val (.int x0), .val (.int x1), .val (.int x2), .val (.int bits), .val (.int (2 : Int32)), .val (.int (1 : Int32)), .val (.ref o), .val (.ref en0), .val (.ref en1), .val (.ref en2), .unset, .unset, .unset, .unset, .unset, .unset] [(.ref en1), (.ref o)])) (fun tgt_ kt => ?_) ?_
      · refine XS.iload X38.here hx rfl (hb hby at_73) rfl ?_
        show Steps p.tables e below (T38.setTop (mkF m 75 #[.val (.int x0), .val (.int x1), .val (.int x2), .val (.int bits), .val (.int (2 : Int32)), .val (.int (1 : Int32)), .val (.ref o), .val (.ref en0), .val (.ref en1), .val (.ref en2), .unset, .unset, .unset, .unset, .unset, .unset] [(.int (2 : Int32))])) _
        refine XS.iconst X38.here hx rfl (hb hby at_75) ?_
        show Steps p.tables e below (T38.setTop (mkF m 76 #[.val (.int x0), .val (.int x1), .val (.int x2), .val (.int bits), .val (.int (2 : Int32)), .val (.int (1 : Int32)), .val (.ref o), .val (.ref en0), .val (.ref en1), .val (.ref en2), .unset, .unset, .unset, .unset, .unset, .unset] [(.int (2 : Int32)), (.int (2 : Int32))])) _
        refine XS.icmpNo X38.here hx rfl (hb hby at_76) rfl (flt (by decide)).1 ?_
        show Steps p.tables e below (T38.setTop (mkF m 79 #[.val (.int x0), .val (.int x1), .val (.int x2), .val (.int bits), .val (.int (2 : Int32)), .val (.int (1 : Int32)), .val (.ref o), .val (.ref en0), .val (.ref en1), .val (.ref en2), .unset, .unset, .unset, .unset, .unset, .unset] [])) _
        refine XS.aload X38.here hx rfl (hb hby at_79) rfl rfl ?_
        show Steps p.tables e below (T38.setTop (mkF m 81 #[.val (.int x0), .val (.int x1), .val (.int x2), .val (.int bits), .val (.int (2 : Int32)), .val (.int (1 : Int32)), .val (.ref o), .val (.ref en0), .val (.ref en1), .val (.ref en2), .unset, .unset, .unset, .unset, .unset, .unset] [(.ref o)])) _
        refine XS.aload X38.here hx rfl (hb hby at_81) rfl rfl ?_
        show Steps p.tables e below (T38.setTop (mkF m 83 #[.val (.int x0), .val (.int x1), .val (.int x2), .val (.int bits), .val (.int (2 : Int32)), .val (.int (1 : Int32)), .val (.ref o), .val (.ref en0), .val (.ref en1), .val (.ref en2), .unset, .unset, .unset, .unset, .unset, .unset] [(.ref en1), (.ref o)])) _
        exact kt
      obtain ⟨cq39, kq39, q39a, q39b, q39c⟩ := isOf hZ rfl E_o
      obtain ⟨_, _, ⟨T39, L39, k39, n39⟩, -, X39, ⟨Lc39, hQ39, l39, y39, z39⟩, st39⟩ := X38.virtualBack hx (y := (⟨"com/example/round_table/roundtable/engine/OrderList", "append", "(Lcom/example/round_table/roundtable/engine/OrderList$Entry;)V"⟩ : MethodName)) (z := (⟨"com/example/round_table/roundtable/engine/OrderList", "append", "(Lcom/example/round_table/roundtable/engine/OrderList$Entry;)V"⟩ : MethodName)) hown (mvT hZ (hw _ (List.mem_of_getElem? (i := 27) rfl))) (mvT hZ (hw _ (List.mem_of_getElem? (i := 28) rfl))) (notFace_of_selects (args := #[]) (mvT hZ (hw _ (List.mem_of_getElem? (i := 30) rfl)))) (mvT hZ (hw _ (List.mem_of_getElem? (i := 30) rfl))) (mvT hZ (hw _ (List.mem_of_getElem? (i := 29) rfl))) (by decide) (backOf (W := 0) (rm_appN l Z a0 hw [] o en1 hd en0 (.ref hd) bits eg RR lab_en0 (0 : Int64) T38.heap n0 Z38 E_o g_o F_head_o F_last_o F_labelBits_o F_endGap_o E_en0 g_en0 F_label_en0 F_previous_en0 F_next_en0 E_en1 g_en1 F_label_en1 F_previous_en1 F_next_en1 ne_o_en0 ne_o_en1 ne_en0_en1 (Ne.symm ne_hd_en0) hRR hR heg (by omega) (by omega)) hZ (hw _ (List.mem_of_getElem? (i := 31) rfl)) (hw _ (List.mem_of_getElem? (i := 3) rfl)) (by decide) (by decide)) q39a q39c (g := (mkF m 83 #[.val (.int x0), .val (.int x1), .val (.int x2), .val (.int bits), .val (.int (2 : Int32)), .val (.int (1 : Int32)), .val (.ref o), .val (.ref en0), .val (.ref en1), .val (.ref en2), .unset, .unset, .unset, .unset, .unset, .unset] [(.ref en1), (.ref o)])) rfl (by rw [hml]; rfl) (Steps.refl _) (argsL := [(.ref en1)]) (rest := []) (lenOf pd_5 rfl) rfl (by show 2 * 0 + _ ≤ _; exact Nat.le_of_eq rfl) (hb hby at_83) (fun _ _ => ⟨rfl, rfl, (by decide : 5 + 0 ≤ _), (by decide : 16 + 0 ≤ _)⟩)
      dsimp only [Pt.U, Pt.locs, Pt.cells, Pt.slots] at X39 l39 y39 z39 st39 hQ39
      subst l39 y39 z39
      obtain ⟨lab_en1, rfl, N39q, K39, F_head_o, F_last_o, F_labelBits_o, F_endGap_o, F_label_en0, F_previous_en0, F_next_en0, F_label_en1, F_previous_en1, F_next_en1, hb1_en1, hb2_en1, hb3_en1⟩ := hQ39
      have N39 := Fr.app N38 N39q
      have Z39 : n0 ≤ T39.heap.size := Nat.le_trans Z38 K39.1
      have E_o := E_o.keep K39
      have E_hd := E_hd.keep K39
      have E_en0 := E_en0.keep K39
      have E_en1 := E_en1.keep K39
      have F_next_en2 := F_next_en2.keep K39 (ninS (Ne.symm ne_o_en2) (ninS (Ne.symm ne_en0_en2) (ninS (Ne.symm ne_en1_en2) nin0)))
      have F_previous_en2 := F_previous_en2.keep K39 (ninS (Ne.symm ne_o_en2) (ninS (Ne.symm ne_en0_en2) (ninS (Ne.symm ne_en1_en2) nin0)))
      have F_label_en2 := F_label_en2.keep K39 (ninS (Ne.symm ne_o_en2) (ninS (Ne.symm ne_en0_en2) (ninS (Ne.symm ne_en1_en2) nin0)))
      have E_en2 := E_en2.keep K39
      have F_label_hd := F_label_hd.keep K39 (ninS (Ne.symm ne_o_hd) (ninS ne_hd_en0 (ninS ne_hd_en1 nin0)))
      have F_previous_hd := F_previous_hd.keep K39 (ninS (Ne.symm ne_o_hd) (ninS ne_hd_en0 (ninS ne_hd_en1 nin0)))
      have F_next_hd := F_next_hd.keep K39 (ninS (Ne.symm ne_o_hd) (ninS ne_hd_en0 (ninS ne_hd_en1 nin0)))
      refine RunsTo.of (T' := T39) (g' := (mkF m 86 #[.val (.int x0), .val (.int x1), .val (.int x2), .val (.int bits), .val (.int (2 : Int32)), .val (.int (1 : Int32)), .val (.ref o), .val (.ref en0), .val (.ref en1), .val (.ref en2), .unset, .unset, .unset, .unset, .unset, .unset] [])) (fun _ kt => st39.trans kt) ?_
      refine RunsTo.of (T' := T39) (g' := (mkF m 128 #[.val (.int x0), .val (.int x1), .val (.int x2), .val (.int bits), .val (.int (2 : Int32)), .val (.int (1 : Int32)), .val (.ref o), .val (.ref en0), .val (.ref en1), .val (.ref en2), .val (.ref en1), .unset, .unset, .unset, .unset, .unset] [(.ref en1), (.ref o)])) (fun tgt_ kt => ?_) ?_
      · refine XS.iload X39.here hx rfl (hb hby at_86) rfl ?_
        show Steps p.tables e below (T39.setTop (mkF m 88 #[.val (.int x0), .val (.int x1), .val (.int x2), .val (.int bits), .val (.int (2 : Int32)), .val (.int (1 : Int32)), .val (.ref o), .val (.ref en0), .val (.ref en1), .val (.ref en2), .unset, .unset, .unset, .unset, .unset, .unset] [(.int (2 : Int32))])) _
        refine XS.iconst X39.here hx rfl (hb hby at_88) ?_
        show Steps p.tables e below (T39.setTop (mkF m 89 #[.val (.int x0), .val (.int x1), .val (.int x2), .val (.int bits), .val (.int (2 : Int32)), .val (.int (1 : Int32)), .val (.ref o), .val (.ref en0), .val (.ref en1), .val (.ref en2), .unset, .unset, .unset, .unset, .unset, .unset] [(.int (3 : Int32)), (.int (2 : Int32))])) _
        refine XS.icmpYes X39.here hx rfl (pc0 := 89) (pc' := 99) rfl (hb hby at_89) rfl (tlt (by decide)).1 (by decide) (by decide) ?_
        show Steps p.tables e below (T39.setTop (mkF m 99 #[.val (.int x0), .val (.int x1), .val (.int x2), .val (.int bits), .val (.int (2 : Int32)), .val (.int (1 : Int32)), .val (.ref o), .val (.ref en0), .val (.ref en1), .val (.ref en2), .unset, .unset, .unset, .unset, .unset, .unset] [])) _
        refine XS.iload X39.here hx rfl (hb hby at_99) rfl ?_
        show Steps p.tables e below (T39.setTop (mkF m 101 #[.val (.int x0), .val (.int x1), .val (.int x2), .val (.int bits), .val (.int (2 : Int32)), .val (.int (1 : Int32)), .val (.ref o), .val (.ref en0), .val (.ref en1), .val (.ref en2), .unset, .unset, .unset, .unset, .unset, .unset] [(.int (1 : Int32))])) _
        refine XS.ifYes X39.here hx rfl (pc0 := 101) (pc' := 109) rfl (hb hby at_101) rfl ((if0 _ _).trans (feq (by decide)).2) (by decide) (by decide) ?_
        show Steps p.tables e below (T39.setTop (mkF m 109 #[.val (.int x0), .val (.int x1), .val (.int x2), .val (.int bits), .val (.int (2 : Int32)), .val (.int (1 : Int32)), .val (.ref o), .val (.ref en0), .val (.ref en1), .val (.ref en2), .unset, .unset, .unset, .unset, .unset, .unset] [])) _
        refine XS.iload X39.here hx rfl (hb hby at_109) rfl ?_
        show Steps p.tables e below (T39.setTop (mkF m 111 #[.val (.int x0), .val (.int x1), .val (.int x2), .val (.int bits), .val (.int (2 : Int32)), .val (.int (1 : Int32)), .val (.ref o), .val (.ref en0), .val (.ref en1), .val (.ref en2), .unset, .unset, .unset, .unset, .unset, .unset] [(.int (1 : Int32))])) _
        refine XS.iconst X39.here hx rfl (hb hby at_111) ?_
        show Steps p.tables e below (T39.setTop (mkF m 112 #[.val (.int x0), .val (.int x1), .val (.int x2), .val (.int bits), .val (.int (2 : Int32)), .val (.int (1 : Int32)), .val (.ref o), .val (.ref en0), .val (.ref en1), .val (.ref en2), .unset, .unset, .unset, .unset, .unset, .unset] [(.int (1 : Int32)), (.int (1 : Int32))])) _
        refine XS.icmpNo X39.here hx rfl (hb hby at_112) rfl (teq rfl).2 ?_
        show Steps p.tables e below (T39.setTop (mkF m 115 #[.val (.int x0), .val (.int x1), .val (.int x2), .val (.int bits), .val (.int (2 : Int32)), .val (.int (1 : Int32)), .val (.ref o), .val (.ref en0), .val (.ref en1), .val (.ref en2), .unset, .unset, .unset, .unset, .unset, .unset] [])) _
        refine XS.aload X39.here hx rfl (hb hby at_115) rfl rfl ?_
        show Steps p.tables e below (T39.setTop (mkF m 117 #[.val (.int x0), .val (.int x1), .val (.int x2), .val (.int bits), .val (.int (2 : Int32)), .val (.int (1 : Int32)), .val (.ref o), .val (.ref en0), .val (.ref en1), .val (.ref en2), .unset, .unset, .unset, .unset, .unset, .unset] [(.ref en1)])) _
        refine XS.goto X39.here hx rfl (pc0 := 117) (pc' := 122) rfl (hb hby at_117) (by decide) (by decide) ?_
        show Steps p.tables e below (T39.setTop (mkF m 122 #[.val (.int x0), .val (.int x1), .val (.int x2), .val (.int bits), .val (.int (2 : Int32)), .val (.int (1 : Int32)), .val (.ref o), .val (.ref en0), .val (.ref en1), .val (.ref en2), .unset, .unset, .unset, .unset, .unset, .unset] [(.ref en1)])) _
        refine XS.astore X39.here hx rfl (hb hby at_122) rfl rfl (l' := #[.val (.int x0), .val (.int x1), .val (.int x2), .val (.int bits), .val (.int (2 : Int32)), .val (.int (1 : Int32)), .val (.ref o), .val (.ref en0), .val (.ref en1), .val (.ref en2), .val (.ref en1), .unset, .unset, .unset, .unset, .unset]) rfl ?_
        show Steps p.tables e below (T39.setTop (mkF m 124 #[.val (.int x0), .val (.int x1), .val (.int x2), .val (.int bits), .val (.int (2 : Int32)), .val (.int (1 : Int32)), .val (.ref o), .val (.ref en0), .val (.ref en1), .val (.ref en2), .val (.ref en1), .unset, .unset, .unset, .unset, .unset] [])) _
        refine XS.aload X39.here hx rfl (hb hby at_124) rfl rfl ?_
        show Steps p.tables e below (T39.setTop (mkF m 126 #[.val (.int x0), .val (.int x1), .val (.int x2), .val (.int bits), .val (.int (2 : Int32)), .val (.int (1 : Int32)), .val (.ref o), .val (.ref en0), .val (.ref en1), .val (.ref en2), .val (.ref en1), .unset, .unset, .unset, .unset, .unset] [(.ref o)])) _
        refine XS.aload X39.here hx rfl (hb hby at_126) rfl rfl ?_
        show Steps p.tables e below (T39.setTop (mkF m 128 #[.val (.int x0), .val (.int x1), .val (.int x2), .val (.int bits), .val (.int (2 : Int32)), .val (.int (1 : Int32)), .val (.ref o), .val (.ref en0), .val (.ref en1), .val (.ref en2), .val (.ref en1), .unset, .unset, .unset, .unset, .unset] [(.ref en1), (.ref o)])) _
        exact kt
      obtain ⟨cq40, kq40, q40a, q40b, q40c⟩ := isOf hZ rfl E_o
      obtain ⟨_, _, ⟨T40, L40, k40, n40⟩, -, X40, ⟨Lc40, hQ40, l40, y40, z40⟩, st40⟩ := X39.virtualBack hx (y := (⟨"com/example/round_table/roundtable/engine/OrderList", "remove", "(Lcom/example/round_table/roundtable/engine/OrderList$Entry;)V"⟩ : MethodName)) (z := (⟨"com/example/round_table/roundtable/engine/OrderList", "remove", "(Lcom/example/round_table/roundtable/engine/OrderList$Entry;)V"⟩ : MethodName)) hown (mvT hZ (hw _ (List.mem_of_getElem? (i := 53) rfl))) (mvT hZ (hw _ (List.mem_of_getElem? (i := 54) rfl))) (notFace_of_selects (args := #[]) (mvT hZ (hw _ (List.mem_of_getElem? (i := 56) rfl)))) (mvT hZ (hw _ (List.mem_of_getElem? (i := 56) rfl))) (mvT hZ (hw _ (List.mem_of_getElem? (i := 55) rfl))) (by decide) (backOf (W := 0) (rm_remE l Z a0 hw [] o en1 hd en0 (.ref en1) (.ref hd) bits eg lab_en0 lab_en1 T39.heap n0 Z39 E_o g_o F_head_o F_last_o F_labelBits_o F_endGap_o E_en0 g_en0 F_label_en0 F_previous_en0 F_next_en0 E_en1 g_en1 F_label_en1 F_previous_en1 F_next_en1 ne_o_en0 ne_o_en1 ne_en0_en1) hZ (hw _ (List.mem_of_getElem? (i := 57) rfl)) (hw _ (List.mem_of_getElem? (i := 3) rfl)) (by decide) (by decide)) q40a q40c (g := (mkF m 128 #[.val (.int x0), .val (.int x1), .val (.int x2), .val (.int bits), .val (.int (2 : Int32)), .val (.int (1 : Int32)), .val (.ref o), .val (.ref en0), .val (.ref en1), .val (.ref en2), .val (.ref en1), .unset, .unset, .unset, .unset, .unset] [(.ref en1), (.ref o)])) rfl (by rw [hml]; rfl) (Steps.refl _) (argsL := [(.ref en1)]) (rest := []) (lenOf pd_5 rfl) rfl (by show 2 * 0 + _ ≤ _; exact Nat.le_of_eq rfl) (hb hby at_128) (fun _ _ => ⟨rfl, rfl, (by decide : 5 + 0 ≤ _), (by decide : 16 + 0 ≤ _)⟩)
      dsimp only [Pt.U, Pt.locs, Pt.cells, Pt.slots] at X40 l40 y40 z40 st40 hQ40
      subst l40 y40 z40
      obtain ⟨rfl, N40q, K40, F_head_o, F_last_o, F_labelBits_o, F_endGap_o, F_label_en0, F_previous_en0, F_next_en0, F_label_en1, F_previous_en1, F_next_en1⟩ := hQ40
      have N40 := Fr.app N39 N40q
      have Z40 : n0 ≤ T40.heap.size := Nat.le_trans Z39 K40.1
      have E_o := E_o.keep K40
      have E_hd := E_hd.keep K40
      have E_en0 := E_en0.keep K40
      have E_en1 := E_en1.keep K40
      have F_next_en2 := F_next_en2.keep K40 (ninS (Ne.symm ne_o_en2) (ninS (Ne.symm ne_en0_en2) (ninS (Ne.symm ne_en1_en2) nin0)))
      have F_previous_en2 := F_previous_en2.keep K40 (ninS (Ne.symm ne_o_en2) (ninS (Ne.symm ne_en0_en2) (ninS (Ne.symm ne_en1_en2) nin0)))
      have F_label_en2 := F_label_en2.keep K40 (ninS (Ne.symm ne_o_en2) (ninS (Ne.symm ne_en0_en2) (ninS (Ne.symm ne_en1_en2) nin0)))
      have E_en2 := E_en2.keep K40
      have F_label_hd := F_label_hd.keep K40 (ninS (Ne.symm ne_o_hd) (ninS ne_hd_en0 (ninS ne_hd_en1 nin0)))
      have F_previous_hd := F_previous_hd.keep K40 (ninS (Ne.symm ne_o_hd) (ninS ne_hd_en0 (ninS ne_hd_en1 nin0)))
      have F_next_hd := F_next_hd.keep K40 (ninS (Ne.symm ne_o_hd) (ninS ne_hd_en0 (ninS ne_hd_en1 nin0)))
      refine RunsTo.of (T' := T40) (g' := (mkF m 131 #[.val (.int x0), .val (.int x1), .val (.int x2), .val (.int bits), .val (.int (2 : Int32)), .val (.int (1 : Int32)), .val (.ref o), .val (.ref en0), .val (.ref en1), .val (.ref en2), .val (.ref en1), .unset, .unset, .unset, .unset, .unset] [])) (fun _ kt => st40.trans kt) ?_
      refine RunsTo.of (T' := T40) (g' := (mkF m 137 #[.val (.int x0), .val (.int x1), .val (.int x2), .val (.int bits), .val (.int (2 : Int32)), .val (.int (1 : Int32)), .val (.ref o), .val (.ref en0), .val (.ref en1), .val (.ref en2), .val (.ref en1), .val (.int ((2 : Int32) - (1 : Int32))), .unset, .unset, .unset, .unset] [])) (fun tgt_ kt => ?_) ?_
      · refine XS.iload X40.here hx rfl (hb hby at_131) rfl ?_
        show Steps p.tables e below (T40.setTop (mkF m 133 #[.val (.int x0), .val (.int x1), .val (.int x2), .val (.int bits), .val (.int (2 : Int32)), .val (.int (1 : Int32)), .val (.ref o), .val (.ref en0), .val (.ref en1), .val (.ref en2), .val (.ref en1), .unset, .unset, .unset, .unset, .unset] [(.int (2 : Int32))])) _
        refine XS.iconst X40.here hx rfl (hb hby at_133) ?_
        show Steps p.tables e below (T40.setTop (mkF m 134 #[.val (.int x0), .val (.int x1), .val (.int x2), .val (.int bits), .val (.int (2 : Int32)), .val (.int (1 : Int32)), .val (.ref o), .val (.ref en0), .val (.ref en1), .val (.ref en2), .val (.ref en1), .unset, .unset, .unset, .unset, .unset] [(.int (1 : Int32)), (.int (2 : Int32))])) _
        refine XS.isub X40.here hx rfl (hb hby at_134) rfl ?_
        show Steps p.tables e below (T40.setTop (mkF m 135 #[.val (.int x0), .val (.int x1), .val (.int x2), .val (.int bits), .val (.int (2 : Int32)), .val (.int (1 : Int32)), .val (.ref o), .val (.ref en0), .val (.ref en1), .val (.ref en2), .val (.ref en1), .unset, .unset, .unset, .unset, .unset] [(.int ((2 : Int32) - (1 : Int32)))])) _
        refine XS.istore X40.here hx rfl (hb hby at_135) rfl (l' := #[.val (.int x0), .val (.int x1), .val (.int x2), .val (.int bits), .val (.int (2 : Int32)), .val (.int (1 : Int32)), .val (.ref o), .val (.ref en0), .val (.ref en1), .val (.ref en2), .val (.ref en1), .val (.int ((2 : Int32) - (1 : Int32))), .unset, .unset, .unset, .unset]) rfl ?_
        show Steps p.tables e below (T40.setTop (mkF m 137 #[.val (.int x0), .val (.int x1), .val (.int x2), .val (.int bits), .val (.int (2 : Int32)), .val (.int (1 : Int32)), .val (.ref o), .val (.ref en0), .val (.ref en1), .val (.ref en2), .val (.ref en1), .val (.int ((2 : Int32) - (1 : Int32))), .unset, .unset, .unset, .unset] [])) _
        exact kt
      have hm : (2 : Int32) - (1 : Int32) = (1 : Int32) := by decide
      rw [hm]
      refine RunsTo.of (T' := T40) (g' := (mkF m 197 #[.val (.int x0), .val (.int x1), .val (.int x2), .val (.int bits), .val (.int (2 : Int32)), .val (.int (1 : Int32)), .val (.ref o), .val (.ref en0), .val (.ref en1), .val (.ref en2), .val (.ref en1), .val (.int (1 : Int32)), .val (.ref en0), .val (.ref en2), .unset, .unset] [(.ref o)])) (fun tgt_ kt => ?_) ?_
      · refine XS.iload X40.here hx rfl (hb hby at_137) rfl ?_
        show Steps p.tables e below (T40.setTop (mkF m 139 #[.val (.int x0), .val (.int x1), .val (.int x2), .val (.int bits), .val (.int (2 : Int32)), .val (.int (1 : Int32)), .val (.ref o), .val (.ref en0), .val (.ref en1), .val (.ref en2), .val (.ref en1), .val (.int (1 : Int32)), .unset, .unset, .unset, .unset] [(.int (1 : Int32))])) _
        refine XS.ifYes X40.here hx rfl (pc0 := 139) (pc' := 147) rfl (hb hby at_139) rfl ((if0 _ _).trans (feq (by decide)).2) (by decide) (by decide) ?_
        show Steps p.tables e below (T40.setTop (mkF m 147 #[.val (.int x0), .val (.int x1), .val (.int x2), .val (.int bits), .val (.int (2 : Int32)), .val (.int (1 : Int32)), .val (.ref o), .val (.ref en0), .val (.ref en1), .val (.ref en2), .val (.ref en1), .val (.int (1 : Int32)), .unset, .unset, .unset, .unset] [])) _
        refine XS.aload X40.here hx rfl (hb hby at_147) rfl rfl ?_
        show Steps p.tables e below (T40.setTop (mkF m 149 #[.val (.int x0), .val (.int x1), .val (.int x2), .val (.int bits), .val (.int (2 : Int32)), .val (.int (1 : Int32)), .val (.ref o), .val (.ref en0), .val (.ref en1), .val (.ref en2), .val (.ref en1), .val (.int (1 : Int32)), .unset, .unset, .unset, .unset] [(.ref en0)])) _
        refine XS.astore X40.here hx rfl (hb hby at_149) rfl rfl (l' := #[.val (.int x0), .val (.int x1), .val (.int x2), .val (.int bits), .val (.int (2 : Int32)), .val (.int (1 : Int32)), .val (.ref o), .val (.ref en0), .val (.ref en1), .val (.ref en2), .val (.ref en1), .val (.int (1 : Int32)), .val (.ref en0), .unset, .unset, .unset]) rfl ?_
        show Steps p.tables e below (T40.setTop (mkF m 151 #[.val (.int x0), .val (.int x1), .val (.int x2), .val (.int bits), .val (.int (2 : Int32)), .val (.int (1 : Int32)), .val (.ref o), .val (.ref en0), .val (.ref en1), .val (.ref en2), .val (.ref en1), .val (.int (1 : Int32)), .val (.ref en0), .unset, .unset, .unset] [])) _
        refine XS.iload X40.here hx rfl (hb hby at_151) rfl ?_
        show Steps p.tables e below (T40.setTop (mkF m 153 #[.val (.int x0), .val (.int x1), .val (.int x2), .val (.int bits), .val (.int (2 : Int32)), .val (.int (1 : Int32)), .val (.ref o), .val (.ref en0), .val (.ref en1), .val (.ref en2), .val (.ref en1), .val (.int (1 : Int32)), .val (.ref en0), .unset, .unset, .unset] [(.int (1 : Int32))])) _
        refine XS.iconst X40.here hx rfl (hb hby at_153) ?_
        show Steps p.tables e below (T40.setTop (mkF m 154 #[.val (.int x0), .val (.int x1), .val (.int x2), .val (.int bits), .val (.int (2 : Int32)), .val (.int (1 : Int32)), .val (.ref o), .val (.ref en0), .val (.ref en1), .val (.ref en2), .val (.ref en1), .val (.int (1 : Int32)), .val (.ref en0), .unset, .unset, .unset] [(.int (2 : Int32)), (.int (1 : Int32))])) _
        refine XS.icmpYes X40.here hx rfl (pc0 := 154) (pc' := 162) rfl (hb hby at_154) rfl (feq (by decide)).2 (by decide) (by decide) ?_
        show Steps p.tables e below (T40.setTop (mkF m 162 #[.val (.int x0), .val (.int x1), .val (.int x2), .val (.int bits), .val (.int (2 : Int32)), .val (.int (1 : Int32)), .val (.ref o), .val (.ref en0), .val (.ref en1), .val (.ref en2), .val (.ref en1), .val (.int (1 : Int32)), .val (.ref en0), .unset, .unset, .unset] [])) _
        refine XS.aload X40.here hx rfl (hb hby at_162) rfl rfl ?_
        show Steps p.tables e below (T40.setTop (mkF m 164 #[.val (.int x0), .val (.int x1), .val (.int x2), .val (.int bits), .val (.int (2 : Int32)), .val (.int (1 : Int32)), .val (.ref o), .val (.ref en0), .val (.ref en1), .val (.ref en2), .val (.ref en1), .val (.int (1 : Int32)), .val (.ref en0), .unset, .unset, .unset] [(.ref en2)])) _
        refine XS.astore X40.here hx rfl (hb hby at_164) rfl rfl (l' := #[.val (.int x0), .val (.int x1), .val (.int x2), .val (.int bits), .val (.int (2 : Int32)), .val (.int (1 : Int32)), .val (.ref o), .val (.ref en0), .val (.ref en1), .val (.ref en2), .val (.ref en1), .val (.int (1 : Int32)), .val (.ref en0), .val (.ref en2), .unset, .unset]) rfl ?_
        show Steps p.tables e below (T40.setTop (mkF m 166 #[.val (.int x0), .val (.int x1), .val (.int x2), .val (.int bits), .val (.int (2 : Int32)), .val (.int (1 : Int32)), .val (.ref o), .val (.ref en0), .val (.ref en1), .val (.ref en2), .val (.ref en1), .val (.int (1 : Int32)), .val (.ref en0), .val (.ref en2), .unset, .unset] [])) _
        refine XS.iload X40.here hx rfl (hb hby at_166) rfl ?_
        show Steps p.tables e below (T40.setTop (mkF m 168 #[.val (.int x0), .val (.int x1), .val (.int x2), .val (.int bits), .val (.int (2 : Int32)), .val (.int (1 : Int32)), .val (.ref o), .val (.ref en0), .val (.ref en1), .val (.ref en2), .val (.ref en1), .val (.int (1 : Int32)), .val (.ref en0), .val (.ref en2), .unset, .unset] [(.int (1 : Int32))])) _
        refine XS.ifYes X40.here hx rfl (pc0 := 168) (pc' := 189) rfl (hb hby at_168) rfl ((if0 _ _).trans (feq (by decide)).2) (by decide) (by decide) ?_
        show Steps p.tables e below (T40.setTop (mkF m 189 #[.val (.int x0), .val (.int x1), .val (.int x2), .val (.int bits), .val (.int (2 : Int32)), .val (.int (1 : Int32)), .val (.ref o), .val (.ref en0), .val (.ref en1), .val (.ref en2), .val (.ref en1), .val (.int (1 : Int32)), .val (.ref en0), .val (.ref en2), .unset, .unset] [])) _
        refine XS.iload X40.here hx rfl (hb hby at_189) rfl ?_
        show Steps p.tables e below (T40.setTop (mkF m 191 #[.val (.int x0), .val (.int x1), .val (.int x2), .val (.int bits), .val (.int (2 : Int32)), .val (.int (1 : Int32)), .val (.ref o), .val (.ref en0), .val (.ref en1), .val (.ref en2), .val (.ref en1), .val (.int (1 : Int32)), .val (.ref en0), .val (.ref en2), .unset, .unset] [(.int (1 : Int32))])) _
        refine XS.iconst X40.here hx rfl (hb hby at_191) ?_
        show Steps p.tables e below (T40.setTop (mkF m 192 #[.val (.int x0), .val (.int x1), .val (.int x2), .val (.int bits), .val (.int (2 : Int32)), .val (.int (1 : Int32)), .val (.ref o), .val (.ref en0), .val (.ref en1), .val (.ref en2), .val (.ref en1), .val (.int (1 : Int32)), .val (.ref en0), .val (.ref en2), .unset, .unset] [(.int (1 : Int32)), (.int (1 : Int32))])) _
        refine XS.icmpNo X40.here hx rfl (hb hby at_192) rfl (teq rfl).2 ?_
        show Steps p.tables e below (T40.setTop (mkF m 195 #[.val (.int x0), .val (.int x1), .val (.int x2), .val (.int bits), .val (.int (2 : Int32)), .val (.int (1 : Int32)), .val (.ref o), .val (.ref en0), .val (.ref en1), .val (.ref en2), .val (.ref en1), .val (.int (1 : Int32)), .val (.ref en0), .val (.ref en2), .unset, .unset] [])) _
        refine XS.aload X40.here hx rfl (hb hby at_195) rfl rfl ?_
        show Steps p.tables e below (T40.setTop (mkF m 197 #[.val (.int x0), .val (.int x1), .val (.int x2), .val (.int bits), .val (.int (2 : Int32)), .val (.int (1 : Int32)), .val (.ref o), .val (.ref en0), .val (.ref en1), .val (.ref en2), .val (.ref en1), .val (.int (1 : Int32)), .val (.ref en0), .val (.ref en2), .unset, .unset] [(.ref o)])) _
        exact kt
      obtain ⟨cq41, kq41, q41a, q41b, q41c⟩ := isOf hZ rfl E_o
      obtain ⟨_, _, ⟨T41, L41, k41, n41⟩, -, X41, ⟨Lc41, hQ41, l41, y41, z41⟩, st41⟩ := X40.virtualBack hx (y := (⟨"com/example/round_table/roundtable/engine/OrderList", "last", "()Lcom/example/round_table/roundtable/engine/OrderList$Entry;"⟩ : MethodName)) (z := (⟨"com/example/round_table/roundtable/engine/OrderList", "last", "()Lcom/example/round_table/roundtable/engine/OrderList$Entry;"⟩ : MethodName)) hown (mvT hZ (hw _ (List.mem_of_getElem? (i := 58) rfl))) (mvT hZ (hw _ (List.mem_of_getElem? (i := 33) rfl))) (notFace_of_selects (args := #[]) (mvT hZ (hw _ (List.mem_of_getElem? (i := 35) rfl)))) (mvT hZ (hw _ (List.mem_of_getElem? (i := 35) rfl))) (mvT hZ (hw _ (List.mem_of_getElem? (i := 34) rfl))) (by decide) (backOf (W := 0) (rm_lastN l Z a0 hw [] o hd en0 T40.heap n0 Z40 F_head_o F_last_o (Ne.symm ne_hd_en0)) hZ (hw _ (List.mem_of_getElem? (i := 36) rfl)) (hw _ (List.mem_of_getElem? (i := 3) rfl)) (by decide) (by decide)) q41a q41c (g := (mkF m 197 #[.val (.int x0), .val (.int x1), .val (.int x2), .val (.int bits), .val (.int (2 : Int32)), .val (.int (1 : Int32)), .val (.ref o), .val (.ref en0), .val (.ref en1), .val (.ref en2), .val (.ref en1), .val (.int (1 : Int32)), .val (.ref en0), .val (.ref en2), .unset, .unset] [(.ref o)])) rfl (by rw [hml]; rfl) (Steps.refl _) (argsL := []) (rest := []) (lenOf pd_2 rfl) rfl (by show 2 * 0 + _ ≤ _; exact Nat.le_of_eq rfl) (hb hby at_197) (fun _ _ => ⟨rfl, rfl, (by decide : 5 + 0 ≤ _), (by decide : 16 + 0 ≤ _)⟩)
      dsimp only [Pt.U, Pt.locs, Pt.cells, Pt.slots] at X41 l41 y41 z41 st41 hQ41
      subst l41 y41 z41
      obtain ⟨rfl, N41q, e41⟩ := hQ41
      have N41 := Fr.app N40 N41q
      refine RunsTo.of (T' := T41) (g' := (mkF m 200 #[.val (.int x0), .val (.int x1), .val (.int x2), .val (.int bits), .val (.int (2 : Int32)), .val (.int (1 : Int32)), .val (.ref o), .val (.ref en0), .val (.ref en1), .val (.ref en2), .val (.ref en1), .val (.int (1 : Int32)), .val (.ref en0), .val (.ref en2), .unset, .unset] [(.ref en0)])) (fun _ kt => st41.trans kt) ?_
      refine RunsTo.of (T' := T41) (g' := (mkF m 209 #[.val (.int x0), .val (.int x1), .val (.int x2), .val (.int bits), .val (.int (2 : Int32)), .val (.int (1 : Int32)), .val (.ref o), .val (.ref en0), .val (.ref en1), .val (.ref en2), .val (.ref en1), .val (.int (1 : Int32)), .val (.ref en0), .val (.ref en2), .unset, .unset] [(.ref en0), (.ref o)])) (fun tgt_ kt => ?_) ?_
      · refine XS.aload X41.here hx rfl (hb hby at_200) rfl rfl ?_
        show Steps p.tables e below (T41.setTop (mkF m 202 #[.val (.int x0), .val (.int x1), .val (.int x2), .val (.int bits), .val (.int (2 : Int32)), .val (.int (1 : Int32)), .val (.ref o), .val (.ref en0), .val (.ref en1), .val (.ref en2), .val (.ref en1), .val (.int (1 : Int32)), .val (.ref en0), .val (.ref en2), .unset, .unset] [(.ref en0), (.ref en0)])) _
        refine Jvm.RoadKit.acmp (g := (mkF m 202 #[.val (.int x0), .val (.int x1), .val (.int x2), .val (.int bits), .val (.int (2 : Int32)), .val (.int (1 : Int32)), .val (.ref o), .val (.ref en0), .val (.ref en1), .val (.ref en2), .val (.ref en1), .val (.int (1 : Int32)), .val (.ref en0), .val (.ref en2), .unset, .unset] [(.ref en0), (.ref en0)])) X41 hx rfl rfl rfl (pc0 := 202) (pc' := 205) (same := true) rfl (hb hby at_202) rfl (decide_eq_true (congrArg Value.ref rfl)) (by decide) (by decide) ?_
        show Steps p.tables e below (T41.setTop (mkF m 205 #[.val (.int x0), .val (.int x1), .val (.int x2), .val (.int bits), .val (.int (2 : Int32)), .val (.int (1 : Int32)), .val (.ref o), .val (.ref en0), .val (.ref en1), .val (.ref en2), .val (.ref en1), .val (.int (1 : Int32)), .val (.ref en0), .val (.ref en2), .unset, .unset] [])) _
        refine XS.aload X41.here hx rfl (hb hby at_205) rfl rfl ?_
        show Steps p.tables e below (T41.setTop (mkF m 207 #[.val (.int x0), .val (.int x1), .val (.int x2), .val (.int bits), .val (.int (2 : Int32)), .val (.int (1 : Int32)), .val (.ref o), .val (.ref en0), .val (.ref en1), .val (.ref en2), .val (.ref en1), .val (.int (1 : Int32)), .val (.ref en0), .val (.ref en2), .unset, .unset] [(.ref o)])) _
        refine XS.aload X41.here hx rfl (hb hby at_207) rfl rfl ?_
        show Steps p.tables e below (T41.setTop (mkF m 209 #[.val (.int x0), .val (.int x1), .val (.int x2), .val (.int bits), .val (.int (2 : Int32)), .val (.int (1 : Int32)), .val (.ref o), .val (.ref en0), .val (.ref en1), .val (.ref en2), .val (.ref en1), .val (.int (1 : Int32)), .val (.ref en0), .val (.ref en2), .unset, .unset] [(.ref en0), (.ref o)])) _
        exact kt
      obtain ⟨cq42, kq42, q42a, q42b, q42c⟩ := isOf hZ e41 E_o
      obtain ⟨_, _, ⟨T42, L42, k42, n42⟩, -, X42, ⟨Lc42, hQ42, l42, y42, z42⟩, st42⟩ := X41.virtualBack hx (y := (⟨"com/example/round_table/roundtable/engine/OrderList", "previous", "(Lcom/example/round_table/roundtable/engine/OrderList$Entry;)Lcom/example/round_table/roundtable/engine/OrderList$Entry;"⟩ : MethodName)) (z := (⟨"com/example/round_table/roundtable/engine/OrderList", "previous", "(Lcom/example/round_table/roundtable/engine/OrderList$Entry;)Lcom/example/round_table/roundtable/engine/OrderList$Entry;"⟩ : MethodName)) hown (mvT hZ (hw _ (List.mem_of_getElem? (i := 65) rfl))) (mvT hZ (hw _ (List.mem_of_getElem? (i := 66) rfl))) (notFace_of_selects (args := #[]) (mvT hZ (hw _ (List.mem_of_getElem? (i := 68) rfl)))) (mvT hZ (hw _ (List.mem_of_getElem? (i := 68) rfl))) (mvT hZ (hw _ (List.mem_of_getElem? (i := 67) rfl))) (by decide) (backOf (W := 0) (rm_prevE l Z a0 hw [] o en0 hd T40.heap n0 Z40 F_head_o F_previous_en0) hZ (hw _ (List.mem_of_getElem? (i := 69) rfl)) (hw _ (List.mem_of_getElem? (i := 3) rfl)) (by decide) (by decide)) q42a q42c (g := (mkF m 209 #[.val (.int x0), .val (.int x1), .val (.int x2), .val (.int bits), .val (.int (2 : Int32)), .val (.int (1 : Int32)), .val (.ref o), .val (.ref en0), .val (.ref en1), .val (.ref en2), .val (.ref en1), .val (.int (1 : Int32)), .val (.ref en0), .val (.ref en2), .unset, .unset] [(.ref en0), (.ref o)])) rfl (by rw [hml]; rfl) (Steps.refl _) (argsL := [(.ref en0)]) (rest := []) (lenOf pd_6 rfl) rfl (by show 2 * 0 + _ ≤ _; exact Nat.le_of_eq rfl) (hb hby at_209) (fun _ _ => ⟨rfl, e41, (by decide : 5 + 0 ≤ _), (by decide : 16 + 0 ≤ _)⟩)
      dsimp only [Pt.U, Pt.locs, Pt.cells, Pt.slots] at X42 l42 y42 z42 st42 hQ42
      subst l42 y42 z42
      obtain ⟨rfl, N42q, e42⟩ := hQ42
      have N42 := Fr.app N41 N42q
      refine RunsTo.of (T' := T42) (g' := (mkF m 212 #[.val (.int x0), .val (.int x1), .val (.int x2), .val (.int bits), .val (.int (2 : Int32)), .val (.int (1 : Int32)), .val (.ref o), .val (.ref en0), .val (.ref en1), .val (.ref en2), .val (.ref en1), .val (.int (1 : Int32)), .val (.ref en0), .val (.ref en2), .unset, .unset] [.null])) (fun _ kt => st42.trans kt) ?_
      refine RunsTo.of (T' := T42) (g' := (mkF m 219 #[.val (.int x0), .val (.int x1), .val (.int x2), .val (.int bits), .val (.int (2 : Int32)), .val (.int (1 : Int32)), .val (.ref o), .val (.ref en0), .val (.ref en1), .val (.ref en2), .val (.ref en1), .val (.int (1 : Int32)), .val (.ref en0), .val (.ref en2), .unset, .unset] [(.ref en0), (.ref o)])) (fun tgt_ kt => ?_) ?_
      · refine XS.ifnonnullNo X42.here hx rfl (hb hby at_212) rfl ?_
        show Steps p.tables e below (T42.setTop (mkF m 215 #[.val (.int x0), .val (.int x1), .val (.int x2), .val (.int bits), .val (.int (2 : Int32)), .val (.int (1 : Int32)), .val (.ref o), .val (.ref en0), .val (.ref en1), .val (.ref en2), .val (.ref en1), .val (.int (1 : Int32)), .val (.ref en0), .val (.ref en2), .unset, .unset] [])) _
        refine XS.aload X42.here hx rfl (hb hby at_215) rfl rfl ?_
        show Steps p.tables e below (T42.setTop (mkF m 217 #[.val (.int x0), .val (.int x1), .val (.int x2), .val (.int bits), .val (.int (2 : Int32)), .val (.int (1 : Int32)), .val (.ref o), .val (.ref en0), .val (.ref en1), .val (.ref en2), .val (.ref en1), .val (.int (1 : Int32)), .val (.ref en0), .val (.ref en2), .unset, .unset] [(.ref o)])) _
        refine XS.aload X42.here hx rfl (hb hby at_217) rfl rfl ?_
        show Steps p.tables e below (T42.setTop (mkF m 219 #[.val (.int x0), .val (.int x1), .val (.int x2), .val (.int bits), .val (.int (2 : Int32)), .val (.int (1 : Int32)), .val (.ref o), .val (.ref en0), .val (.ref en1), .val (.ref en2), .val (.ref en1), .val (.int (1 : Int32)), .val (.ref en0), .val (.ref en2), .unset, .unset] [(.ref en0), (.ref o)])) _
        exact kt
      obtain ⟨cq43, kq43, q43a, q43b, q43c⟩ := isOf hZ e42 E_o
      obtain ⟨_, _, ⟨T43, L43, k43, n43⟩, -, X43, ⟨Lc43, hQ43, l43, y43, z43⟩, st43⟩ := X42.virtualBack hx (y := (⟨"com/example/round_table/roundtable/engine/OrderList", "next", "(Lcom/example/round_table/roundtable/engine/OrderList$Entry;)Lcom/example/round_table/roundtable/engine/OrderList$Entry;"⟩ : MethodName)) (z := (⟨"com/example/round_table/roundtable/engine/OrderList", "next", "(Lcom/example/round_table/roundtable/engine/OrderList$Entry;)Lcom/example/round_table/roundtable/engine/OrderList$Entry;"⟩ : MethodName)) hown (mvT hZ (hw _ (List.mem_of_getElem? (i := 60) rfl))) (mvT hZ (hw _ (List.mem_of_getElem? (i := 61) rfl))) (notFace_of_selects (args := #[]) (mvT hZ (hw _ (List.mem_of_getElem? (i := 63) rfl)))) (mvT hZ (hw _ (List.mem_of_getElem? (i := 63) rfl))) (mvT hZ (hw _ (List.mem_of_getElem? (i := 62) rfl))) (by decide) (backOf (W := 0) (rm9 l Z a0 hw [] o en0 .null rfl T40.heap n0 Z40 F_next_en0) hZ (hw _ (List.mem_of_getElem? (i := 64) rfl)) (hw _ (List.mem_of_getElem? (i := 3) rfl)) (by decide) (by decide)) q43a q43c (g := (mkF m 219 #[.val (.int x0), .val (.int x1), .val (.int x2), .val (.int bits), .val (.int (2 : Int32)), .val (.int (1 : Int32)), .val (.ref o), .val (.ref en0), .val (.ref en1), .val (.ref en2), .val (.ref en1), .val (.int (1 : Int32)), .val (.ref en0), .val (.ref en2), .unset, .unset] [(.ref en0), (.ref o)])) rfl (by rw [hml]; rfl) (Steps.refl _) (argsL := [(.ref en0)]) (rest := []) (lenOf pd_6 rfl) rfl (by show 2 * 0 + _ ≤ _; exact Nat.le_of_eq rfl) (hb hby at_219) (fun _ _ => ⟨rfl, e42, (by decide : 5 + 0 ≤ _), (by decide : 16 + 0 ≤ _)⟩)
      dsimp only [Pt.U, Pt.locs, Pt.cells, Pt.slots] at X43 l43 y43 z43 st43 hQ43
      subst l43 y43 z43
      obtain ⟨rfl, N43q, e43⟩ := hQ43
      have N43 := Fr.app N42 N43q
      refine RunsTo.of (T' := T43) (g' := (mkF m 222 #[.val (.int x0), .val (.int x1), .val (.int x2), .val (.int bits), .val (.int (2 : Int32)), .val (.int (1 : Int32)), .val (.ref o), .val (.ref en0), .val (.ref en1), .val (.ref en2), .val (.ref en1), .val (.int (1 : Int32)), .val (.ref en0), .val (.ref en2), .unset, .unset] [.null])) (fun _ kt => st43.trans kt) ?_
      refine RunsTo.of (T' := T43) (g' := (mkF m 301 #[.val (.int x0), .val (.int x1), .val (.int x2), .val (.int bits), .val (.int (2 : Int32)), .val (.int (1 : Int32)), .val (.ref o), .val (.ref en0), .val (.ref en1), .val (.ref en2), .val (.ref en1), .val (.int (1 : Int32)), .val (.ref en0), .val (.ref en2), .val (.int (1 : Int32)), .unset] [(.ref en1), .null, (.ref o)])) (fun tgt_ kt => ?_) ?_
      · refine XS.ifnonnullNo X43.here hx rfl (hb hby at_222) rfl ?_
        show Steps p.tables e below (T43.setTop (mkF m 225 #[.val (.int x0), .val (.int x1), .val (.int x2), .val (.int bits), .val (.int (2 : Int32)), .val (.int (1 : Int32)), .val (.ref o), .val (.ref en0), .val (.ref en1), .val (.ref en2), .val (.ref en1), .val (.int (1 : Int32)), .val (.ref en0), .val (.ref en2), .unset, .unset] [])) _
        refine XS.iconst X43.here hx rfl (hb hby at_225) ?_
        show Steps p.tables e below (T43.setTop (mkF m 226 #[.val (.int x0), .val (.int x1), .val (.int x2), .val (.int bits), .val (.int (2 : Int32)), .val (.int (1 : Int32)), .val (.ref o), .val (.ref en0), .val (.ref en1), .val (.ref en2), .val (.ref en1), .val (.int (1 : Int32)), .val (.ref en0), .val (.ref en2), .unset, .unset] [(.int (1 : Int32))])) _
        refine XS.goto X43.here hx rfl (pc0 := 226) (pc' := 230) rfl (hb hby at_226) (by decide) (by decide) ?_
        show Steps p.tables e below (T43.setTop (mkF m 230 #[.val (.int x0), .val (.int x1), .val (.int x2), .val (.int bits), .val (.int (2 : Int32)), .val (.int (1 : Int32)), .val (.ref o), .val (.ref en0), .val (.ref en1), .val (.ref en2), .val (.ref en1), .val (.int (1 : Int32)), .val (.ref en0), .val (.ref en2), .unset, .unset] [(.int (1 : Int32))])) _
        refine XS.istore X43.here hx rfl (hb hby at_230) rfl (l' := #[.val (.int x0), .val (.int x1), .val (.int x2), .val (.int bits), .val (.int (2 : Int32)), .val (.int (1 : Int32)), .val (.ref o), .val (.ref en0), .val (.ref en1), .val (.ref en2), .val (.ref en1), .val (.int (1 : Int32)), .val (.ref en0), .val (.ref en2), .val (.int (1 : Int32)), .unset]) rfl ?_
        show Steps p.tables e below (T43.setTop (mkF m 232 #[.val (.int x0), .val (.int x1), .val (.int x2), .val (.int bits), .val (.int (2 : Int32)), .val (.int (1 : Int32)), .val (.ref o), .val (.ref en0), .val (.ref en1), .val (.ref en2), .val (.ref en1), .val (.int (1 : Int32)), .val (.ref en0), .val (.ref en2), .val (.int (1 : Int32)), .unset] [])) _
        refine XS.goto X43.here hx rfl (pc0 := 232) (pc' := 296) rfl (hb hby at_232) (by decide) (by decide) ?_
        show Steps p.tables e below (T43.setTop (mkF m 296 #[.val (.int x0), .val (.int x1), .val (.int x2), .val (.int bits), .val (.int (2 : Int32)), .val (.int (1 : Int32)), .val (.ref o), .val (.ref en0), .val (.ref en1), .val (.ref en2), .val (.ref en1), .val (.int (1 : Int32)), .val (.ref en0), .val (.ref en2), .val (.int (1 : Int32)), .unset] [])) _
        refine XS.aload X43.here hx rfl (hb hby at_296) rfl rfl ?_
        show Steps p.tables e below (T43.setTop (mkF m 298 #[.val (.int x0), .val (.int x1), .val (.int x2), .val (.int bits), .val (.int (2 : Int32)), .val (.int (1 : Int32)), .val (.ref o), .val (.ref en0), .val (.ref en1), .val (.ref en2), .val (.ref en1), .val (.int (1 : Int32)), .val (.ref en0), .val (.ref en2), .val (.int (1 : Int32)), .unset] [(.ref o)])) _
        refine XS.aconstNull X43.here hx rfl (hb hby at_298) ?_
        show Steps p.tables e below (T43.setTop (mkF m 299 #[.val (.int x0), .val (.int x1), .val (.int x2), .val (.int bits), .val (.int (2 : Int32)), .val (.int (1 : Int32)), .val (.ref o), .val (.ref en0), .val (.ref en1), .val (.ref en2), .val (.ref en1), .val (.int (1 : Int32)), .val (.ref en0), .val (.ref en2), .val (.int (1 : Int32)), .unset] [.null, (.ref o)])) _
        refine XS.aload X43.here hx rfl (hb hby at_299) rfl rfl ?_
        show Steps p.tables e below (T43.setTop (mkF m 301 #[.val (.int x0), .val (.int x1), .val (.int x2), .val (.int bits), .val (.int (2 : Int32)), .val (.int (1 : Int32)), .val (.ref o), .val (.ref en0), .val (.ref en1), .val (.ref en2), .val (.ref en1), .val (.int (1 : Int32)), .val (.ref en0), .val (.ref en2), .val (.int (1 : Int32)), .unset] [(.ref en1), .null, (.ref o)])) _
        exact kt
      obtain ⟨cq44, kq44, q44a, q44b, q44c⟩ := isOf hZ e43 E_o
      obtain ⟨_, _, ⟨T44, L44, k44, n44⟩, -, X44, ⟨Lc44, hQ44, l44, y44, z44⟩, st44⟩ := X43.virtualBack hx (y := (⟨"com/example/round_table/roundtable/engine/OrderList", "insertAfter", "(Lcom/example/round_table/roundtable/engine/OrderList$Entry;Lcom/example/round_table/roundtable/engine/OrderList$Entry;)V"⟩ : MethodName)) (z := (⟨"com/example/round_table/roundtable/engine/OrderList", "insertAfter", "(Lcom/example/round_table/roundtable/engine/OrderList$Entry;Lcom/example/round_table/roundtable/engine/OrderList$Entry;)V"⟩ : MethodName)) hown (mvT hZ (hw _ (List.mem_of_getElem? (i := 59) rfl))) (mvT hZ (hw _ (List.mem_of_getElem? (i := 38) rfl))) (notFace_of_selects (args := #[]) (mvT hZ (hw _ (List.mem_of_getElem? (i := 40) rfl)))) (mvT hZ (hw _ (List.mem_of_getElem? (i := 40) rfl))) (mvT hZ (hw _ (List.mem_of_getElem? (i := 39) rfl))) (by decide) (backOf (W := 0) (rm_insF l Z a0 hw [] o en1 hd en0 (.ref en0) bits eg lab_en0 lab_en1 .null T40.heap n0 Z40 E_o g_o F_head_o F_last_o F_labelBits_o F_endGap_o E_hd g_hd F_label_hd F_previous_hd F_next_hd E_en0 g_en0 F_label_en0 F_previous_en0 F_next_en0 E_en1 g_en1 F_label_en1 F_previous_en1 F_next_en1 ne_o_hd ne_o_en1 ne_o_en0 ne_hd_en1 ne_hd_en0 ne_en0_en1 (by omega)) hZ (hw _ (List.mem_of_getElem? (i := 41) rfl)) (hw _ (List.mem_of_getElem? (i := 3) rfl)) (by decide) (by decide)) q44a q44c (g := (mkF m 301 #[.val (.int x0), .val (.int x1), .val (.int x2), .val (.int bits), .val (.int (2 : Int32)), .val (.int (1 : Int32)), .val (.ref o), .val (.ref en0), .val (.ref en1), .val (.ref en2), .val (.ref en1), .val (.int (1 : Int32)), .val (.ref en0), .val (.ref en2), .val (.int (1 : Int32)), .unset] [(.ref en1), .null, (.ref o)])) rfl (by rw [hml]; rfl) (Steps.refl _) (argsL := [.null, (.ref en1)]) (rest := []) (lenOf pd_3 rfl) rfl (by show 2 * 0 + _ ≤ _; exact Nat.le_of_eq rfl) (hb hby at_301) (fun _ _ => ⟨rfl, e43, (by decide : 5 + 0 ≤ _), (by decide : 16 + 0 ≤ _)⟩)
      dsimp only [Pt.U, Pt.locs, Pt.cells, Pt.slots] at X44 l44 y44 z44 st44 hQ44
      subst l44 y44 z44
      obtain ⟨rfl, N44q, K44, F_next_en1⟩ := hQ44
      have N44 := Fr.app N43 N44q
      have Z44 : n0 ≤ T44.heap.size := Nat.le_trans Z40 K44.1
      have E_o := E_o.keep K44
      have E_hd := E_hd.keep K44
      have E_en0 := E_en0.keep K44
      have E_en1 := E_en1.keep K44
      have F_next_en2 := F_next_en2.keep K44 (ninS (Ne.symm ne_o_en2) (ninS (Ne.symm ne_hd_en2) (ninS (Ne.symm ne_en0_en2) (ninS (Ne.symm ne_en1_en2) nin0))))
      have F_previous_en2 := F_previous_en2.keep K44 (ninS (Ne.symm ne_o_en2) (ninS (Ne.symm ne_hd_en2) (ninS (Ne.symm ne_en0_en2) (ninS (Ne.symm ne_en1_en2) nin0))))
      have F_label_en2 := F_label_en2.keep K44 (ninS (Ne.symm ne_o_en2) (ninS (Ne.symm ne_hd_en2) (ninS (Ne.symm ne_en0_en2) (ninS (Ne.symm ne_en1_en2) nin0))))
      have E_en2 := E_en2.keep K44
      refine RunsTo.of (T' := T44) (g' := (mkF m 304 #[.val (.int x0), .val (.int x1), .val (.int x2), .val (.int bits), .val (.int (2 : Int32)), .val (.int (1 : Int32)), .val (.ref o), .val (.ref en0), .val (.ref en1), .val (.ref en2), .val (.ref en1), .val (.int (1 : Int32)), .val (.ref en0), .val (.ref en2), .val (.int (1 : Int32)), .unset] [])) (fun _ kt => st44.trans kt) ?_
      refine RunsTo.of (T' := T44) (g' := (mkF m 326 #[.val (.int x0), .val (.int x1), .val (.int x2), .val (.int bits), .val (.int (2 : Int32)), .val (.int (1 : Int32)), .val (.ref o), .val (.ref en0), .val (.ref en1), .val (.ref en2), .val (.ref en1), .val (.int (1 : Int32)), .val (.ref en0), .val (.ref en2), .val (.int (1 : Int32)), .val (.ref en0)] [(.ref en1), (.ref o)])) (fun tgt_ kt => ?_) ?_
      · refine XS.iload X44.here hx rfl (hb hby at_304) rfl ?_
        show Steps p.tables e below (T44.setTop (mkF m 306 #[.val (.int x0), .val (.int x1), .val (.int x2), .val (.int bits), .val (.int (2 : Int32)), .val (.int (1 : Int32)), .val (.ref o), .val (.ref en0), .val (.ref en1), .val (.ref en2), .val (.ref en1), .val (.int (1 : Int32)), .val (.ref en0), .val (.ref en2), .val (.int (1 : Int32)), .unset] [(.int (1 : Int32))])) _
        refine XS.ifYes X44.here hx rfl (pc0 := 306) (pc' := 313) rfl (hb hby at_306) rfl ((if0 _ _).trans (feq (by decide)).2) (by decide) (by decide) ?_
        show Steps p.tables e below (T44.setTop (mkF m 313 #[.val (.int x0), .val (.int x1), .val (.int x2), .val (.int bits), .val (.int (2 : Int32)), .val (.int (1 : Int32)), .val (.ref o), .val (.ref en0), .val (.ref en1), .val (.ref en2), .val (.ref en1), .val (.int (1 : Int32)), .val (.ref en0), .val (.ref en2), .val (.int (1 : Int32)), .unset] [])) _
        refine XS.aload X44.here hx rfl (hb hby at_313) rfl rfl ?_
        show Steps p.tables e below (T44.setTop (mkF m 315 #[.val (.int x0), .val (.int x1), .val (.int x2), .val (.int bits), .val (.int (2 : Int32)), .val (.int (1 : Int32)), .val (.ref o), .val (.ref en0), .val (.ref en1), .val (.ref en2), .val (.ref en1), .val (.int (1 : Int32)), .val (.ref en0), .val (.ref en2), .val (.int (1 : Int32)), .unset] [(.ref en0)])) _
        refine XS.astore X44.here hx rfl (hb hby at_315) rfl rfl (l' := #[.val (.int x0), .val (.int x1), .val (.int x2), .val (.int bits), .val (.int (2 : Int32)), .val (.int (1 : Int32)), .val (.ref o), .val (.ref en0), .val (.ref en1), .val (.ref en2), .val (.ref en1), .val (.int (1 : Int32)), .val (.ref en0), .val (.ref en2), .val (.int (1 : Int32)), .val (.ref en0)]) rfl ?_
        show Steps p.tables e below (T44.setTop (mkF m 317 #[.val (.int x0), .val (.int x1), .val (.int x2), .val (.int bits), .val (.int (2 : Int32)), .val (.int (1 : Int32)), .val (.ref o), .val (.ref en0), .val (.ref en1), .val (.ref en2), .val (.ref en1), .val (.int (1 : Int32)), .val (.ref en0), .val (.ref en2), .val (.int (1 : Int32)), .val (.ref en0)] [])) _
        refine XS.iload X44.here hx rfl (hb hby at_317) rfl ?_
        show Steps p.tables e below (T44.setTop (mkF m 319 #[.val (.int x0), .val (.int x1), .val (.int x2), .val (.int bits), .val (.int (2 : Int32)), .val (.int (1 : Int32)), .val (.ref o), .val (.ref en0), .val (.ref en1), .val (.ref en2), .val (.ref en1), .val (.int (1 : Int32)), .val (.ref en0), .val (.ref en2), .val (.int (1 : Int32)), .val (.ref en0)] [(.int (1 : Int32))])) _
        refine XS.ifNo X44.here hx rfl (hb hby at_319) rfl ((if0 _ _).trans (feq (by decide)).1) ?_
        show Steps p.tables e below (T44.setTop (mkF m 322 #[.val (.int x0), .val (.int x1), .val (.int x2), .val (.int bits), .val (.int (2 : Int32)), .val (.int (1 : Int32)), .val (.ref o), .val (.ref en0), .val (.ref en1), .val (.ref en2), .val (.ref en1), .val (.int (1 : Int32)), .val (.ref en0), .val (.ref en2), .val (.int (1 : Int32)), .val (.ref en0)] [])) _
        refine XS.aload X44.here hx rfl (hb hby at_322) rfl rfl ?_
        show Steps p.tables e below (T44.setTop (mkF m 324 #[.val (.int x0), .val (.int x1), .val (.int x2), .val (.int bits), .val (.int (2 : Int32)), .val (.int (1 : Int32)), .val (.ref o), .val (.ref en0), .val (.ref en1), .val (.ref en2), .val (.ref en1), .val (.int (1 : Int32)), .val (.ref en0), .val (.ref en2), .val (.int (1 : Int32)), .val (.ref en0)] [(.ref o)])) _
        refine XS.aload X44.here hx rfl (hb hby at_324) rfl rfl ?_
        show Steps p.tables e below (T44.setTop (mkF m 326 #[.val (.int x0), .val (.int x1), .val (.int x2), .val (.int bits), .val (.int (2 : Int32)), .val (.int (1 : Int32)), .val (.ref o), .val (.ref en0), .val (.ref en1), .val (.ref en2), .val (.ref en1), .val (.int (1 : Int32)), .val (.ref en0), .val (.ref en2), .val (.int (1 : Int32)), .val (.ref en0)] [(.ref en1), (.ref o)])) _
        exact kt
      obtain ⟨cq45, kq45, q45a, q45b, q45c⟩ := isOf hZ rfl E_o
      obtain ⟨_, _, ⟨T45, L45, k45, n45⟩, -, X45, ⟨Lc45, hQ45, l45, y45, z45⟩, st45⟩ := X44.virtualBack hx (y := (⟨"com/example/round_table/roundtable/engine/OrderList", "next", "(Lcom/example/round_table/roundtable/engine/OrderList$Entry;)Lcom/example/round_table/roundtable/engine/OrderList$Entry;"⟩ : MethodName)) (z := (⟨"com/example/round_table/roundtable/engine/OrderList", "next", "(Lcom/example/round_table/roundtable/engine/OrderList$Entry;)Lcom/example/round_table/roundtable/engine/OrderList$Entry;"⟩ : MethodName)) hown (mvT hZ (hw _ (List.mem_of_getElem? (i := 60) rfl))) (mvT hZ (hw _ (List.mem_of_getElem? (i := 61) rfl))) (notFace_of_selects (args := #[]) (mvT hZ (hw _ (List.mem_of_getElem? (i := 63) rfl)))) (mvT hZ (hw _ (List.mem_of_getElem? (i := 63) rfl))) (mvT hZ (hw _ (List.mem_of_getElem? (i := 62) rfl))) (by decide) (backOf (W := 0) (rm9 l Z a0 hw [] o en1 (.ref en0) rfl T44.heap n0 Z44 F_next_en1) hZ (hw _ (List.mem_of_getElem? (i := 64) rfl)) (hw _ (List.mem_of_getElem? (i := 3) rfl)) (by decide) (by decide)) q45a q45c (g := (mkF m 326 #[.val (.int x0), .val (.int x1), .val (.int x2), .val (.int bits), .val (.int (2 : Int32)), .val (.int (1 : Int32)), .val (.ref o), .val (.ref en0), .val (.ref en1), .val (.ref en2), .val (.ref en1), .val (.int (1 : Int32)), .val (.ref en0), .val (.ref en2), .val (.int (1 : Int32)), .val (.ref en0)] [(.ref en1), (.ref o)])) rfl (by rw [hml]; rfl) (Steps.refl _) (argsL := [(.ref en1)]) (rest := []) (lenOf pd_6 rfl) rfl (by show 2 * 0 + _ ≤ _; exact Nat.le_of_eq rfl) (hb hby at_326) (fun _ _ => ⟨rfl, rfl, (by decide : 5 + 0 ≤ _), (by decide : 16 + 0 ≤ _)⟩)
      dsimp only [Pt.U, Pt.locs, Pt.cells, Pt.slots] at X45 l45 y45 z45 st45 hQ45
      subst l45 y45 z45
      obtain ⟨rfl, N45q, e45⟩ := hQ45
      have N45 := Fr.app N44 N45q
      refine RunsTo.of (T' := T45) (g' := (mkF m 329 #[.val (.int x0), .val (.int x1), .val (.int x2), .val (.int bits), .val (.int (2 : Int32)), .val (.int (1 : Int32)), .val (.ref o), .val (.ref en0), .val (.ref en1), .val (.ref en2), .val (.ref en1), .val (.int (1 : Int32)), .val (.ref en0), .val (.ref en2), .val (.int (1 : Int32)), .val (.ref en0)] [(.ref en0)])) (fun _ kt => st45.trans kt) ?_
      refine RunsTo.of (T' := T45) (g' := (mkF m 343 #[.val (.int x0), .val (.int x1), .val (.int x2), .val (.int bits), .val (.int (2 : Int32)), .val (.int (1 : Int32)), .val (.ref o), .val (.ref en0), .val (.ref en1), .val (.ref en2), .val (.ref en1), .val (.int (1 : Int32)), .val (.ref en0), .val (.ref en2), .val (.int (1 : Int32)), .val (.ref en0)] [(.int (1 : Int32))])) (fun tgt_ kt => ?_) ?_
      · refine XS.aload X45.here hx rfl (hb hby at_329) rfl rfl ?_
        show Steps p.tables e below (T45.setTop (mkF m 331 #[.val (.int x0), .val (.int x1), .val (.int x2), .val (.int bits), .val (.int (2 : Int32)), .val (.int (1 : Int32)), .val (.ref o), .val (.ref en0), .val (.ref en1), .val (.ref en2), .val (.ref en1), .val (.int (1 : Int32)), .val (.ref en0), .val (.ref en2), .val (.int (1 : Int32)), .val (.ref en0)] [(.ref en0), (.ref en0)])) _
        refine Jvm.RoadKit.acmp (g := (mkF m 331 #[.val (.int x0), .val (.int x1), .val (.int x2), .val (.int bits), .val (.int (2 : Int32)), .val (.int (1 : Int32)), .val (.ref o), .val (.ref en0), .val (.ref en1), .val (.ref en2), .val (.ref en1), .val (.int (1 : Int32)), .val (.ref en0), .val (.ref en2), .val (.int (1 : Int32)), .val (.ref en0)] [(.ref en0), (.ref en0)])) X45 hx rfl rfl rfl (pc0 := 331) (pc' := 334) (same := true) rfl (hb hby at_331) rfl (decide_eq_true (congrArg Value.ref rfl)) (by decide) (by decide) ?_
        show Steps p.tables e below (T45.setTop (mkF m 334 #[.val (.int x0), .val (.int x1), .val (.int x2), .val (.int bits), .val (.int (2 : Int32)), .val (.int (1 : Int32)), .val (.ref o), .val (.ref en0), .val (.ref en1), .val (.ref en2), .val (.ref en1), .val (.int (1 : Int32)), .val (.ref en0), .val (.ref en2), .val (.int (1 : Int32)), .val (.ref en0)] [])) _
        refine XS.iconst X45.here hx rfl (hb hby at_334) ?_
        show Steps p.tables e below (T45.setTop (mkF m 335 #[.val (.int x0), .val (.int x1), .val (.int x2), .val (.int bits), .val (.int (2 : Int32)), .val (.int (1 : Int32)), .val (.ref o), .val (.ref en0), .val (.ref en1), .val (.ref en2), .val (.ref en1), .val (.int (1 : Int32)), .val (.ref en0), .val (.ref en2), .val (.int (1 : Int32)), .val (.ref en0)] [(.int (1 : Int32))])) _
        refine XS.goto X45.here hx rfl (pc0 := 335) (pc' := 339) rfl (hb hby at_335) (by decide) (by decide) ?_
        show Steps p.tables e below (T45.setTop (mkF m 339 #[.val (.int x0), .val (.int x1), .val (.int x2), .val (.int bits), .val (.int (2 : Int32)), .val (.int (1 : Int32)), .val (.ref o), .val (.ref en0), .val (.ref en1), .val (.ref en2), .val (.ref en1), .val (.int (1 : Int32)), .val (.ref en0), .val (.ref en2), .val (.int (1 : Int32)), .val (.ref en0)] [(.int (1 : Int32))])) _
        refine XS.istore X45.here hx rfl (hb hby at_339) rfl (l' := #[.val (.int x0), .val (.int x1), .val (.int x2), .val (.int bits), .val (.int (2 : Int32)), .val (.int (1 : Int32)), .val (.ref o), .val (.ref en0), .val (.ref en1), .val (.ref en2), .val (.ref en1), .val (.int (1 : Int32)), .val (.ref en0), .val (.ref en2), .val (.int (1 : Int32)), .val (.ref en0)]) rfl ?_
        show Steps p.tables e below (T45.setTop (mkF m 341 #[.val (.int x0), .val (.int x1), .val (.int x2), .val (.int bits), .val (.int (2 : Int32)), .val (.int (1 : Int32)), .val (.ref o), .val (.ref en0), .val (.ref en1), .val (.ref en2), .val (.ref en1), .val (.int (1 : Int32)), .val (.ref en0), .val (.ref en2), .val (.int (1 : Int32)), .val (.ref en0)] [])) _
        refine XS.iload X45.here hx rfl (hb hby at_341) rfl ?_
        show Steps p.tables e below (T45.setTop (mkF m 343 #[.val (.int x0), .val (.int x1), .val (.int x2), .val (.int bits), .val (.int (2 : Int32)), .val (.int (1 : Int32)), .val (.ref o), .val (.ref en0), .val (.ref en1), .val (.ref en2), .val (.ref en1), .val (.int (1 : Int32)), .val (.ref en0), .val (.ref en2), .val (.int (1 : Int32)), .val (.ref en0)] [(.int (1 : Int32))])) _
        exact kt
      refine RunsTo.retN X45 hx (t := .boolean) Bd.returns (by simp) Bd.notSynchronized (hb hby at_343) ?_ (by decide) (by decide)
      rw [e45]
      exact ⟨rfl, N45⟩
  · refine RunsTo.of (T' := s₁) (g' := (mkF m 29 #[.val (.int x0), .val (.int x1), .val (.int x2), .val (.int bits), .val (.int (3 : Int32)), .val (.int ((x2 &&& (2147483647 : Int32)) % (3 : Int32))), .unset, .unset, .unset, .unset, .unset, .unset, .unset, .unset, .unset, .unset] [])) (fun tgt_ kt => ?_) ?_
    · refine XS.iloadN X0.here hx rfl (hb hby at_20) rfl ?_
      show Steps p.tables e below (s₁.setTop (mkF m 21 #[.val (.int x0), .val (.int x1), .val (.int x2), .val (.int bits), .val (.int (3 : Int32)), .unset, .unset, .unset, .unset, .unset, .unset, .unset, .unset, .unset, .unset, .unset] [(.int x2)])) _
      refine X0.ldcInt hx hown (mvT hZ (hw _ (List.mem_of_getElem? (i := 0) rfl))) (g := (mkF m 21 #[.val (.int x0), .val (.int x1), .val (.int x2), .val (.int bits), .val (.int (3 : Int32)), .unset, .unset, .unset, .unset, .unset, .unset, .unset, .unset, .unset, .unset, .unset] [(.int x2)])) rfl (hb hby at_21) _ ?_
      show Steps p.tables e below (s₁.setTop (mkF m 23 #[.val (.int x0), .val (.int x1), .val (.int x2), .val (.int bits), .val (.int (3 : Int32)), .unset, .unset, .unset, .unset, .unset, .unset, .unset, .unset, .unset, .unset, .unset] [(.int (2147483647 : Int32)), (.int x2)])) _
      refine XS.iand X0.here hx rfl (hb hby at_23) rfl ?_
      show Steps p.tables e below (s₁.setTop (mkF m 24 #[.val (.int x0), .val (.int x1), .val (.int x2), .val (.int bits), .val (.int (3 : Int32)), .unset, .unset, .unset, .unset, .unset, .unset, .unset, .unset, .unset, .unset, .unset] [(.int (x2 &&& (2147483647 : Int32)))])) _
      refine XS.iload X0.here hx rfl (hb hby at_24) rfl ?_
      show Steps p.tables e below (s₁.setTop (mkF m 26 #[.val (.int x0), .val (.int x1), .val (.int x2), .val (.int bits), .val (.int (3 : Int32)), .unset, .unset, .unset, .unset, .unset, .unset, .unset, .unset, .unset, .unset, .unset] [(.int (3 : Int32)), (.int (x2 &&& (2147483647 : Int32)))])) _
      refine XS.irem X0.here hx rfl (hb hby at_26) rfl (by decide) ?_
      rw [irem_eq_mod]
      show Steps p.tables e below (s₁.setTop (mkF m 27 #[.val (.int x0), .val (.int x1), .val (.int x2), .val (.int bits), .val (.int (3 : Int32)), .unset, .unset, .unset, .unset, .unset, .unset, .unset, .unset, .unset, .unset, .unset] [(.int ((x2 &&& (2147483647 : Int32)) % (3 : Int32)))])) _
      refine XS.istore X0.here hx rfl (hb hby at_27) rfl (l' := #[.val (.int x0), .val (.int x1), .val (.int x2), .val (.int bits), .val (.int (3 : Int32)), .val (.int ((x2 &&& (2147483647 : Int32)) % (3 : Int32))), .unset, .unset, .unset, .unset, .unset, .unset, .unset, .unset, .unset, .unset]) rfl ?_
      show Steps p.tables e below (s₁.setTop (mkF m 29 #[.val (.int x0), .val (.int x1), .val (.int x2), .val (.int bits), .val (.int (3 : Int32)), .val (.int ((x2 &&& (2147483647 : Int32)) % (3 : Int32))), .unset, .unset, .unset, .unset, .unset, .unset, .unset, .unset, .unset, .unset] [])) _
      exact kt
    obtain ⟨kk, hkk⟩ : ∃ z : Int32, z = ((x2 &&& (2147483647 : Int32)) % (3 : Int32)) := ⟨_, rfl⟩
    rw [← hkk]
    have hk : kk = 0 ∨ kk = 1 ∨ kk = 2 := by rw [hkk]; exact own_k3 x2
    clear hkk
    rcases hk with rfl | rfl | rfl
    · obtain ⟨T46, h46, X46, e46, E46, A46, D46, -, st46⟩ := newO X0 hx hZ hown (hw _ (List.mem_of_getElem? (i := 1) rfl)) (hw _ (List.mem_of_getElem? (i := 2) rfl)) (hw _ (List.mem_of_getElem? (i := 3) rfl)) e0 (g := (mkF m 29 #[.val (.int x0), .val (.int x1), .val (.int x2), .val (.int bits), .val (.int (3 : Int32)), .val (.int (0 : Int32)), .unset, .unset, .unset, .unset, .unset, .unset, .unset, .unset, .unset, .unset] [])) rfl (hb hby at_29) (by decide) (by decide)
      obtain ⟨o, g46⟩ : ∃ z, z = h0.size := ⟨_, rfl⟩
      rw [← g46] at A46 D46 st46
      have Z46 : n0 ≤ h46.size := Nat.le_trans Z0 E46.1
      have g_o : n0 ≤ o := Nat.le_trans Z0 (Nat.le_of_eq g46.symm)
      have F_head_o : Fld Z h46 o "com/example/round_table/roundtable/engine/OrderList" "head" "Lcom/example/round_table/roundtable/engine/OrderList$Entry;" .null := D46 (Or.inr (hw _ (List.mem_of_getElem? (i := 18) rfl))) (ty := (.object "com/example/round_table/roundtable/engine/OrderList$Entry")) (by decide)
      have F_last_o : Fld Z h46 o "com/example/round_table/roundtable/engine/OrderList" "last" "Lcom/example/round_table/roundtable/engine/OrderList$Entry;" .null := D46 (Or.inl (hw _ (List.mem_of_getElem? (i := 20) rfl))) (ty := (.object "com/example/round_table/roundtable/engine/OrderList$Entry")) (by decide)
      have F_labelBits_o : Fld Z h46 o "com/example/round_table/roundtable/engine/OrderList" "labelBits" "I" (.int (0 : Int32)) := D46 (Or.inr (hw _ (List.mem_of_getElem? (i := 22) rfl))) (ty := .int) (by decide)
      have F_endGap_o : Fld Z h46 o "com/example/round_table/roundtable/engine/OrderList" "endGap" "J" (.long (0 : Int64)) := D46 (Or.inr (hw _ (List.mem_of_getElem? (i := 24) rfl))) (ty := .long) (by decide)
      have E_o : Exa Z h46 o "com/example/round_table/roundtable/engine/OrderList" := A46
      refine RunsTo.of (T' := T46) (g' := (mkF m 32 #[.val (.int x0), .val (.int x1), .val (.int x2), .val (.int bits), .val (.int (3 : Int32)), .val (.int (0 : Int32)), .unset, .unset, .unset, .unset, .unset, .unset, .unset, .unset, .unset, .unset] [(.ref o)])) st46 ?_
      have lt_o := E_o.lt
      refine RunsTo.of (T' := T46) (g' := (mkF m 34 #[.val (.int x0), .val (.int x1), .val (.int x2), .val (.int bits), .val (.int (3 : Int32)), .val (.int (0 : Int32)), .unset, .unset, .unset, .unset, .unset, .unset, .unset, .unset, .unset, .unset] [(.int bits), (.ref o), (.ref o)])) (fun tgt_ kt => ?_) ?_
      · refine XS.dup X46.here hx rfl (hb hby at_32) rfl rfl ?_
        show Steps p.tables e below (T46.setTop (mkF m 33 #[.val (.int x0), .val (.int x1), .val (.int x2), .val (.int bits), .val (.int (3 : Int32)), .val (.int (0 : Int32)), .unset, .unset, .unset, .unset, .unset, .unset, .unset, .unset, .unset, .unset] [(.ref o), (.ref o)])) _
        refine XS.iloadN X46.here hx rfl (hb hby at_33) rfl ?_
        show Steps p.tables e below (T46.setTop (mkF m 34 #[.val (.int x0), .val (.int x1), .val (.int x2), .val (.int bits), .val (.int (3 : Int32)), .val (.int (0 : Int32)), .unset, .unset, .unset, .unset, .unset, .unset, .unset, .unset, .unset, .unset] [(.int bits), (.ref o), (.ref o)])) _
        exact kt
      obtain ⟨_, _, ⟨T47, L47, k47, n47⟩, -, X47, ⟨Lc47, hQ47, l47, y47, z47⟩, st47⟩ := X46.specialBack hx (y := (⟨"com/example/round_table/roundtable/engine/OrderList", "<init>", "(I)V"⟩ : MethodName)) rfl hown (mvT hZ (hw _ (List.mem_of_getElem? (i := 4) rfl))) (mvT hZ (hw _ (List.mem_of_getElem? (i := 5) rfl))) (mvT hZ (hw _ (List.mem_of_getElem? (i := 6) rfl))) (by decide) (backOf (W := 1) (rm1 l Z a0 hw [] o bits h46 n0 Z46 E_o g_o F_head_o F_last_o F_labelBits_o F_endGap_o hbits) hZ (hw _ (List.mem_of_getElem? (i := 6) rfl)) (hw _ (List.mem_of_getElem? (i := 3) rfl)) (by decide) (by decide)) (g := (mkF m 34 #[.val (.int x0), .val (.int x1), .val (.int x2), .val (.int bits), .val (.int (3 : Int32)), .val (.int (0 : Int32)), .unset, .unset, .unset, .unset, .unset, .unset, .unset, .unset, .unset, .unset] [(.int bits), (.ref o), (.ref o)])) rfl (by rw [hml]; rfl) (Steps.refl _) (a := o) (argsL := [(.int bits)]) (rest := [(.ref o)]) (lenOf pd_4 rfl) rfl (by show 2 * 0 + _ ≤ _; exact Nat.le_of_eq rfl) (hb hby at_34) (fun _ _ => ⟨rfl, e46, (by decide : 1 + 1 ≤ _), (by decide : 4 + 3 ≤ _)⟩)
      dsimp only [Pt.U, Pt.locs, Pt.cells, Pt.slots] at X47 l47 y47 z47 st47 hQ47
      subst l47 y47 z47
      obtain ⟨hd, rfl, N47q, g_hd, sz_hd, K47, F_head_o, F_last_o, F_labelBits_o, F_endGap_o, E_hd, F_label_hd, F_previous_hd, F_next_hd⟩ := hQ47
      have N47 := Fr.app N0 N47q
      have Z47 : n0 ≤ T47.heap.size := Nat.le_trans Z46 K47.1
      have E_o := E_o.keep K47
      rw [← heg'] at F_endGap_o
      have ne_o_hd : o ≠ hd := Nat.ne_of_lt (Nat.lt_of_lt_of_le lt_o sz_hd)
      refine RunsTo.of (T' := T47) (g' := (mkF m 37 #[.val (.int x0), .val (.int x1), .val (.int x2), .val (.int bits), .val (.int (3 : Int32)), .val (.int (0 : Int32)), .unset, .unset, .unset, .unset, .unset, .unset, .unset, .unset, .unset, .unset] [(.ref o)])) (fun _ kt => st47.trans kt) ?_
      refine RunsTo.of (T' := T47) (g' := (mkF m 39 #[.val (.int x0), .val (.int x1), .val (.int x2), .val (.int bits), .val (.int (3 : Int32)), .val (.int (0 : Int32)), .val (.ref o), .unset, .unset, .unset, .unset, .unset, .unset, .unset, .unset, .unset] [])) (fun tgt_ kt => ?_) ?_
      · refine XS.astore X47.here hx rfl (hb hby at_37) rfl rfl (l' := #[.val (.int x0), .val (.int x1), .val (.int x2), .val (.int bits), .val (.int (3 : Int32)), .val (.int (0 : Int32)), .val (.ref o), .unset, .unset, .unset, .unset, .unset, .unset, .unset, .unset, .unset]) rfl ?_
        show Steps p.tables e below (T47.setTop (mkF m 39 #[.val (.int x0), .val (.int x1), .val (.int x2), .val (.int bits), .val (.int (3 : Int32)), .val (.int (0 : Int32)), .val (.ref o), .unset, .unset, .unset, .unset, .unset, .unset, .unset, .unset, .unset] [])) _
        exact kt
      obtain ⟨T48, h48, X48, e48, E48, A48, D48, -, st48⟩ := newO X47 hx hZ hown (hw _ (List.mem_of_getElem? (i := 25) rfl)) (hw _ (List.mem_of_getElem? (i := 11) rfl)) (hw _ (List.mem_of_getElem? (i := 12) rfl)) rfl (g := (mkF m 39 #[.val (.int x0), .val (.int x1), .val (.int x2), .val (.int bits), .val (.int (3 : Int32)), .val (.int (0 : Int32)), .val (.ref o), .unset, .unset, .unset, .unset, .unset, .unset, .unset, .unset, .unset] [])) rfl (hb hby at_39) (by decide) (by decide)
      obtain ⟨en0, g48⟩ : ∃ z, z = T47.heap.size := ⟨_, rfl⟩
      rw [← g48] at A48 D48 st48
      have Z48 : n0 ≤ h48.size := Nat.le_trans Z47 E48.1
      have g_en0 : n0 ≤ en0 := Nat.le_trans Z47 (Nat.le_of_eq g48.symm)
      have ne_o_en0 : o ≠ en0 := Nat.ne_of_lt (Nat.lt_of_lt_of_le E_o.lt (Nat.le_of_eq g48.symm))
      have ne_hd_en0 : hd ≠ en0 := Nat.ne_of_lt (Nat.lt_of_lt_of_le F_label_hd.lt (Nat.le_of_eq g48.symm))
      have E_o := E_o.ext E48
      have F_head_o := F_head_o.ext E48
      have F_last_o := F_last_o.ext E48
      have F_labelBits_o := F_labelBits_o.ext E48
      have F_endGap_o := F_endGap_o.ext E48
      have F_label_hd := F_label_hd.ext E48
      have F_previous_hd := F_previous_hd.ext E48
      have F_next_hd := F_next_hd.ext E48
      have E_hd := E_hd.ext E48
      have F_next_en0 : Fld Z h48 en0 "com/example/round_table/roundtable/engine/OrderList$Entry" "next" "Lcom/example/round_table/roundtable/engine/OrderList$Entry;" .null := D48 (Or.inl (hw _ (List.mem_of_getElem? (i := 43) rfl))) (ty := (.object "com/example/round_table/roundtable/engine/OrderList$Entry")) (by decide)
      have F_previous_en0 : Fld Z h48 en0 "com/example/round_table/roundtable/engine/OrderList$Entry" "previous" "Lcom/example/round_table/roundtable/engine/OrderList$Entry;" .null := D48 (Or.inl (hw _ (List.mem_of_getElem? (i := 45) rfl))) (ty := (.object "com/example/round_table/roundtable/engine/OrderList$Entry")) (by decide)
      have F_label_en0 : Fld Z h48 en0 "com/example/round_table/roundtable/engine/OrderList$Entry" "label" "J" (.long (0 : Int64)) := D48 (Or.inl (hw _ (List.mem_of_getElem? (i := 47) rfl))) (ty := .long) (by decide)
      have E_en0 : Exa Z h48 en0 "com/example/round_table/roundtable/engine/OrderList$Entry" := A48
      refine RunsTo.of (T' := T48) (g' := (mkF m 42 #[.val (.int x0), .val (.int x1), .val (.int x2), .val (.int bits), .val (.int (3 : Int32)), .val (.int (0 : Int32)), .val (.ref o), .unset, .unset, .unset, .unset, .unset, .unset, .unset, .unset, .unset] [(.ref en0)])) st48 ?_
      refine RunsTo.of (T' := T48) (g' := (mkF m 43 #[.val (.int x0), .val (.int x1), .val (.int x2), .val (.int bits), .val (.int (3 : Int32)), .val (.int (0 : Int32)), .val (.ref o), .unset, .unset, .unset, .unset, .unset, .unset, .unset, .unset, .unset] [(.ref en0), (.ref en0)])) (fun tgt_ kt => ?_) ?_
      · refine XS.dup X48.here hx rfl (hb hby at_42) rfl rfl ?_
        show Steps p.tables e below (T48.setTop (mkF m 43 #[.val (.int x0), .val (.int x1), .val (.int x2), .val (.int bits), .val (.int (3 : Int32)), .val (.int (0 : Int32)), .val (.ref o), .unset, .unset, .unset, .unset, .unset, .unset, .unset, .unset, .unset] [(.ref en0), (.ref en0)])) _
        exact kt
      obtain ⟨_, _, ⟨T49, L49, k49, n49⟩, -, X49, ⟨Lc49, hQ49, l49, y49, z49⟩, st49⟩ := X48.specialBack hx (y := (⟨"com/example/round_table/roundtable/engine/OrderList$Entry", "<init>", "()V"⟩ : MethodName)) rfl hown (mvT hZ (hw _ (List.mem_of_getElem? (i := 26) rfl))) (mvT hZ (hw _ (List.mem_of_getElem? (i := 14) rfl))) (mvT hZ (hw _ (List.mem_of_getElem? (i := 15) rfl))) (by decide) (backOf (W := 1) (rm3 l Z a0 hw [] en0 h48 n0 Z48 ) hZ (hw _ (List.mem_of_getElem? (i := 15) rfl)) (hw _ (List.mem_of_getElem? (i := 12) rfl)) (by decide) (by decide)) (g := (mkF m 43 #[.val (.int x0), .val (.int x1), .val (.int x2), .val (.int bits), .val (.int (3 : Int32)), .val (.int (0 : Int32)), .val (.ref o), .unset, .unset, .unset, .unset, .unset, .unset, .unset, .unset, .unset] [(.ref en0), (.ref en0)])) rfl (by rw [hml]; rfl) (Steps.refl _) (a := en0) (argsL := []) (rest := [(.ref en0)]) (lenOf pd_0 rfl) rfl (by show 2 * 0 + _ ≤ _; exact Nat.le_of_eq rfl) (hb hby at_43) (fun _ _ => ⟨rfl, e48, (by decide : 3 + 0 ≤ _), (by decide : 10 + 0 ≤ _)⟩)
      dsimp only [Pt.U, Pt.locs, Pt.cells, Pt.slots] at X49 l49 y49 z49 st49 hQ49
      subst l49 y49 z49
      obtain ⟨rfl, N49q, e49⟩ := hQ49
      have N49 := Fr.app N47 N49q
      refine RunsTo.of (T' := T49) (g' := (mkF m 46 #[.val (.int x0), .val (.int x1), .val (.int x2), .val (.int bits), .val (.int (3 : Int32)), .val (.int (0 : Int32)), .val (.ref o), .unset, .unset, .unset, .unset, .unset, .unset, .unset, .unset, .unset] [(.ref en0)])) (fun _ kt => st49.trans kt) ?_
      refine RunsTo.of (T' := T49) (g' := (mkF m 48 #[.val (.int x0), .val (.int x1), .val (.int x2), .val (.int bits), .val (.int (3 : Int32)), .val (.int (0 : Int32)), .val (.ref o), .val (.ref en0), .unset, .unset, .unset, .unset, .unset, .unset, .unset, .unset] [])) (fun tgt_ kt => ?_) ?_
      · refine XS.astore X49.here hx rfl (hb hby at_46) rfl rfl (l' := #[.val (.int x0), .val (.int x1), .val (.int x2), .val (.int bits), .val (.int (3 : Int32)), .val (.int (0 : Int32)), .val (.ref o), .val (.ref en0), .unset, .unset, .unset, .unset, .unset, .unset, .unset, .unset]) rfl ?_
        show Steps p.tables e below (T49.setTop (mkF m 48 #[.val (.int x0), .val (.int x1), .val (.int x2), .val (.int bits), .val (.int (3 : Int32)), .val (.int (0 : Int32)), .val (.ref o), .val (.ref en0), .unset, .unset, .unset, .unset, .unset, .unset, .unset, .unset] [])) _
        exact kt
      obtain ⟨T50, h50, X50, e50, E50, A50, D50, -, st50⟩ := newO X49 hx hZ hown (hw _ (List.mem_of_getElem? (i := 25) rfl)) (hw _ (List.mem_of_getElem? (i := 11) rfl)) (hw _ (List.mem_of_getElem? (i := 12) rfl)) e49 (g := (mkF m 48 #[.val (.int x0), .val (.int x1), .val (.int x2), .val (.int bits), .val (.int (3 : Int32)), .val (.int (0 : Int32)), .val (.ref o), .val (.ref en0), .unset, .unset, .unset, .unset, .unset, .unset, .unset, .unset] [])) rfl (hb hby at_48) (by decide) (by decide)
      obtain ⟨en1, g50⟩ : ∃ z, z = h48.size := ⟨_, rfl⟩
      rw [← g50] at A50 D50 st50
      have Z50 : n0 ≤ h50.size := Nat.le_trans Z48 E50.1
      have g_en1 : n0 ≤ en1 := Nat.le_trans Z48 (Nat.le_of_eq g50.symm)
      have ne_o_en1 : o ≠ en1 := Nat.ne_of_lt (Nat.lt_of_lt_of_le E_o.lt (Nat.le_of_eq g50.symm))
      have ne_hd_en1 : hd ≠ en1 := Nat.ne_of_lt (Nat.lt_of_lt_of_le F_label_hd.lt (Nat.le_of_eq g50.symm))
      have ne_en0_en1 : en0 ≠ en1 := Nat.ne_of_lt (Nat.lt_of_lt_of_le F_next_en0.lt (Nat.le_of_eq g50.symm))
      have E_o := E_o.ext E50
      have F_head_o := F_head_o.ext E50
      have F_last_o := F_last_o.ext E50
      have F_labelBits_o := F_labelBits_o.ext E50
      have F_endGap_o := F_endGap_o.ext E50
      have F_label_hd := F_label_hd.ext E50
      have F_previous_hd := F_previous_hd.ext E50
      have F_next_hd := F_next_hd.ext E50
      have E_hd := E_hd.ext E50
      have F_next_en0 := F_next_en0.ext E50
      have F_previous_en0 := F_previous_en0.ext E50
      have F_label_en0 := F_label_en0.ext E50
      have E_en0 := E_en0.ext E50
      have F_next_en1 : Fld Z h50 en1 "com/example/round_table/roundtable/engine/OrderList$Entry" "next" "Lcom/example/round_table/roundtable/engine/OrderList$Entry;" .null := D50 (Or.inl (hw _ (List.mem_of_getElem? (i := 43) rfl))) (ty := (.object "com/example/round_table/roundtable/engine/OrderList$Entry")) (by decide)
      have F_previous_en1 : Fld Z h50 en1 "com/example/round_table/roundtable/engine/OrderList$Entry" "previous" "Lcom/example/round_table/roundtable/engine/OrderList$Entry;" .null := D50 (Or.inl (hw _ (List.mem_of_getElem? (i := 45) rfl))) (ty := (.object "com/example/round_table/roundtable/engine/OrderList$Entry")) (by decide)
      have F_label_en1 : Fld Z h50 en1 "com/example/round_table/roundtable/engine/OrderList$Entry" "label" "J" (.long (0 : Int64)) := D50 (Or.inl (hw _ (List.mem_of_getElem? (i := 47) rfl))) (ty := .long) (by decide)
      have E_en1 : Exa Z h50 en1 "com/example/round_table/roundtable/engine/OrderList$Entry" := A50
      refine RunsTo.of (T' := T50) (g' := (mkF m 51 #[.val (.int x0), .val (.int x1), .val (.int x2), .val (.int bits), .val (.int (3 : Int32)), .val (.int (0 : Int32)), .val (.ref o), .val (.ref en0), .unset, .unset, .unset, .unset, .unset, .unset, .unset, .unset] [(.ref en1)])) st50 ?_
      refine RunsTo.of (T' := T50) (g' := (mkF m 52 #[.val (.int x0), .val (.int x1), .val (.int x2), .val (.int bits), .val (.int (3 : Int32)), .val (.int (0 : Int32)), .val (.ref o), .val (.ref en0), .unset, .unset, .unset, .unset, .unset, .unset, .unset, .unset] [(.ref en1), (.ref en1)])) (fun tgt_ kt => ?_) ?_
      · refine XS.dup X50.here hx rfl (hb hby at_51) rfl rfl ?_
        show Steps p.tables e below (T50.setTop (mkF m 52 #[.val (.int x0), .val (.int x1), .val (.int x2), .val (.int bits), .val (.int (3 : Int32)), .val (.int (0 : Int32)), .val (.ref o), .val (.ref en0), .unset, .unset, .unset, .unset, .unset, .unset, .unset, .unset] [(.ref en1), (.ref en1)])) _
        exact kt
      obtain ⟨_, _, ⟨T51, L51, k51, n51⟩, -, X51, ⟨Lc51, hQ51, l51, y51, z51⟩, st51⟩ := X50.specialBack hx (y := (⟨"com/example/round_table/roundtable/engine/OrderList$Entry", "<init>", "()V"⟩ : MethodName)) rfl hown (mvT hZ (hw _ (List.mem_of_getElem? (i := 26) rfl))) (mvT hZ (hw _ (List.mem_of_getElem? (i := 14) rfl))) (mvT hZ (hw _ (List.mem_of_getElem? (i := 15) rfl))) (by decide) (backOf (W := 1) (rm3 l Z a0 hw [] en1 h50 n0 Z50 ) hZ (hw _ (List.mem_of_getElem? (i := 15) rfl)) (hw _ (List.mem_of_getElem? (i := 12) rfl)) (by decide) (by decide)) (g := (mkF m 52 #[.val (.int x0), .val (.int x1), .val (.int x2), .val (.int bits), .val (.int (3 : Int32)), .val (.int (0 : Int32)), .val (.ref o), .val (.ref en0), .unset, .unset, .unset, .unset, .unset, .unset, .unset, .unset] [(.ref en1), (.ref en1)])) rfl (by rw [hml]; rfl) (Steps.refl _) (a := en1) (argsL := []) (rest := [(.ref en1)]) (lenOf pd_0 rfl) rfl (by show 2 * 0 + _ ≤ _; exact Nat.le_of_eq rfl) (hb hby at_52) (fun _ _ => ⟨rfl, e50, (by decide : 4 + 0 ≤ _), (by decide : 13 + 0 ≤ _)⟩)
      dsimp only [Pt.U, Pt.locs, Pt.cells, Pt.slots] at X51 l51 y51 z51 st51 hQ51
      subst l51 y51 z51
      obtain ⟨rfl, N51q, e51⟩ := hQ51
      have N51 := Fr.app N49 N51q
      refine RunsTo.of (T' := T51) (g' := (mkF m 55 #[.val (.int x0), .val (.int x1), .val (.int x2), .val (.int bits), .val (.int (3 : Int32)), .val (.int (0 : Int32)), .val (.ref o), .val (.ref en0), .unset, .unset, .unset, .unset, .unset, .unset, .unset, .unset] [(.ref en1)])) (fun _ kt => st51.trans kt) ?_
      refine RunsTo.of (T' := T51) (g' := (mkF m 57 #[.val (.int x0), .val (.int x1), .val (.int x2), .val (.int bits), .val (.int (3 : Int32)), .val (.int (0 : Int32)), .val (.ref o), .val (.ref en0), .val (.ref en1), .unset, .unset, .unset, .unset, .unset, .unset, .unset] [])) (fun tgt_ kt => ?_) ?_
      · refine XS.astore X51.here hx rfl (hb hby at_55) rfl rfl (l' := #[.val (.int x0), .val (.int x1), .val (.int x2), .val (.int bits), .val (.int (3 : Int32)), .val (.int (0 : Int32)), .val (.ref o), .val (.ref en0), .val (.ref en1), .unset, .unset, .unset, .unset, .unset, .unset, .unset]) rfl ?_
        show Steps p.tables e below (T51.setTop (mkF m 57 #[.val (.int x0), .val (.int x1), .val (.int x2), .val (.int bits), .val (.int (3 : Int32)), .val (.int (0 : Int32)), .val (.ref o), .val (.ref en0), .val (.ref en1), .unset, .unset, .unset, .unset, .unset, .unset, .unset] [])) _
        exact kt
      obtain ⟨T52, h52, X52, e52, E52, A52, D52, -, st52⟩ := newO X51 hx hZ hown (hw _ (List.mem_of_getElem? (i := 25) rfl)) (hw _ (List.mem_of_getElem? (i := 11) rfl)) (hw _ (List.mem_of_getElem? (i := 12) rfl)) e51 (g := (mkF m 57 #[.val (.int x0), .val (.int x1), .val (.int x2), .val (.int bits), .val (.int (3 : Int32)), .val (.int (0 : Int32)), .val (.ref o), .val (.ref en0), .val (.ref en1), .unset, .unset, .unset, .unset, .unset, .unset, .unset] [])) rfl (hb hby at_57) (by decide) (by decide)
      obtain ⟨en2, g52⟩ : ∃ z, z = h50.size := ⟨_, rfl⟩
      rw [← g52] at A52 D52 st52
      have Z52 : n0 ≤ h52.size := Nat.le_trans Z50 E52.1
      have g_en2 : n0 ≤ en2 := Nat.le_trans Z50 (Nat.le_of_eq g52.symm)
      have ne_o_en2 : o ≠ en2 := Nat.ne_of_lt (Nat.lt_of_lt_of_le E_o.lt (Nat.le_of_eq g52.symm))
      have ne_hd_en2 : hd ≠ en2 := Nat.ne_of_lt (Nat.lt_of_lt_of_le F_label_hd.lt (Nat.le_of_eq g52.symm))
      have ne_en0_en2 : en0 ≠ en2 := Nat.ne_of_lt (Nat.lt_of_lt_of_le F_next_en0.lt (Nat.le_of_eq g52.symm))
      have ne_en1_en2 : en1 ≠ en2 := Nat.ne_of_lt (Nat.lt_of_lt_of_le F_next_en1.lt (Nat.le_of_eq g52.symm))
      have E_o := E_o.ext E52
      have F_head_o := F_head_o.ext E52
      have F_last_o := F_last_o.ext E52
      have F_labelBits_o := F_labelBits_o.ext E52
      have F_endGap_o := F_endGap_o.ext E52
      have F_label_hd := F_label_hd.ext E52
      have F_previous_hd := F_previous_hd.ext E52
      have F_next_hd := F_next_hd.ext E52
      have E_hd := E_hd.ext E52
      have F_next_en0 := F_next_en0.ext E52
      have F_previous_en0 := F_previous_en0.ext E52
      have F_label_en0 := F_label_en0.ext E52
      have E_en0 := E_en0.ext E52
      have F_next_en1 := F_next_en1.ext E52
      have F_previous_en1 := F_previous_en1.ext E52
      have F_label_en1 := F_label_en1.ext E52
      have E_en1 := E_en1.ext E52
      have F_next_en2 : Fld Z h52 en2 "com/example/round_table/roundtable/engine/OrderList$Entry" "next" "Lcom/example/round_table/roundtable/engine/OrderList$Entry;" .null := D52 (Or.inl (hw _ (List.mem_of_getElem? (i := 43) rfl))) (ty := (.object "com/example/round_table/roundtable/engine/OrderList$Entry")) (by decide)
      have F_previous_en2 : Fld Z h52 en2 "com/example/round_table/roundtable/engine/OrderList$Entry" "previous" "Lcom/example/round_table/roundtable/engine/OrderList$Entry;" .null := D52 (Or.inl (hw _ (List.mem_of_getElem? (i := 45) rfl))) (ty := (.object "com/example/round_table/roundtable/engine/OrderList$Entry")) (by decide)
      have F_label_en2 : Fld Z h52 en2 "com/example/round_table/roundtable/engine/OrderList$Entry" "label" "J" (.long (0 : Int64)) := D52 (Or.inl (hw _ (List.mem_of_getElem? (i := 47) rfl))) (ty := .long) (by decide)
      have E_en2 : Exa Z h52 en2 "com/example/round_table/roundtable/engine/OrderList$Entry" := A52
      refine RunsTo.of (T' := T52) (g' := (mkF m 60 #[.val (.int x0), .val (.int x1), .val (.int x2), .val (.int bits), .val (.int (3 : Int32)), .val (.int (0 : Int32)), .val (.ref o), .val (.ref en0), .val (.ref en1), .unset, .unset, .unset, .unset, .unset, .unset, .unset] [(.ref en2)])) st52 ?_
      refine RunsTo.of (T' := T52) (g' := (mkF m 61 #[.val (.int x0), .val (.int x1), .val (.int x2), .val (.int bits), .val (.int (3 : Int32)), .val (.int (0 : Int32)), .val (.ref o), .val (.ref en0), .val (.ref en1), .unset, .unset, .unset, .unset, .unset, .unset, .unset] [(.ref en2), (.ref en2)])) (fun tgt_ kt => ?_) ?_
      · refine XS.dup X52.here hx rfl (hb hby at_60) rfl rfl ?_
        show Steps p.tables e below (T52.setTop (mkF m 61 #[.val (.int x0), .val (.int x1), .val (.int x2), .val (.int bits), .val (.int (3 : Int32)), .val (.int (0 : Int32)), .val (.ref o), .val (.ref en0), .val (.ref en1), .unset, .unset, .unset, .unset, .unset, .unset, .unset] [(.ref en2), (.ref en2)])) _
        exact kt
      obtain ⟨_, _, ⟨T53, L53, k53, n53⟩, -, X53, ⟨Lc53, hQ53, l53, y53, z53⟩, st53⟩ := X52.specialBack hx (y := (⟨"com/example/round_table/roundtable/engine/OrderList$Entry", "<init>", "()V"⟩ : MethodName)) rfl hown (mvT hZ (hw _ (List.mem_of_getElem? (i := 26) rfl))) (mvT hZ (hw _ (List.mem_of_getElem? (i := 14) rfl))) (mvT hZ (hw _ (List.mem_of_getElem? (i := 15) rfl))) (by decide) (backOf (W := 1) (rm3 l Z a0 hw [] en2 h52 n0 Z52 ) hZ (hw _ (List.mem_of_getElem? (i := 15) rfl)) (hw _ (List.mem_of_getElem? (i := 12) rfl)) (by decide) (by decide)) (g := (mkF m 61 #[.val (.int x0), .val (.int x1), .val (.int x2), .val (.int bits), .val (.int (3 : Int32)), .val (.int (0 : Int32)), .val (.ref o), .val (.ref en0), .val (.ref en1), .unset, .unset, .unset, .unset, .unset, .unset, .unset] [(.ref en2), (.ref en2)])) rfl (by rw [hml]; rfl) (Steps.refl _) (a := en2) (argsL := []) (rest := [(.ref en2)]) (lenOf pd_0 rfl) rfl (by show 2 * 0 + _ ≤ _; exact Nat.le_of_eq rfl) (hb hby at_61) (fun _ _ => ⟨rfl, e52, (by decide : 5 + 0 ≤ _), (by decide : 16 + 0 ≤ _)⟩)
      dsimp only [Pt.U, Pt.locs, Pt.cells, Pt.slots] at X53 l53 y53 z53 st53 hQ53
      subst l53 y53 z53
      obtain ⟨rfl, N53q, e53⟩ := hQ53
      have N53 := Fr.app N51 N53q
      refine RunsTo.of (T' := T53) (g' := (mkF m 64 #[.val (.int x0), .val (.int x1), .val (.int x2), .val (.int bits), .val (.int (3 : Int32)), .val (.int (0 : Int32)), .val (.ref o), .val (.ref en0), .val (.ref en1), .unset, .unset, .unset, .unset, .unset, .unset, .unset] [(.ref en2)])) (fun _ kt => st53.trans kt) ?_
      refine RunsTo.of (T' := T53) (g' := (mkF m 70 #[.val (.int x0), .val (.int x1), .val (.int x2), .val (.int bits), .val (.int (3 : Int32)), .val (.int (0 : Int32)), .val (.ref o), .val (.ref en0), .val (.ref en1), .val (.ref en2), .unset, .unset, .unset, .unset, .unset, .unset] [(.ref en0), (.ref o)])) (fun tgt_ kt => ?_) ?_
      · refine XS.astore X53.here hx rfl (hb hby at_64) rfl rfl (l' := #[.val (.int x0), .val (.int x1), .val (.int x2), .val (.int bits), .val (.int (3 : Int32)), .val (.int (0 : Int32)), .val (.ref o), .val (.ref en0), .val (.ref en1), .val (.ref en2), .unset, .unset, .unset, .unset, .unset, .unset]) rfl ?_
        show Steps p.tables e below (T53.setTop (mkF m 66 #[.val (.int x0), .val (.int x1), .val (.int x2), .val (.int bits), .val (.int (3 : Int32)), .val (.int (0 : Int32)), .val (.ref o), .val (.ref en0), .val (.ref en1), .val (.ref en2), .unset, .unset, .unset, .unset, .unset, .unset] [])) _
        refine XS.aload X53.here hx rfl (hb hby at_66) rfl rfl ?_
        show Steps p.tables e below (T53.setTop (mkF m 68 #[.val (.int x0), .val (.int x1), .val (.int x2), .val (.int bits), .val (.int (3 : Int32)), .val (.int (0 : Int32)), .val (.ref o), .val (.ref en0), .val (.ref en1), .val (.ref en2), .unset, .unset, .unset, .unset, .unset, .unset] [(.ref o)])) _
        refine XS.aload X53.here hx rfl (hb hby at_68) rfl rfl ?_
        show Steps p.tables e below (T53.setTop (mkF m 70 #[.val (.int x0), .val (.int x1), .val (.int x2), .val (.int bits), .val (.int (3 : Int32)), .val (.int (0 : Int32)), .val (.ref o), .val (.ref en0), .val (.ref en1), .val (.ref en2), .unset, .unset, .unset, .unset, .unset, .unset] [(.ref en0), (.ref o)])) _
        exact kt
      obtain ⟨cq54, kq54, q54a, q54b, q54c⟩ := isOf hZ e53 E_o
      obtain ⟨_, _, ⟨T54, L54, k54, n54⟩, -, X54, ⟨Lc54, hQ54, l54, y54, z54⟩, st54⟩ := X53.virtualBack hx (y := (⟨"com/example/round_table/roundtable/engine/OrderList", "append", "(Lcom/example/round_table/roundtable/engine/OrderList$Entry;)V"⟩ : MethodName)) (z := (⟨"com/example/round_table/roundtable/engine/OrderList", "append", "(Lcom/example/round_table/roundtable/engine/OrderList$Entry;)V"⟩ : MethodName)) hown (mvT hZ (hw _ (List.mem_of_getElem? (i := 27) rfl))) (mvT hZ (hw _ (List.mem_of_getElem? (i := 28) rfl))) (notFace_of_selects (args := #[]) (mvT hZ (hw _ (List.mem_of_getElem? (i := 30) rfl)))) (mvT hZ (hw _ (List.mem_of_getElem? (i := 30) rfl))) (mvT hZ (hw _ (List.mem_of_getElem? (i := 29) rfl))) (by decide) (backOf (W := 0) (rm_appE l Z a0 hw [] o en0 hd bits eg RR (0 : Int64) (0 : Int64) h52 n0 Z52 E_o g_o F_head_o F_last_o F_labelBits_o F_endGap_o E_hd g_hd F_label_hd F_previous_hd F_next_hd E_en0 g_en0 F_label_en0 F_previous_en0 F_next_en0 ne_o_hd ne_o_en0 ne_hd_en0 hRR hR heg (by omega) (by omega)) hZ (hw _ (List.mem_of_getElem? (i := 31) rfl)) (hw _ (List.mem_of_getElem? (i := 3) rfl)) (by decide) (by decide)) q54a q54c (g := (mkF m 70 #[.val (.int x0), .val (.int x1), .val (.int x2), .val (.int bits), .val (.int (3 : Int32)), .val (.int (0 : Int32)), .val (.ref o), .val (.ref en0), .val (.ref en1), .val (.ref en2), .unset, .unset, .unset, .unset, .unset, .unset] [(.ref en0), (.ref o)])) rfl (by rw [hml]; rfl) (Steps.refl _) (argsL := [(.ref en0)]) (rest := []) (lenOf pd_5 rfl) rfl (by show 2 * 0 + _ ≤ _; exact Nat.le_of_eq rfl) (hb hby at_70) (fun _ _ => ⟨rfl, e53, (by decide : 5 + 0 ≤ _), (by decide : 16 + 0 ≤ _)⟩)
      dsimp only [Pt.U, Pt.locs, Pt.cells, Pt.slots] at X54 l54 y54 z54 st54 hQ54
      subst l54 y54 z54
      obtain ⟨lab_en0, rfl, N54q, K54, F_head_o, F_last_o, F_labelBits_o, F_endGap_o, F_label_hd, F_previous_hd, F_next_hd, F_label_en0, F_previous_en0, F_next_en0, hb1_en0, hb2_en0, hb3_en0⟩ := hQ54
      have N54 := Fr.app N53 N54q
      have Z54 : n0 ≤ T54.heap.size := Nat.le_trans Z52 K54.1
      have E_o := E_o.keep K54
      have E_hd := E_hd.keep K54
      have E_en0 := E_en0.keep K54
      have F_next_en1 := F_next_en1.keep K54 (ninS (Ne.symm ne_o_en1) (ninS (Ne.symm ne_hd_en1) (ninS (Ne.symm ne_en0_en1) nin0)))
      have F_previous_en1 := F_previous_en1.keep K54 (ninS (Ne.symm ne_o_en1) (ninS (Ne.symm ne_hd_en1) (ninS (Ne.symm ne_en0_en1) nin0)))
      have F_label_en1 := F_label_en1.keep K54 (ninS (Ne.symm ne_o_en1) (ninS (Ne.symm ne_hd_en1) (ninS (Ne.symm ne_en0_en1) nin0)))
      have E_en1 := E_en1.keep K54
      have F_next_en2 := F_next_en2.keep K54 (ninS (Ne.symm ne_o_en2) (ninS (Ne.symm ne_hd_en2) (ninS (Ne.symm ne_en0_en2) nin0)))
      have F_previous_en2 := F_previous_en2.keep K54 (ninS (Ne.symm ne_o_en2) (ninS (Ne.symm ne_hd_en2) (ninS (Ne.symm ne_en0_en2) nin0)))
      have F_label_en2 := F_label_en2.keep K54 (ninS (Ne.symm ne_o_en2) (ninS (Ne.symm ne_hd_en2) (ninS (Ne.symm ne_en0_en2) nin0)))
      have E_en2 := E_en2.keep K54
      refine RunsTo.of (T' := T54) (g' := (mkF m 73 #[.val (.int x0), .val (.int x1), .val (.int x2), .val (.int bits), .val (.int (3 : Int32)), .val (.int (0 : Int32)), .val (.ref o), .val (.ref en0), .val (.ref en1), .val (.ref en2), .unset, .unset, .unset, .unset, .unset, .unset] [])) (fun _ kt => st54.trans kt) ?_
      refine RunsTo.of (T' := T54) (g' := (mkF m 83 #[.val (.int x0), .val (.int x1), .val (.int x2), .val (.int bits), .val (.int (3 : Int32)), .val (.int (0 : Int32)), .val (.ref o), .val (.ref en0), .val (.ref en1), .val (.ref en2), .unset, .unset, .unset, .unset, .unset, .unset] [(.ref en1), (.ref o)])) (fun tgt_ kt => ?_) ?_
      · refine XS.iload X54.here hx rfl (hb hby at_73) rfl ?_
        show Steps p.tables e below (T54.setTop (mkF m 75 #[.val (.int x0), .val (.int x1), .val (.int x2), .val (.int bits), .val (.int (3 : Int32)), .val (.int (0 : Int32)), .val (.ref o), .val (.ref en0), .val (.ref en1), .val (.ref en2), .unset, .unset, .unset, .unset, .unset, .unset] [(.int (3 : Int32))])) _
        refine XS.iconst X54.here hx rfl (hb hby at_75) ?_
        show Steps p.tables e below (T54.setTop (mkF m 76 #[.val (.int x0), .val (.int x1), .val (.int x2), .val (.int bits), .val (.int (3 : Int32)), .val (.int (0 : Int32)), .val (.ref o), .val (.ref en0), .val (.ref en1), .val (.ref en2), .unset, .unset, .unset, .unset, .unset, .unset] [(.int (2 : Int32)), (.int (3 : Int32))])) _
        refine XS.icmpNo X54.here hx rfl (hb hby at_76) rfl (flt (by decide)).1 ?_
        show Steps p.tables e below (T54.setTop (mkF m 79 #[.val (.int x0), .val (.int x1), .val (.int x2), .val (.int bits), .val (.int (3 : Int32)), .val (.int (0 : Int32)), .val (.ref o), .val (.ref en0), .val (.ref en1), .val (.ref en2), .unset, .unset, .unset, .unset, .unset, .unset] [])) _
        refine XS.aload X54.here hx rfl (hb hby at_79) rfl rfl ?_
        show Steps p.tables e below (T54.setTop (mkF m 81 #[.val (.int x0), .val (.int x1), .val (.int x2), .val (.int bits), .val (.int (3 : Int32)), .val (.int (0 : Int32)), .val (.ref o), .val (.ref en0), .val (.ref en1), .val (.ref en2), .unset, .unset, .unset, .unset, .unset, .unset] [(.ref o)])) _
        refine XS.aload X54.here hx rfl (hb hby at_81) rfl rfl ?_
        show Steps p.tables e below (T54.setTop (mkF m 83 #[.val (.int x0), .val (.int x1), .val (.int x2), .val (.int bits), .val (.int (3 : Int32)), .val (.int (0 : Int32)), .val (.ref o), .val (.ref en0), .val (.ref en1), .val (.ref en2), .unset, .unset, .unset, .unset, .unset, .unset] [(.ref en1), (.ref o)])) _
        exact kt
      obtain ⟨cq55, kq55, q55a, q55b, q55c⟩ := isOf hZ rfl E_o
      obtain ⟨_, _, ⟨T55, L55, k55, n55⟩, -, X55, ⟨Lc55, hQ55, l55, y55, z55⟩, st55⟩ := X54.virtualBack hx (y := (⟨"com/example/round_table/roundtable/engine/OrderList", "append", "(Lcom/example/round_table/roundtable/engine/OrderList$Entry;)V"⟩ : MethodName)) (z := (⟨"com/example/round_table/roundtable/engine/OrderList", "append", "(Lcom/example/round_table/roundtable/engine/OrderList$Entry;)V"⟩ : MethodName)) hown (mvT hZ (hw _ (List.mem_of_getElem? (i := 27) rfl))) (mvT hZ (hw _ (List.mem_of_getElem? (i := 28) rfl))) (notFace_of_selects (args := #[]) (mvT hZ (hw _ (List.mem_of_getElem? (i := 30) rfl)))) (mvT hZ (hw _ (List.mem_of_getElem? (i := 30) rfl))) (mvT hZ (hw _ (List.mem_of_getElem? (i := 29) rfl))) (by decide) (backOf (W := 0) (rm_appN l Z a0 hw [] o en1 hd en0 (.ref hd) bits eg RR lab_en0 (0 : Int64) T54.heap n0 Z54 E_o g_o F_head_o F_last_o F_labelBits_o F_endGap_o E_en0 g_en0 F_label_en0 F_previous_en0 F_next_en0 E_en1 g_en1 F_label_en1 F_previous_en1 F_next_en1 ne_o_en0 ne_o_en1 ne_en0_en1 (Ne.symm ne_hd_en0) hRR hR heg (by omega) (by omega)) hZ (hw _ (List.mem_of_getElem? (i := 31) rfl)) (hw _ (List.mem_of_getElem? (i := 3) rfl)) (by decide) (by decide)) q55a q55c (g := (mkF m 83 #[.val (.int x0), .val (.int x1), .val (.int x2), .val (.int bits), .val (.int (3 : Int32)), .val (.int (0 : Int32)), .val (.ref o), .val (.ref en0), .val (.ref en1), .val (.ref en2), .unset, .unset, .unset, .unset, .unset, .unset] [(.ref en1), (.ref o)])) rfl (by rw [hml]; rfl) (Steps.refl _) (argsL := [(.ref en1)]) (rest := []) (lenOf pd_5 rfl) rfl (by show 2 * 0 + _ ≤ _; exact Nat.le_of_eq rfl) (hb hby at_83) (fun _ _ => ⟨rfl, rfl, (by decide : 5 + 0 ≤ _), (by decide : 16 + 0 ≤ _)⟩)
      dsimp only [Pt.U, Pt.locs, Pt.cells, Pt.slots] at X55 l55 y55 z55 st55 hQ55
      subst l55 y55 z55
      obtain ⟨lab_en1, rfl, N55q, K55, F_head_o, F_last_o, F_labelBits_o, F_endGap_o, F_label_en0, F_previous_en0, F_next_en0, F_label_en1, F_previous_en1, F_next_en1, hb1_en1, hb2_en1, hb3_en1⟩ := hQ55
      have N55 := Fr.app N54 N55q
      have Z55 : n0 ≤ T55.heap.size := Nat.le_trans Z54 K55.1
      have E_o := E_o.keep K55
      have E_hd := E_hd.keep K55
      have E_en0 := E_en0.keep K55
      have E_en1 := E_en1.keep K55
      have F_next_en2 := F_next_en2.keep K55 (ninS (Ne.symm ne_o_en2) (ninS (Ne.symm ne_en0_en2) (ninS (Ne.symm ne_en1_en2) nin0)))
      have F_previous_en2 := F_previous_en2.keep K55 (ninS (Ne.symm ne_o_en2) (ninS (Ne.symm ne_en0_en2) (ninS (Ne.symm ne_en1_en2) nin0)))
      have F_label_en2 := F_label_en2.keep K55 (ninS (Ne.symm ne_o_en2) (ninS (Ne.symm ne_en0_en2) (ninS (Ne.symm ne_en1_en2) nin0)))
      have E_en2 := E_en2.keep K55
      have F_label_hd := F_label_hd.keep K55 (ninS (Ne.symm ne_o_hd) (ninS ne_hd_en0 (ninS ne_hd_en1 nin0)))
      have F_previous_hd := F_previous_hd.keep K55 (ninS (Ne.symm ne_o_hd) (ninS ne_hd_en0 (ninS ne_hd_en1 nin0)))
      have F_next_hd := F_next_hd.keep K55 (ninS (Ne.symm ne_o_hd) (ninS ne_hd_en0 (ninS ne_hd_en1 nin0)))
      refine RunsTo.of (T' := T55) (g' := (mkF m 86 #[.val (.int x0), .val (.int x1), .val (.int x2), .val (.int bits), .val (.int (3 : Int32)), .val (.int (0 : Int32)), .val (.ref o), .val (.ref en0), .val (.ref en1), .val (.ref en2), .unset, .unset, .unset, .unset, .unset, .unset] [])) (fun _ kt => st55.trans kt) ?_
      refine RunsTo.of (T' := T55) (g' := (mkF m 96 #[.val (.int x0), .val (.int x1), .val (.int x2), .val (.int bits), .val (.int (3 : Int32)), .val (.int (0 : Int32)), .val (.ref o), .val (.ref en0), .val (.ref en1), .val (.ref en2), .unset, .unset, .unset, .unset, .unset, .unset] [(.ref en2), (.ref o)])) (fun tgt_ kt => ?_) ?_
      · refine XS.iload X55.here hx rfl (hb hby at_86) rfl ?_
        show Steps p.tables e below (T55.setTop (mkF m 88 #[.val (.int x0), .val (.int x1), .val (.int x2), .val (.int bits), .val (.int (3 : Int32)), .val (.int (0 : Int32)), .val (.ref o), .val (.ref en0), .val (.ref en1), .val (.ref en2), .unset, .unset, .unset, .unset, .unset, .unset] [(.int (3 : Int32))])) _
        refine XS.iconst X55.here hx rfl (hb hby at_88) ?_
        show Steps p.tables e below (T55.setTop (mkF m 89 #[.val (.int x0), .val (.int x1), .val (.int x2), .val (.int bits), .val (.int (3 : Int32)), .val (.int (0 : Int32)), .val (.ref o), .val (.ref en0), .val (.ref en1), .val (.ref en2), .unset, .unset, .unset, .unset, .unset, .unset] [(.int (3 : Int32)), (.int (3 : Int32))])) _
        refine XS.icmpNo X55.here hx rfl (hb hby at_89) rfl (flt (by decide)).1 ?_
        show Steps p.tables e below (T55.setTop (mkF m 92 #[.val (.int x0), .val (.int x1), .val (.int x2), .val (.int bits), .val (.int (3 : Int32)), .val (.int (0 : Int32)), .val (.ref o), .val (.ref en0), .val (.ref en1), .val (.ref en2), .unset, .unset, .unset, .unset, .unset, .unset] [])) _
        refine XS.aload X55.here hx rfl (hb hby at_92) rfl rfl ?_
        show Steps p.tables e below (T55.setTop (mkF m 94 #[.val (.int x0), .val (.int x1), .val (.int x2), .val (.int bits), .val (.int (3 : Int32)), .val (.int (0 : Int32)), .val (.ref o), .val (.ref en0), .val (.ref en1), .val (.ref en2), .unset, .unset, .unset, .unset, .unset, .unset] [(.ref o)])) _
        refine XS.aload X55.here hx rfl (hb hby at_94) rfl rfl ?_
        show Steps p.tables e below (T55.setTop (mkF m 96 #[.val (.int x0), .val (.int x1), .val (.int x2), .val (.int bits), .val (.int (3 : Int32)), .val (.int (0 : Int32)), .val (.ref o), .val (.ref en0), .val (.ref en1), .val (.ref en2), .unset, .unset, .unset, .unset, .unset, .unset] [(.ref en2), (.ref o)])) _
        exact kt
      obtain ⟨cq56, kq56, q56a, q56b, q56c⟩ := isOf hZ rfl E_o
      obtain ⟨_, _, ⟨T56, L56, k56, n56⟩, -, X56, ⟨Lc56, hQ56, l56, y56, z56⟩, st56⟩ := X55.virtualBack hx (y := (⟨"com/example/round_table/roundtable/engine/OrderList", "append", "(Lcom/example/round_table/roundtable/engine/OrderList$Entry;)V"⟩ : MethodName)) (z := (⟨"com/example/round_table/roundtable/engine/OrderList", "append", "(Lcom/example/round_table/roundtable/engine/OrderList$Entry;)V"⟩ : MethodName)) hown (mvT hZ (hw _ (List.mem_of_getElem? (i := 27) rfl))) (mvT hZ (hw _ (List.mem_of_getElem? (i := 28) rfl))) (notFace_of_selects (args := #[]) (mvT hZ (hw _ (List.mem_of_getElem? (i := 30) rfl)))) (mvT hZ (hw _ (List.mem_of_getElem? (i := 30) rfl))) (mvT hZ (hw _ (List.mem_of_getElem? (i := 29) rfl))) (by decide) (backOf (W := 0) (rm_appN l Z a0 hw [] o en2 hd en1 (.ref en0) bits eg RR lab_en1 (0 : Int64) T55.heap n0 Z55 E_o g_o F_head_o F_last_o F_labelBits_o F_endGap_o E_en1 g_en1 F_label_en1 F_previous_en1 F_next_en1 E_en2 g_en2 F_label_en2 F_previous_en2 F_next_en2 ne_o_en1 ne_o_en2 ne_en1_en2 (Ne.symm ne_hd_en1) hRR hR heg (by omega) (by omega)) hZ (hw _ (List.mem_of_getElem? (i := 31) rfl)) (hw _ (List.mem_of_getElem? (i := 3) rfl)) (by decide) (by decide)) q56a q56c (g := (mkF m 96 #[.val (.int x0), .val (.int x1), .val (.int x2), .val (.int bits), .val (.int (3 : Int32)), .val (.int (0 : Int32)), .val (.ref o), .val (.ref en0), .val (.ref en1), .val (.ref en2), .unset, .unset, .unset, .unset, .unset, .unset] [(.ref en2), (.ref o)])) rfl (by rw [hml]; rfl) (Steps.refl _) (argsL := [(.ref en2)]) (rest := []) (lenOf pd_5 rfl) rfl (by show 2 * 0 + _ ≤ _; exact Nat.le_of_eq rfl) (hb hby at_96) (fun _ _ => ⟨rfl, rfl, (by decide : 5 + 0 ≤ _), (by decide : 16 + 0 ≤ _)⟩)
      dsimp only [Pt.U, Pt.locs, Pt.cells, Pt.slots] at X56 l56 y56 z56 st56 hQ56
      subst l56 y56 z56
      obtain ⟨lab_en2, rfl, N56q, K56, F_head_o, F_last_o, F_labelBits_o, F_endGap_o, F_label_en1, F_previous_en1, F_next_en1, F_label_en2, F_previous_en2, F_next_en2, hb1_en2, hb2_en2, hb3_en2⟩ := hQ56
      have N56 := Fr.app N55 N56q
      have Z56 : n0 ≤ T56.heap.size := Nat.le_trans Z55 K56.1
      have E_o := E_o.keep K56
      have E_hd := E_hd.keep K56
      have E_en0 := E_en0.keep K56
      have E_en1 := E_en1.keep K56
      have E_en2 := E_en2.keep K56
      have F_label_hd := F_label_hd.keep K56 (ninS (Ne.symm ne_o_hd) (ninS ne_hd_en1 (ninS ne_hd_en2 nin0)))
      have F_previous_hd := F_previous_hd.keep K56 (ninS (Ne.symm ne_o_hd) (ninS ne_hd_en1 (ninS ne_hd_en2 nin0)))
      have F_next_hd := F_next_hd.keep K56 (ninS (Ne.symm ne_o_hd) (ninS ne_hd_en1 (ninS ne_hd_en2 nin0)))
      have F_label_en0 := F_label_en0.keep K56 (ninS (Ne.symm ne_o_en0) (ninS ne_en0_en1 (ninS ne_en0_en2 nin0)))
      have F_previous_en0 := F_previous_en0.keep K56 (ninS (Ne.symm ne_o_en0) (ninS ne_en0_en1 (ninS ne_en0_en2 nin0)))
      have F_next_en0 := F_next_en0.keep K56 (ninS (Ne.symm ne_o_en0) (ninS ne_en0_en1 (ninS ne_en0_en2 nin0)))
      refine RunsTo.of (T' := T56) (g' := (mkF m 99 #[.val (.int x0), .val (.int x1), .val (.int x2), .val (.int bits), .val (.int (3 : Int32)), .val (.int (0 : Int32)), .val (.ref o), .val (.ref en0), .val (.ref en1), .val (.ref en2), .unset, .unset, .unset, .unset, .unset, .unset] [])) (fun _ kt => st56.trans kt) ?_
      refine RunsTo.of (T' := T56) (g' := (mkF m 128 #[.val (.int x0), .val (.int x1), .val (.int x2), .val (.int bits), .val (.int (3 : Int32)), .val (.int (0 : Int32)), .val (.ref o), .val (.ref en0), .val (.ref en1), .val (.ref en2), .val (.ref en0), .unset, .unset, .unset, .unset, .unset] [(.ref en0), (.ref o)])) (fun tgt_ kt => ?_) ?_
      · refine XS.iload X56.here hx rfl (hb hby at_99) rfl ?_
        show Steps p.tables e below (T56.setTop (mkF m 101 #[.val (.int x0), .val (.int x1), .val (.int x2), .val (.int bits), .val (.int (3 : Int32)), .val (.int (0 : Int32)), .val (.ref o), .val (.ref en0), .val (.ref en1), .val (.ref en2), .unset, .unset, .unset, .unset, .unset, .unset] [(.int (0 : Int32))])) _
        refine XS.ifNo X56.here hx rfl (hb hby at_101) rfl ((if0 _ _).trans (teq rfl).2) ?_
        show Steps p.tables e below (T56.setTop (mkF m 104 #[.val (.int x0), .val (.int x1), .val (.int x2), .val (.int bits), .val (.int (3 : Int32)), .val (.int (0 : Int32)), .val (.ref o), .val (.ref en0), .val (.ref en1), .val (.ref en2), .unset, .unset, .unset, .unset, .unset, .unset] [])) _
        refine XS.aload X56.here hx rfl (hb hby at_104) rfl rfl ?_
        show Steps p.tables e below (T56.setTop (mkF m 106 #[.val (.int x0), .val (.int x1), .val (.int x2), .val (.int bits), .val (.int (3 : Int32)), .val (.int (0 : Int32)), .val (.ref o), .val (.ref en0), .val (.ref en1), .val (.ref en2), .unset, .unset, .unset, .unset, .unset, .unset] [(.ref en0)])) _
        refine XS.goto X56.here hx rfl (pc0 := 106) (pc' := 122) rfl (hb hby at_106) (by decide) (by decide) ?_
        show Steps p.tables e below (T56.setTop (mkF m 122 #[.val (.int x0), .val (.int x1), .val (.int x2), .val (.int bits), .val (.int (3 : Int32)), .val (.int (0 : Int32)), .val (.ref o), .val (.ref en0), .val (.ref en1), .val (.ref en2), .unset, .unset, .unset, .unset, .unset, .unset] [(.ref en0)])) _
        refine XS.astore X56.here hx rfl (hb hby at_122) rfl rfl (l' := #[.val (.int x0), .val (.int x1), .val (.int x2), .val (.int bits), .val (.int (3 : Int32)), .val (.int (0 : Int32)), .val (.ref o), .val (.ref en0), .val (.ref en1), .val (.ref en2), .val (.ref en0), .unset, .unset, .unset, .unset, .unset]) rfl ?_
        show Steps p.tables e below (T56.setTop (mkF m 124 #[.val (.int x0), .val (.int x1), .val (.int x2), .val (.int bits), .val (.int (3 : Int32)), .val (.int (0 : Int32)), .val (.ref o), .val (.ref en0), .val (.ref en1), .val (.ref en2), .val (.ref en0), .unset, .unset, .unset, .unset, .unset] [])) _
        refine XS.aload X56.here hx rfl (hb hby at_124) rfl rfl ?_
        show Steps p.tables e below (T56.setTop (mkF m 126 #[.val (.int x0), .val (.int x1), .val (.int x2), .val (.int bits), .val (.int (3 : Int32)), .val (.int (0 : Int32)), .val (.ref o), .val (.ref en0), .val (.ref en1), .val (.ref en2), .val (.ref en0), .unset, .unset, .unset, .unset, .unset] [(.ref o)])) _
        refine XS.aload X56.here hx rfl (hb hby at_126) rfl rfl ?_
        show Steps p.tables e below (T56.setTop (mkF m 128 #[.val (.int x0), .val (.int x1), .val (.int x2), .val (.int bits), .val (.int (3 : Int32)), .val (.int (0 : Int32)), .val (.ref o), .val (.ref en0), .val (.ref en1), .val (.ref en2), .val (.ref en0), .unset, .unset, .unset, .unset, .unset] [(.ref en0), (.ref o)])) _
        exact kt
      obtain ⟨cq57, kq57, q57a, q57b, q57c⟩ := isOf hZ rfl E_o
      obtain ⟨_, _, ⟨T57, L57, k57, n57⟩, -, X57, ⟨Lc57, hQ57, l57, y57, z57⟩, st57⟩ := X56.virtualBack hx (y := (⟨"com/example/round_table/roundtable/engine/OrderList", "remove", "(Lcom/example/round_table/roundtable/engine/OrderList$Entry;)V"⟩ : MethodName)) (z := (⟨"com/example/round_table/roundtable/engine/OrderList", "remove", "(Lcom/example/round_table/roundtable/engine/OrderList$Entry;)V"⟩ : MethodName)) hown (mvT hZ (hw _ (List.mem_of_getElem? (i := 53) rfl))) (mvT hZ (hw _ (List.mem_of_getElem? (i := 54) rfl))) (notFace_of_selects (args := #[]) (mvT hZ (hw _ (List.mem_of_getElem? (i := 56) rfl)))) (mvT hZ (hw _ (List.mem_of_getElem? (i := 56) rfl))) (mvT hZ (hw _ (List.mem_of_getElem? (i := 55) rfl))) (by decide) (backOf (W := 0) (rm_remN l Z a0 hw [] o en0 hd hd (.ref en2) .null bits eg (0 : Int64) lab_en0 en1 lab_en1 (.ref en2) T56.heap n0 Z56 E_o g_o F_head_o F_last_o F_labelBits_o F_endGap_o E_hd g_hd F_label_hd F_previous_hd F_next_hd E_en0 g_en0 F_label_en0 F_previous_en0 F_next_en0 ne_o_hd ne_o_en0 ne_hd_en0 E_en1 g_en1 F_label_en1 F_previous_en1 F_next_en1 ne_o_en1 ne_hd_en1 ne_en0_en1) hZ (hw _ (List.mem_of_getElem? (i := 57) rfl)) (hw _ (List.mem_of_getElem? (i := 3) rfl)) (by decide) (by decide)) q57a q57c (g := (mkF m 128 #[.val (.int x0), .val (.int x1), .val (.int x2), .val (.int bits), .val (.int (3 : Int32)), .val (.int (0 : Int32)), .val (.ref o), .val (.ref en0), .val (.ref en1), .val (.ref en2), .val (.ref en0), .unset, .unset, .unset, .unset, .unset] [(.ref en0), (.ref o)])) rfl (by rw [hml]; rfl) (Steps.refl _) (argsL := [(.ref en0)]) (rest := []) (lenOf pd_5 rfl) rfl (by show 2 * 0 + _ ≤ _; exact Nat.le_of_eq rfl) (hb hby at_128) (fun _ _ => ⟨rfl, rfl, (by decide : 5 + 0 ≤ _), (by decide : 16 + 0 ≤ _)⟩)
      dsimp only [Pt.U, Pt.locs, Pt.cells, Pt.slots] at X57 l57 y57 z57 st57 hQ57
      subst l57 y57 z57
      obtain ⟨rfl, N57q, K57, F_head_o, F_last_o, F_labelBits_o, F_endGap_o, F_label_hd, F_previous_hd, F_next_hd, F_label_en0, F_previous_en0, F_next_en0, F_label_en1, F_previous_en1, F_next_en1⟩ := hQ57
      have N57 := Fr.app N56 N57q
      have Z57 : n0 ≤ T57.heap.size := Nat.le_trans Z56 K57.1
      have E_o := E_o.keep K57
      have E_hd := E_hd.keep K57
      have E_en0 := E_en0.keep K57
      have E_en1 := E_en1.keep K57
      have E_en2 := E_en2.keep K57
      have F_label_en2 := F_label_en2.keep K57 (ninS (Ne.symm ne_o_en2) (ninS (Ne.symm ne_hd_en2) (ninS (Ne.symm ne_en0_en2) (ninS (Ne.symm ne_en1_en2) nin0))))
      have F_previous_en2 := F_previous_en2.keep K57 (ninS (Ne.symm ne_o_en2) (ninS (Ne.symm ne_hd_en2) (ninS (Ne.symm ne_en0_en2) (ninS (Ne.symm ne_en1_en2) nin0))))
      have F_next_en2 := F_next_en2.keep K57 (ninS (Ne.symm ne_o_en2) (ninS (Ne.symm ne_hd_en2) (ninS (Ne.symm ne_en0_en2) (ninS (Ne.symm ne_en1_en2) nin0))))
      refine RunsTo.of (T' := T57) (g' := (mkF m 131 #[.val (.int x0), .val (.int x1), .val (.int x2), .val (.int bits), .val (.int (3 : Int32)), .val (.int (0 : Int32)), .val (.ref o), .val (.ref en0), .val (.ref en1), .val (.ref en2), .val (.ref en0), .unset, .unset, .unset, .unset, .unset] [])) (fun _ kt => st57.trans kt) ?_
      refine RunsTo.of (T' := T57) (g' := (mkF m 137 #[.val (.int x0), .val (.int x1), .val (.int x2), .val (.int bits), .val (.int (3 : Int32)), .val (.int (0 : Int32)), .val (.ref o), .val (.ref en0), .val (.ref en1), .val (.ref en2), .val (.ref en0), .val (.int ((3 : Int32) - (1 : Int32))), .unset, .unset, .unset, .unset] [])) (fun tgt_ kt => ?_) ?_
      · refine XS.iload X57.here hx rfl (hb hby at_131) rfl ?_
        show Steps p.tables e below (T57.setTop (mkF m 133 #[.val (.int x0), .val (.int x1), .val (.int x2), .val (.int bits), .val (.int (3 : Int32)), .val (.int (0 : Int32)), .val (.ref o), .val (.ref en0), .val (.ref en1), .val (.ref en2), .val (.ref en0), .unset, .unset, .unset, .unset, .unset] [(.int (3 : Int32))])) _
        refine XS.iconst X57.here hx rfl (hb hby at_133) ?_
        show Steps p.tables e below (T57.setTop (mkF m 134 #[.val (.int x0), .val (.int x1), .val (.int x2), .val (.int bits), .val (.int (3 : Int32)), .val (.int (0 : Int32)), .val (.ref o), .val (.ref en0), .val (.ref en1), .val (.ref en2), .val (.ref en0), .unset, .unset, .unset, .unset, .unset] [(.int (1 : Int32)), (.int (3 : Int32))])) _
        refine XS.isub X57.here hx rfl (hb hby at_134) rfl ?_
        show Steps p.tables e below (T57.setTop (mkF m 135 #[.val (.int x0), .val (.int x1), .val (.int x2), .val (.int bits), .val (.int (3 : Int32)), .val (.int (0 : Int32)), .val (.ref o), .val (.ref en0), .val (.ref en1), .val (.ref en2), .val (.ref en0), .unset, .unset, .unset, .unset, .unset] [(.int ((3 : Int32) - (1 : Int32)))])) _
        refine XS.istore X57.here hx rfl (hb hby at_135) rfl (l' := #[.val (.int x0), .val (.int x1), .val (.int x2), .val (.int bits), .val (.int (3 : Int32)), .val (.int (0 : Int32)), .val (.ref o), .val (.ref en0), .val (.ref en1), .val (.ref en2), .val (.ref en0), .val (.int ((3 : Int32) - (1 : Int32))), .unset, .unset, .unset, .unset]) rfl ?_
        show Steps p.tables e below (T57.setTop (mkF m 137 #[.val (.int x0), .val (.int x1), .val (.int x2), .val (.int bits), .val (.int (3 : Int32)), .val (.int (0 : Int32)), .val (.ref o), .val (.ref en0), .val (.ref en1), .val (.ref en2), .val (.ref en0), .val (.int ((3 : Int32) - (1 : Int32))), .unset, .unset, .unset, .unset] [])) _
        exact kt
      have hm : (3 : Int32) - (1 : Int32) = (2 : Int32) := by decide
      rw [hm]
      refine RunsTo.of (T' := T57) (g' := (mkF m 237 #[.val (.int x0), .val (.int x1), .val (.int x2), .val (.int bits), .val (.int (3 : Int32)), .val (.int (0 : Int32)), .val (.ref o), .val (.ref en0), .val (.ref en1), .val (.ref en2), .val (.ref en0), .val (.int (2 : Int32)), .val (.ref en1), .val (.ref en2), .unset, .unset] [(.ref o)])) (fun tgt_ kt => ?_) ?_
      · refine XS.iload X57.here hx rfl (hb hby at_137) rfl ?_
        show Steps p.tables e below (T57.setTop (mkF m 139 #[.val (.int x0), .val (.int x1), .val (.int x2), .val (.int bits), .val (.int (3 : Int32)), .val (.int (0 : Int32)), .val (.ref o), .val (.ref en0), .val (.ref en1), .val (.ref en2), .val (.ref en0), .val (.int (2 : Int32)), .unset, .unset, .unset, .unset] [(.int (0 : Int32))])) _
        refine XS.ifNo X57.here hx rfl (hb hby at_139) rfl ((if0 _ _).trans (teq rfl).2) ?_
        show Steps p.tables e below (T57.setTop (mkF m 142 #[.val (.int x0), .val (.int x1), .val (.int x2), .val (.int bits), .val (.int (3 : Int32)), .val (.int (0 : Int32)), .val (.ref o), .val (.ref en0), .val (.ref en1), .val (.ref en2), .val (.ref en0), .val (.int (2 : Int32)), .unset, .unset, .unset, .unset] [])) _
        refine XS.aload X57.here hx rfl (hb hby at_142) rfl rfl ?_
        show Steps p.tables e below (T57.setTop (mkF m 144 #[.val (.int x0), .val (.int x1), .val (.int x2), .val (.int bits), .val (.int (3 : Int32)), .val (.int (0 : Int32)), .val (.ref o), .val (.ref en0), .val (.ref en1), .val (.ref en2), .val (.ref en0), .val (.int (2 : Int32)), .unset, .unset, .unset, .unset] [(.ref en1)])) _
        refine XS.goto X57.here hx rfl (pc0 := 144) (pc' := 149) rfl (hb hby at_144) (by decide) (by decide) ?_
        show Steps p.tables e below (T57.setTop (mkF m 149 #[.val (.int x0), .val (.int x1), .val (.int x2), .val (.int bits), .val (.int (3 : Int32)), .val (.int (0 : Int32)), .val (.ref o), .val (.ref en0), .val (.ref en1), .val (.ref en2), .val (.ref en0), .val (.int (2 : Int32)), .unset, .unset, .unset, .unset] [(.ref en1)])) _
        refine XS.astore X57.here hx rfl (hb hby at_149) rfl rfl (l' := #[.val (.int x0), .val (.int x1), .val (.int x2), .val (.int bits), .val (.int (3 : Int32)), .val (.int (0 : Int32)), .val (.ref o), .val (.ref en0), .val (.ref en1), .val (.ref en2), .val (.ref en0), .val (.int (2 : Int32)), .val (.ref en1), .unset, .unset, .unset]) rfl ?_
        show Steps p.tables e below (T57.setTop (mkF m 151 #[.val (.int x0), .val (.int x1), .val (.int x2), .val (.int bits), .val (.int (3 : Int32)), .val (.int (0 : Int32)), .val (.ref o), .val (.ref en0), .val (.ref en1), .val (.ref en2), .val (.ref en0), .val (.int (2 : Int32)), .val (.ref en1), .unset, .unset, .unset] [])) _
        refine XS.iload X57.here hx rfl (hb hby at_151) rfl ?_
        show Steps p.tables e below (T57.setTop (mkF m 153 #[.val (.int x0), .val (.int x1), .val (.int x2), .val (.int bits), .val (.int (3 : Int32)), .val (.int (0 : Int32)), .val (.ref o), .val (.ref en0), .val (.ref en1), .val (.ref en2), .val (.ref en0), .val (.int (2 : Int32)), .val (.ref en1), .unset, .unset, .unset] [(.int (0 : Int32))])) _
        refine XS.iconst X57.here hx rfl (hb hby at_153) ?_
        show Steps p.tables e below (T57.setTop (mkF m 154 #[.val (.int x0), .val (.int x1), .val (.int x2), .val (.int bits), .val (.int (3 : Int32)), .val (.int (0 : Int32)), .val (.ref o), .val (.ref en0), .val (.ref en1), .val (.ref en2), .val (.ref en0), .val (.int (2 : Int32)), .val (.ref en1), .unset, .unset, .unset] [(.int (2 : Int32)), (.int (0 : Int32))])) _
        refine XS.icmpYes X57.here hx rfl (pc0 := 154) (pc' := 162) rfl (hb hby at_154) rfl (feq (by decide)).2 (by decide) (by decide) ?_
        show Steps p.tables e below (T57.setTop (mkF m 162 #[.val (.int x0), .val (.int x1), .val (.int x2), .val (.int bits), .val (.int (3 : Int32)), .val (.int (0 : Int32)), .val (.ref o), .val (.ref en0), .val (.ref en1), .val (.ref en2), .val (.ref en0), .val (.int (2 : Int32)), .val (.ref en1), .unset, .unset, .unset] [])) _
        refine XS.aload X57.here hx rfl (hb hby at_162) rfl rfl ?_
        show Steps p.tables e below (T57.setTop (mkF m 164 #[.val (.int x0), .val (.int x1), .val (.int x2), .val (.int bits), .val (.int (3 : Int32)), .val (.int (0 : Int32)), .val (.ref o), .val (.ref en0), .val (.ref en1), .val (.ref en2), .val (.ref en0), .val (.int (2 : Int32)), .val (.ref en1), .unset, .unset, .unset] [(.ref en2)])) _
        refine XS.astore X57.here hx rfl (hb hby at_164) rfl rfl (l' := #[.val (.int x0), .val (.int x1), .val (.int x2), .val (.int bits), .val (.int (3 : Int32)), .val (.int (0 : Int32)), .val (.ref o), .val (.ref en0), .val (.ref en1), .val (.ref en2), .val (.ref en0), .val (.int (2 : Int32)), .val (.ref en1), .val (.ref en2), .unset, .unset]) rfl ?_
        show Steps p.tables e below (T57.setTop (mkF m 166 #[.val (.int x0), .val (.int x1), .val (.int x2), .val (.int bits), .val (.int (3 : Int32)), .val (.int (0 : Int32)), .val (.ref o), .val (.ref en0), .val (.ref en1), .val (.ref en2), .val (.ref en0), .val (.int (2 : Int32)), .val (.ref en1), .val (.ref en2), .unset, .unset] [])) _
        refine XS.iload X57.here hx rfl (hb hby at_166) rfl ?_
        show Steps p.tables e below (T57.setTop (mkF m 168 #[.val (.int x0), .val (.int x1), .val (.int x2), .val (.int bits), .val (.int (3 : Int32)), .val (.int (0 : Int32)), .val (.ref o), .val (.ref en0), .val (.ref en1), .val (.ref en2), .val (.ref en0), .val (.int (2 : Int32)), .val (.ref en1), .val (.ref en2), .unset, .unset] [(.int (2 : Int32))])) _
        refine XS.ifYes X57.here hx rfl (pc0 := 168) (pc' := 189) rfl (hb hby at_168) rfl ((if0 _ _).trans (feq (by decide)).2) (by decide) (by decide) ?_
        show Steps p.tables e below (T57.setTop (mkF m 189 #[.val (.int x0), .val (.int x1), .val (.int x2), .val (.int bits), .val (.int (3 : Int32)), .val (.int (0 : Int32)), .val (.ref o), .val (.ref en0), .val (.ref en1), .val (.ref en2), .val (.ref en0), .val (.int (2 : Int32)), .val (.ref en1), .val (.ref en2), .unset, .unset] [])) _
        refine XS.iload X57.here hx rfl (hb hby at_189) rfl ?_
        show Steps p.tables e below (T57.setTop (mkF m 191 #[.val (.int x0), .val (.int x1), .val (.int x2), .val (.int bits), .val (.int (3 : Int32)), .val (.int (0 : Int32)), .val (.ref o), .val (.ref en0), .val (.ref en1), .val (.ref en2), .val (.ref en0), .val (.int (2 : Int32)), .val (.ref en1), .val (.ref en2), .unset, .unset] [(.int (2 : Int32))])) _
        refine XS.iconst X57.here hx rfl (hb hby at_191) ?_
        show Steps p.tables e below (T57.setTop (mkF m 192 #[.val (.int x0), .val (.int x1), .val (.int x2), .val (.int bits), .val (.int (3 : Int32)), .val (.int (0 : Int32)), .val (.ref o), .val (.ref en0), .val (.ref en1), .val (.ref en2), .val (.ref en0), .val (.int (2 : Int32)), .val (.ref en1), .val (.ref en2), .unset, .unset] [(.int (1 : Int32)), (.int (2 : Int32))])) _
        refine XS.icmpYes X57.here hx rfl (pc0 := 192) (pc' := 235) rfl (hb hby at_192) rfl (feq (by decide)).2 (by decide) (by decide) ?_
        show Steps p.tables e below (T57.setTop (mkF m 235 #[.val (.int x0), .val (.int x1), .val (.int x2), .val (.int bits), .val (.int (3 : Int32)), .val (.int (0 : Int32)), .val (.ref o), .val (.ref en0), .val (.ref en1), .val (.ref en2), .val (.ref en0), .val (.int (2 : Int32)), .val (.ref en1), .val (.ref en2), .unset, .unset] [])) _
        refine XS.aload X57.here hx rfl (hb hby at_235) rfl rfl ?_
        show Steps p.tables e below (T57.setTop (mkF m 237 #[.val (.int x0), .val (.int x1), .val (.int x2), .val (.int bits), .val (.int (3 : Int32)), .val (.int (0 : Int32)), .val (.ref o), .val (.ref en0), .val (.ref en1), .val (.ref en2), .val (.ref en0), .val (.int (2 : Int32)), .val (.ref en1), .val (.ref en2), .unset, .unset] [(.ref o)])) _
        exact kt
      obtain ⟨cq58, kq58, q58a, q58b, q58c⟩ := isOf hZ rfl E_o
      obtain ⟨_, _, ⟨T58, L58, k58, n58⟩, -, X58, ⟨Lc58, hQ58, l58, y58, z58⟩, st58⟩ := X57.virtualBack hx (y := (⟨"com/example/round_table/roundtable/engine/OrderList", "last", "()Lcom/example/round_table/roundtable/engine/OrderList$Entry;"⟩ : MethodName)) (z := (⟨"com/example/round_table/roundtable/engine/OrderList", "last", "()Lcom/example/round_table/roundtable/engine/OrderList$Entry;"⟩ : MethodName)) hown (mvT hZ (hw _ (List.mem_of_getElem? (i := 58) rfl))) (mvT hZ (hw _ (List.mem_of_getElem? (i := 33) rfl))) (notFace_of_selects (args := #[]) (mvT hZ (hw _ (List.mem_of_getElem? (i := 35) rfl)))) (mvT hZ (hw _ (List.mem_of_getElem? (i := 35) rfl))) (mvT hZ (hw _ (List.mem_of_getElem? (i := 34) rfl))) (by decide) (backOf (W := 0) (rm_lastN l Z a0 hw [] o hd en2 T57.heap n0 Z57 F_head_o F_last_o (Ne.symm ne_hd_en2)) hZ (hw _ (List.mem_of_getElem? (i := 36) rfl)) (hw _ (List.mem_of_getElem? (i := 3) rfl)) (by decide) (by decide)) q58a q58c (g := (mkF m 237 #[.val (.int x0), .val (.int x1), .val (.int x2), .val (.int bits), .val (.int (3 : Int32)), .val (.int (0 : Int32)), .val (.ref o), .val (.ref en0), .val (.ref en1), .val (.ref en2), .val (.ref en0), .val (.int (2 : Int32)), .val (.ref en1), .val (.ref en2), .unset, .unset] [(.ref o)])) rfl (by rw [hml]; rfl) (Steps.refl _) (argsL := []) (rest := []) (lenOf pd_2 rfl) rfl (by show 2 * 0 + _ ≤ _; exact Nat.le_of_eq rfl) (hb hby at_237) (fun _ _ => ⟨rfl, rfl, (by decide : 5 + 0 ≤ _), (by decide : 16 + 0 ≤ _)⟩)
      dsimp only [Pt.U, Pt.locs, Pt.cells, Pt.slots] at X58 l58 y58 z58 st58 hQ58
      subst l58 y58 z58
      obtain ⟨rfl, N58q, e58⟩ := hQ58
      have N58 := Fr.app N57 N58q
      refine RunsTo.of (T' := T58) (g' := (mkF m 240 #[.val (.int x0), .val (.int x1), .val (.int x2), .val (.int bits), .val (.int (3 : Int32)), .val (.int (0 : Int32)), .val (.ref o), .val (.ref en0), .val (.ref en1), .val (.ref en2), .val (.ref en0), .val (.int (2 : Int32)), .val (.ref en1), .val (.ref en2), .unset, .unset] [(.ref en2)])) (fun _ kt => st58.trans kt) ?_
      refine RunsTo.of (T' := T58) (g' := (mkF m 249 #[.val (.int x0), .val (.int x1), .val (.int x2), .val (.int bits), .val (.int (3 : Int32)), .val (.int (0 : Int32)), .val (.ref o), .val (.ref en0), .val (.ref en1), .val (.ref en2), .val (.ref en0), .val (.int (2 : Int32)), .val (.ref en1), .val (.ref en2), .unset, .unset] [(.ref en1), (.ref o)])) (fun tgt_ kt => ?_) ?_
      · refine XS.aload X58.here hx rfl (hb hby at_240) rfl rfl ?_
        show Steps p.tables e below (T58.setTop (mkF m 242 #[.val (.int x0), .val (.int x1), .val (.int x2), .val (.int bits), .val (.int (3 : Int32)), .val (.int (0 : Int32)), .val (.ref o), .val (.ref en0), .val (.ref en1), .val (.ref en2), .val (.ref en0), .val (.int (2 : Int32)), .val (.ref en1), .val (.ref en2), .unset, .unset] [(.ref en2), (.ref en2)])) _
        refine Jvm.RoadKit.acmp (g := (mkF m 242 #[.val (.int x0), .val (.int x1), .val (.int x2), .val (.int bits), .val (.int (3 : Int32)), .val (.int (0 : Int32)), .val (.ref o), .val (.ref en0), .val (.ref en1), .val (.ref en2), .val (.ref en0), .val (.int (2 : Int32)), .val (.ref en1), .val (.ref en2), .unset, .unset] [(.ref en2), (.ref en2)])) X58 hx rfl rfl rfl (pc0 := 242) (pc' := 245) (same := true) rfl (hb hby at_242) rfl (decide_eq_true (congrArg Value.ref rfl)) (by decide) (by decide) ?_
        show Steps p.tables e below (T58.setTop (mkF m 245 #[.val (.int x0), .val (.int x1), .val (.int x2), .val (.int bits), .val (.int (3 : Int32)), .val (.int (0 : Int32)), .val (.ref o), .val (.ref en0), .val (.ref en1), .val (.ref en2), .val (.ref en0), .val (.int (2 : Int32)), .val (.ref en1), .val (.ref en2), .unset, .unset] [])) _
        refine XS.aload X58.here hx rfl (hb hby at_245) rfl rfl ?_
        show Steps p.tables e below (T58.setTop (mkF m 247 #[.val (.int x0), .val (.int x1), .val (.int x2), .val (.int bits), .val (.int (3 : Int32)), .val (.int (0 : Int32)), .val (.ref o), .val (.ref en0), .val (.ref en1), .val (.ref en2), .val (.ref en0), .val (.int (2 : Int32)), .val (.ref en1), .val (.ref en2), .unset, .unset] [(.ref o)])) _
        refine XS.aload X58.here hx rfl (hb hby at_247) rfl rfl ?_
        show Steps p.tables e below (T58.setTop (mkF m 249 #[.val (.int x0), .val (.int x1), .val (.int x2), .val (.int bits), .val (.int (3 : Int32)), .val (.int (0 : Int32)), .val (.ref o), .val (.ref en0), .val (.ref en1), .val (.ref en2), .val (.ref en0), .val (.int (2 : Int32)), .val (.ref en1), .val (.ref en2), .unset, .unset] [(.ref en1), (.ref o)])) _
        exact kt
      obtain ⟨cq59, kq59, q59a, q59b, q59c⟩ := isOf hZ e58 E_o
      obtain ⟨_, _, ⟨T59, L59, k59, n59⟩, -, X59, ⟨Lc59, hQ59, l59, y59, z59⟩, st59⟩ := X58.virtualBack hx (y := (⟨"com/example/round_table/roundtable/engine/OrderList", "previous", "(Lcom/example/round_table/roundtable/engine/OrderList$Entry;)Lcom/example/round_table/roundtable/engine/OrderList$Entry;"⟩ : MethodName)) (z := (⟨"com/example/round_table/roundtable/engine/OrderList", "previous", "(Lcom/example/round_table/roundtable/engine/OrderList$Entry;)Lcom/example/round_table/roundtable/engine/OrderList$Entry;"⟩ : MethodName)) hown (mvT hZ (hw _ (List.mem_of_getElem? (i := 65) rfl))) (mvT hZ (hw _ (List.mem_of_getElem? (i := 66) rfl))) (notFace_of_selects (args := #[]) (mvT hZ (hw _ (List.mem_of_getElem? (i := 68) rfl)))) (mvT hZ (hw _ (List.mem_of_getElem? (i := 68) rfl))) (mvT hZ (hw _ (List.mem_of_getElem? (i := 67) rfl))) (by decide) (backOf (W := 0) (rm_prevE l Z a0 hw [] o en1 hd T57.heap n0 Z57 F_head_o F_previous_en1) hZ (hw _ (List.mem_of_getElem? (i := 69) rfl)) (hw _ (List.mem_of_getElem? (i := 3) rfl)) (by decide) (by decide)) q59a q59c (g := (mkF m 249 #[.val (.int x0), .val (.int x1), .val (.int x2), .val (.int bits), .val (.int (3 : Int32)), .val (.int (0 : Int32)), .val (.ref o), .val (.ref en0), .val (.ref en1), .val (.ref en2), .val (.ref en0), .val (.int (2 : Int32)), .val (.ref en1), .val (.ref en2), .unset, .unset] [(.ref en1), (.ref o)])) rfl (by rw [hml]; rfl) (Steps.refl _) (argsL := [(.ref en1)]) (rest := []) (lenOf pd_6 rfl) rfl (by show 2 * 0 + _ ≤ _; exact Nat.le_of_eq rfl) (hb hby at_249) (fun _ _ => ⟨rfl, e58, (by decide : 5 + 0 ≤ _), (by decide : 16 + 0 ≤ _)⟩)
      dsimp only [Pt.U, Pt.locs, Pt.cells, Pt.slots] at X59 l59 y59 z59 st59 hQ59
      subst l59 y59 z59
      obtain ⟨rfl, N59q, e59⟩ := hQ59
      have N59 := Fr.app N58 N59q
      refine RunsTo.of (T' := T59) (g' := (mkF m 252 #[.val (.int x0), .val (.int x1), .val (.int x2), .val (.int bits), .val (.int (3 : Int32)), .val (.int (0 : Int32)), .val (.ref o), .val (.ref en0), .val (.ref en1), .val (.ref en2), .val (.ref en0), .val (.int (2 : Int32)), .val (.ref en1), .val (.ref en2), .unset, .unset] [.null])) (fun _ kt => st59.trans kt) ?_
      refine RunsTo.of (T' := T59) (g' := (mkF m 259 #[.val (.int x0), .val (.int x1), .val (.int x2), .val (.int bits), .val (.int (3 : Int32)), .val (.int (0 : Int32)), .val (.ref o), .val (.ref en0), .val (.ref en1), .val (.ref en2), .val (.ref en0), .val (.int (2 : Int32)), .val (.ref en1), .val (.ref en2), .unset, .unset] [(.ref en1), (.ref o)])) (fun tgt_ kt => ?_) ?_
      · refine XS.ifnonnullNo X59.here hx rfl (hb hby at_252) rfl ?_
        show Steps p.tables e below (T59.setTop (mkF m 255 #[.val (.int x0), .val (.int x1), .val (.int x2), .val (.int bits), .val (.int (3 : Int32)), .val (.int (0 : Int32)), .val (.ref o), .val (.ref en0), .val (.ref en1), .val (.ref en2), .val (.ref en0), .val (.int (2 : Int32)), .val (.ref en1), .val (.ref en2), .unset, .unset] [])) _
        refine XS.aload X59.here hx rfl (hb hby at_255) rfl rfl ?_
        show Steps p.tables e below (T59.setTop (mkF m 257 #[.val (.int x0), .val (.int x1), .val (.int x2), .val (.int bits), .val (.int (3 : Int32)), .val (.int (0 : Int32)), .val (.ref o), .val (.ref en0), .val (.ref en1), .val (.ref en2), .val (.ref en0), .val (.int (2 : Int32)), .val (.ref en1), .val (.ref en2), .unset, .unset] [(.ref o)])) _
        refine XS.aload X59.here hx rfl (hb hby at_257) rfl rfl ?_
        show Steps p.tables e below (T59.setTop (mkF m 259 #[.val (.int x0), .val (.int x1), .val (.int x2), .val (.int bits), .val (.int (3 : Int32)), .val (.int (0 : Int32)), .val (.ref o), .val (.ref en0), .val (.ref en1), .val (.ref en2), .val (.ref en0), .val (.int (2 : Int32)), .val (.ref en1), .val (.ref en2), .unset, .unset] [(.ref en1), (.ref o)])) _
        exact kt
      obtain ⟨cq60, kq60, q60a, q60b, q60c⟩ := isOf hZ e59 E_o
      obtain ⟨_, _, ⟨T60, L60, k60, n60⟩, -, X60, ⟨Lc60, hQ60, l60, y60, z60⟩, st60⟩ := X59.virtualBack hx (y := (⟨"com/example/round_table/roundtable/engine/OrderList", "next", "(Lcom/example/round_table/roundtable/engine/OrderList$Entry;)Lcom/example/round_table/roundtable/engine/OrderList$Entry;"⟩ : MethodName)) (z := (⟨"com/example/round_table/roundtable/engine/OrderList", "next", "(Lcom/example/round_table/roundtable/engine/OrderList$Entry;)Lcom/example/round_table/roundtable/engine/OrderList$Entry;"⟩ : MethodName)) hown (mvT hZ (hw _ (List.mem_of_getElem? (i := 60) rfl))) (mvT hZ (hw _ (List.mem_of_getElem? (i := 61) rfl))) (notFace_of_selects (args := #[]) (mvT hZ (hw _ (List.mem_of_getElem? (i := 63) rfl)))) (mvT hZ (hw _ (List.mem_of_getElem? (i := 63) rfl))) (mvT hZ (hw _ (List.mem_of_getElem? (i := 62) rfl))) (by decide) (backOf (W := 0) (rm9 l Z a0 hw [] o en1 (.ref en2) rfl T57.heap n0 Z57 F_next_en1) hZ (hw _ (List.mem_of_getElem? (i := 64) rfl)) (hw _ (List.mem_of_getElem? (i := 3) rfl)) (by decide) (by decide)) q60a q60c (g := (mkF m 259 #[.val (.int x0), .val (.int x1), .val (.int x2), .val (.int bits), .val (.int (3 : Int32)), .val (.int (0 : Int32)), .val (.ref o), .val (.ref en0), .val (.ref en1), .val (.ref en2), .val (.ref en0), .val (.int (2 : Int32)), .val (.ref en1), .val (.ref en2), .unset, .unset] [(.ref en1), (.ref o)])) rfl (by rw [hml]; rfl) (Steps.refl _) (argsL := [(.ref en1)]) (rest := []) (lenOf pd_6 rfl) rfl (by show 2 * 0 + _ ≤ _; exact Nat.le_of_eq rfl) (hb hby at_259) (fun _ _ => ⟨rfl, e59, (by decide : 5 + 0 ≤ _), (by decide : 16 + 0 ≤ _)⟩)
      dsimp only [Pt.U, Pt.locs, Pt.cells, Pt.slots] at X60 l60 y60 z60 st60 hQ60
      subst l60 y60 z60
      obtain ⟨rfl, N60q, e60⟩ := hQ60
      have N60 := Fr.app N59 N60q
      refine RunsTo.of (T' := T60) (g' := (mkF m 262 #[.val (.int x0), .val (.int x1), .val (.int x2), .val (.int bits), .val (.int (3 : Int32)), .val (.int (0 : Int32)), .val (.ref o), .val (.ref en0), .val (.ref en1), .val (.ref en2), .val (.ref en0), .val (.int (2 : Int32)), .val (.ref en1), .val (.ref en2), .unset, .unset] [(.ref en2)])) (fun _ kt => st60.trans kt) ?_
      refine RunsTo.of (T' := T60) (g' := (mkF m 271 #[.val (.int x0), .val (.int x1), .val (.int x2), .val (.int bits), .val (.int (3 : Int32)), .val (.int (0 : Int32)), .val (.ref o), .val (.ref en0), .val (.ref en1), .val (.ref en2), .val (.ref en0), .val (.int (2 : Int32)), .val (.ref en1), .val (.ref en2), .unset, .unset] [(.ref en2), (.ref o)])) (fun tgt_ kt => ?_) ?_
      · refine XS.aload X60.here hx rfl (hb hby at_262) rfl rfl ?_
        show Steps p.tables e below (T60.setTop (mkF m 264 #[.val (.int x0), .val (.int x1), .val (.int x2), .val (.int bits), .val (.int (3 : Int32)), .val (.int (0 : Int32)), .val (.ref o), .val (.ref en0), .val (.ref en1), .val (.ref en2), .val (.ref en0), .val (.int (2 : Int32)), .val (.ref en1), .val (.ref en2), .unset, .unset] [(.ref en2), (.ref en2)])) _
        refine Jvm.RoadKit.acmp (g := (mkF m 264 #[.val (.int x0), .val (.int x1), .val (.int x2), .val (.int bits), .val (.int (3 : Int32)), .val (.int (0 : Int32)), .val (.ref o), .val (.ref en0), .val (.ref en1), .val (.ref en2), .val (.ref en0), .val (.int (2 : Int32)), .val (.ref en1), .val (.ref en2), .unset, .unset] [(.ref en2), (.ref en2)])) X60 hx rfl rfl rfl (pc0 := 264) (pc' := 267) (same := true) rfl (hb hby at_264) rfl (decide_eq_true (congrArg Value.ref rfl)) (by decide) (by decide) ?_
        show Steps p.tables e below (T60.setTop (mkF m 267 #[.val (.int x0), .val (.int x1), .val (.int x2), .val (.int bits), .val (.int (3 : Int32)), .val (.int (0 : Int32)), .val (.ref o), .val (.ref en0), .val (.ref en1), .val (.ref en2), .val (.ref en0), .val (.int (2 : Int32)), .val (.ref en1), .val (.ref en2), .unset, .unset] [])) _
        refine XS.aload X60.here hx rfl (hb hby at_267) rfl rfl ?_
        show Steps p.tables e below (T60.setTop (mkF m 269 #[.val (.int x0), .val (.int x1), .val (.int x2), .val (.int bits), .val (.int (3 : Int32)), .val (.int (0 : Int32)), .val (.ref o), .val (.ref en0), .val (.ref en1), .val (.ref en2), .val (.ref en0), .val (.int (2 : Int32)), .val (.ref en1), .val (.ref en2), .unset, .unset] [(.ref o)])) _
        refine XS.aload X60.here hx rfl (hb hby at_269) rfl rfl ?_
        show Steps p.tables e below (T60.setTop (mkF m 271 #[.val (.int x0), .val (.int x1), .val (.int x2), .val (.int bits), .val (.int (3 : Int32)), .val (.int (0 : Int32)), .val (.ref o), .val (.ref en0), .val (.ref en1), .val (.ref en2), .val (.ref en0), .val (.int (2 : Int32)), .val (.ref en1), .val (.ref en2), .unset, .unset] [(.ref en2), (.ref o)])) _
        exact kt
      obtain ⟨cq61, kq61, q61a, q61b, q61c⟩ := isOf hZ e60 E_o
      obtain ⟨_, _, ⟨T61, L61, k61, n61⟩, -, X61, ⟨Lc61, hQ61, l61, y61, z61⟩, st61⟩ := X60.virtualBack hx (y := (⟨"com/example/round_table/roundtable/engine/OrderList", "previous", "(Lcom/example/round_table/roundtable/engine/OrderList$Entry;)Lcom/example/round_table/roundtable/engine/OrderList$Entry;"⟩ : MethodName)) (z := (⟨"com/example/round_table/roundtable/engine/OrderList", "previous", "(Lcom/example/round_table/roundtable/engine/OrderList$Entry;)Lcom/example/round_table/roundtable/engine/OrderList$Entry;"⟩ : MethodName)) hown (mvT hZ (hw _ (List.mem_of_getElem? (i := 65) rfl))) (mvT hZ (hw _ (List.mem_of_getElem? (i := 66) rfl))) (notFace_of_selects (args := #[]) (mvT hZ (hw _ (List.mem_of_getElem? (i := 68) rfl)))) (mvT hZ (hw _ (List.mem_of_getElem? (i := 68) rfl))) (mvT hZ (hw _ (List.mem_of_getElem? (i := 67) rfl))) (by decide) (backOf (W := 0) (rm_prevN l Z a0 hw [] o en2 hd en1 T57.heap n0 Z57 F_head_o F_previous_en2 (Ne.symm ne_hd_en1)) hZ (hw _ (List.mem_of_getElem? (i := 69) rfl)) (hw _ (List.mem_of_getElem? (i := 3) rfl)) (by decide) (by decide)) q61a q61c (g := (mkF m 271 #[.val (.int x0), .val (.int x1), .val (.int x2), .val (.int bits), .val (.int (3 : Int32)), .val (.int (0 : Int32)), .val (.ref o), .val (.ref en0), .val (.ref en1), .val (.ref en2), .val (.ref en0), .val (.int (2 : Int32)), .val (.ref en1), .val (.ref en2), .unset, .unset] [(.ref en2), (.ref o)])) rfl (by rw [hml]; rfl) (Steps.refl _) (argsL := [(.ref en2)]) (rest := []) (lenOf pd_6 rfl) rfl (by show 2 * 0 + _ ≤ _; exact Nat.le_of_eq rfl) (hb hby at_271) (fun _ _ => ⟨rfl, e60, (by decide : 5 + 0 ≤ _), (by decide : 16 + 0 ≤ _)⟩)
      dsimp only [Pt.U, Pt.locs, Pt.cells, Pt.slots] at X61 l61 y61 z61 st61 hQ61
      subst l61 y61 z61
      obtain ⟨rfl, N61q, e61⟩ := hQ61
      have N61 := Fr.app N60 N61q
      refine RunsTo.of (T' := T61) (g' := (mkF m 274 #[.val (.int x0), .val (.int x1), .val (.int x2), .val (.int bits), .val (.int (3 : Int32)), .val (.int (0 : Int32)), .val (.ref o), .val (.ref en0), .val (.ref en1), .val (.ref en2), .val (.ref en0), .val (.int (2 : Int32)), .val (.ref en1), .val (.ref en2), .unset, .unset] [(.ref en1)])) (fun _ kt => st61.trans kt) ?_
      refine RunsTo.of (T' := T61) (g' := (mkF m 283 #[.val (.int x0), .val (.int x1), .val (.int x2), .val (.int bits), .val (.int (3 : Int32)), .val (.int (0 : Int32)), .val (.ref o), .val (.ref en0), .val (.ref en1), .val (.ref en2), .val (.ref en0), .val (.int (2 : Int32)), .val (.ref en1), .val (.ref en2), .unset, .unset] [(.ref en2), (.ref o)])) (fun tgt_ kt => ?_) ?_
      · refine XS.aload X61.here hx rfl (hb hby at_274) rfl rfl ?_
        show Steps p.tables e below (T61.setTop (mkF m 276 #[.val (.int x0), .val (.int x1), .val (.int x2), .val (.int bits), .val (.int (3 : Int32)), .val (.int (0 : Int32)), .val (.ref o), .val (.ref en0), .val (.ref en1), .val (.ref en2), .val (.ref en0), .val (.int (2 : Int32)), .val (.ref en1), .val (.ref en2), .unset, .unset] [(.ref en1), (.ref en1)])) _
        refine Jvm.RoadKit.acmp (g := (mkF m 276 #[.val (.int x0), .val (.int x1), .val (.int x2), .val (.int bits), .val (.int (3 : Int32)), .val (.int (0 : Int32)), .val (.ref o), .val (.ref en0), .val (.ref en1), .val (.ref en2), .val (.ref en0), .val (.int (2 : Int32)), .val (.ref en1), .val (.ref en2), .unset, .unset] [(.ref en1), (.ref en1)])) X61 hx rfl rfl rfl (pc0 := 276) (pc' := 279) (same := true) rfl (hb hby at_276) rfl (decide_eq_true (congrArg Value.ref rfl)) (by decide) (by decide) ?_
        show Steps p.tables e below (T61.setTop (mkF m 279 #[.val (.int x0), .val (.int x1), .val (.int x2), .val (.int bits), .val (.int (3 : Int32)), .val (.int (0 : Int32)), .val (.ref o), .val (.ref en0), .val (.ref en1), .val (.ref en2), .val (.ref en0), .val (.int (2 : Int32)), .val (.ref en1), .val (.ref en2), .unset, .unset] [])) _
        refine XS.aload X61.here hx rfl (hb hby at_279) rfl rfl ?_
        show Steps p.tables e below (T61.setTop (mkF m 281 #[.val (.int x0), .val (.int x1), .val (.int x2), .val (.int bits), .val (.int (3 : Int32)), .val (.int (0 : Int32)), .val (.ref o), .val (.ref en0), .val (.ref en1), .val (.ref en2), .val (.ref en0), .val (.int (2 : Int32)), .val (.ref en1), .val (.ref en2), .unset, .unset] [(.ref o)])) _
        refine XS.aload X61.here hx rfl (hb hby at_281) rfl rfl ?_
        show Steps p.tables e below (T61.setTop (mkF m 283 #[.val (.int x0), .val (.int x1), .val (.int x2), .val (.int bits), .val (.int (3 : Int32)), .val (.int (0 : Int32)), .val (.ref o), .val (.ref en0), .val (.ref en1), .val (.ref en2), .val (.ref en0), .val (.int (2 : Int32)), .val (.ref en1), .val (.ref en2), .unset, .unset] [(.ref en2), (.ref o)])) _
        exact kt
      obtain ⟨cq62, kq62, q62a, q62b, q62c⟩ := isOf hZ e61 E_o
      obtain ⟨_, _, ⟨T62, L62, k62, n62⟩, -, X62, ⟨Lc62, hQ62, l62, y62, z62⟩, st62⟩ := X61.virtualBack hx (y := (⟨"com/example/round_table/roundtable/engine/OrderList", "next", "(Lcom/example/round_table/roundtable/engine/OrderList$Entry;)Lcom/example/round_table/roundtable/engine/OrderList$Entry;"⟩ : MethodName)) (z := (⟨"com/example/round_table/roundtable/engine/OrderList", "next", "(Lcom/example/round_table/roundtable/engine/OrderList$Entry;)Lcom/example/round_table/roundtable/engine/OrderList$Entry;"⟩ : MethodName)) hown (mvT hZ (hw _ (List.mem_of_getElem? (i := 60) rfl))) (mvT hZ (hw _ (List.mem_of_getElem? (i := 61) rfl))) (notFace_of_selects (args := #[]) (mvT hZ (hw _ (List.mem_of_getElem? (i := 63) rfl)))) (mvT hZ (hw _ (List.mem_of_getElem? (i := 63) rfl))) (mvT hZ (hw _ (List.mem_of_getElem? (i := 62) rfl))) (by decide) (backOf (W := 0) (rm9 l Z a0 hw [] o en2 .null rfl T57.heap n0 Z57 F_next_en2) hZ (hw _ (List.mem_of_getElem? (i := 64) rfl)) (hw _ (List.mem_of_getElem? (i := 3) rfl)) (by decide) (by decide)) q62a q62c (g := (mkF m 283 #[.val (.int x0), .val (.int x1), .val (.int x2), .val (.int bits), .val (.int (3 : Int32)), .val (.int (0 : Int32)), .val (.ref o), .val (.ref en0), .val (.ref en1), .val (.ref en2), .val (.ref en0), .val (.int (2 : Int32)), .val (.ref en1), .val (.ref en2), .unset, .unset] [(.ref en2), (.ref o)])) rfl (by rw [hml]; rfl) (Steps.refl _) (argsL := [(.ref en2)]) (rest := []) (lenOf pd_6 rfl) rfl (by show 2 * 0 + _ ≤ _; exact Nat.le_of_eq rfl) (hb hby at_283) (fun _ _ => ⟨rfl, e61, (by decide : 5 + 0 ≤ _), (by decide : 16 + 0 ≤ _)⟩)
      dsimp only [Pt.U, Pt.locs, Pt.cells, Pt.slots] at X62 l62 y62 z62 st62 hQ62
      subst l62 y62 z62
      obtain ⟨rfl, N62q, e62⟩ := hQ62
      have N62 := Fr.app N61 N62q
      refine RunsTo.of (T' := T62) (g' := (mkF m 286 #[.val (.int x0), .val (.int x1), .val (.int x2), .val (.int bits), .val (.int (3 : Int32)), .val (.int (0 : Int32)), .val (.ref o), .val (.ref en0), .val (.ref en1), .val (.ref en2), .val (.ref en0), .val (.int (2 : Int32)), .val (.ref en1), .val (.ref en2), .unset, .unset] [.null])) (fun _ kt => st62.trans kt) ?_
      refine RunsTo.of (T' := T62) (g' := (mkF m 301 #[.val (.int x0), .val (.int x1), .val (.int x2), .val (.int bits), .val (.int (3 : Int32)), .val (.int (0 : Int32)), .val (.ref o), .val (.ref en0), .val (.ref en1), .val (.ref en2), .val (.ref en0), .val (.int (2 : Int32)), .val (.ref en1), .val (.ref en2), .val (.int (1 : Int32)), .unset] [(.ref en0), .null, (.ref o)])) (fun tgt_ kt => ?_) ?_
      · refine XS.ifnonnullNo X62.here hx rfl (hb hby at_286) rfl ?_
        show Steps p.tables e below (T62.setTop (mkF m 289 #[.val (.int x0), .val (.int x1), .val (.int x2), .val (.int bits), .val (.int (3 : Int32)), .val (.int (0 : Int32)), .val (.ref o), .val (.ref en0), .val (.ref en1), .val (.ref en2), .val (.ref en0), .val (.int (2 : Int32)), .val (.ref en1), .val (.ref en2), .unset, .unset] [])) _
        refine XS.iconst X62.here hx rfl (hb hby at_289) ?_
        show Steps p.tables e below (T62.setTop (mkF m 290 #[.val (.int x0), .val (.int x1), .val (.int x2), .val (.int bits), .val (.int (3 : Int32)), .val (.int (0 : Int32)), .val (.ref o), .val (.ref en0), .val (.ref en1), .val (.ref en2), .val (.ref en0), .val (.int (2 : Int32)), .val (.ref en1), .val (.ref en2), .unset, .unset] [(.int (1 : Int32))])) _
        refine XS.goto X62.here hx rfl (pc0 := 290) (pc' := 294) rfl (hb hby at_290) (by decide) (by decide) ?_
        show Steps p.tables e below (T62.setTop (mkF m 294 #[.val (.int x0), .val (.int x1), .val (.int x2), .val (.int bits), .val (.int (3 : Int32)), .val (.int (0 : Int32)), .val (.ref o), .val (.ref en0), .val (.ref en1), .val (.ref en2), .val (.ref en0), .val (.int (2 : Int32)), .val (.ref en1), .val (.ref en2), .unset, .unset] [(.int (1 : Int32))])) _
        refine XS.istore X62.here hx rfl (hb hby at_294) rfl (l' := #[.val (.int x0), .val (.int x1), .val (.int x2), .val (.int bits), .val (.int (3 : Int32)), .val (.int (0 : Int32)), .val (.ref o), .val (.ref en0), .val (.ref en1), .val (.ref en2), .val (.ref en0), .val (.int (2 : Int32)), .val (.ref en1), .val (.ref en2), .val (.int (1 : Int32)), .unset]) rfl ?_
        show Steps p.tables e below (T62.setTop (mkF m 296 #[.val (.int x0), .val (.int x1), .val (.int x2), .val (.int bits), .val (.int (3 : Int32)), .val (.int (0 : Int32)), .val (.ref o), .val (.ref en0), .val (.ref en1), .val (.ref en2), .val (.ref en0), .val (.int (2 : Int32)), .val (.ref en1), .val (.ref en2), .val (.int (1 : Int32)), .unset] [])) _
        refine XS.aload X62.here hx rfl (hb hby at_296) rfl rfl ?_
        show Steps p.tables e below (T62.setTop (mkF m 298 #[.val (.int x0), .val (.int x1), .val (.int x2), .val (.int bits), .val (.int (3 : Int32)), .val (.int (0 : Int32)), .val (.ref o), .val (.ref en0), .val (.ref en1), .val (.ref en2), .val (.ref en0), .val (.int (2 : Int32)), .val (.ref en1), .val (.ref en2), .val (.int (1 : Int32)), .unset] [(.ref o)])) _
        refine XS.aconstNull X62.here hx rfl (hb hby at_298) ?_
        show Steps p.tables e below (T62.setTop (mkF m 299 #[.val (.int x0), .val (.int x1), .val (.int x2), .val (.int bits), .val (.int (3 : Int32)), .val (.int (0 : Int32)), .val (.ref o), .val (.ref en0), .val (.ref en1), .val (.ref en2), .val (.ref en0), .val (.int (2 : Int32)), .val (.ref en1), .val (.ref en2), .val (.int (1 : Int32)), .unset] [.null, (.ref o)])) _
        refine XS.aload X62.here hx rfl (hb hby at_299) rfl rfl ?_
        show Steps p.tables e below (T62.setTop (mkF m 301 #[.val (.int x0), .val (.int x1), .val (.int x2), .val (.int bits), .val (.int (3 : Int32)), .val (.int (0 : Int32)), .val (.ref o), .val (.ref en0), .val (.ref en1), .val (.ref en2), .val (.ref en0), .val (.int (2 : Int32)), .val (.ref en1), .val (.ref en2), .val (.int (1 : Int32)), .unset] [(.ref en0), .null, (.ref o)])) _
        exact kt
      obtain ⟨cq63, kq63, q63a, q63b, q63c⟩ := isOf hZ e62 E_o
      obtain ⟨_, _, ⟨T63, L63, k63, n63⟩, -, X63, ⟨Lc63, hQ63, l63, y63, z63⟩, st63⟩ := X62.virtualBack hx (y := (⟨"com/example/round_table/roundtable/engine/OrderList", "insertAfter", "(Lcom/example/round_table/roundtable/engine/OrderList$Entry;Lcom/example/round_table/roundtable/engine/OrderList$Entry;)V"⟩ : MethodName)) (z := (⟨"com/example/round_table/roundtable/engine/OrderList", "insertAfter", "(Lcom/example/round_table/roundtable/engine/OrderList$Entry;Lcom/example/round_table/roundtable/engine/OrderList$Entry;)V"⟩ : MethodName)) hown (mvT hZ (hw _ (List.mem_of_getElem? (i := 59) rfl))) (mvT hZ (hw _ (List.mem_of_getElem? (i := 38) rfl))) (notFace_of_selects (args := #[]) (mvT hZ (hw _ (List.mem_of_getElem? (i := 40) rfl)))) (mvT hZ (hw _ (List.mem_of_getElem? (i := 40) rfl))) (mvT hZ (hw _ (List.mem_of_getElem? (i := 39) rfl))) (by decide) (backOf (W := 0) (rm_insF l Z a0 hw [] o en0 hd en1 (.ref en2) bits eg lab_en1 lab_en0 (.ref en2) T57.heap n0 Z57 E_o g_o F_head_o F_last_o F_labelBits_o F_endGap_o E_hd g_hd F_label_hd F_previous_hd F_next_hd E_en1 g_en1 F_label_en1 F_previous_en1 F_next_en1 E_en0 g_en0 F_label_en0 F_previous_en0 F_next_en0 ne_o_hd ne_o_en0 ne_o_en1 ne_hd_en0 ne_hd_en1 (Ne.symm ne_en0_en1) (by omega)) hZ (hw _ (List.mem_of_getElem? (i := 41) rfl)) (hw _ (List.mem_of_getElem? (i := 3) rfl)) (by decide) (by decide)) q63a q63c (g := (mkF m 301 #[.val (.int x0), .val (.int x1), .val (.int x2), .val (.int bits), .val (.int (3 : Int32)), .val (.int (0 : Int32)), .val (.ref o), .val (.ref en0), .val (.ref en1), .val (.ref en2), .val (.ref en0), .val (.int (2 : Int32)), .val (.ref en1), .val (.ref en2), .val (.int (1 : Int32)), .unset] [(.ref en0), .null, (.ref o)])) rfl (by rw [hml]; rfl) (Steps.refl _) (argsL := [.null, (.ref en0)]) (rest := []) (lenOf pd_3 rfl) rfl (by show 2 * 0 + _ ≤ _; exact Nat.le_of_eq rfl) (hb hby at_301) (fun _ _ => ⟨rfl, e62, (by decide : 5 + 0 ≤ _), (by decide : 16 + 0 ≤ _)⟩)
      dsimp only [Pt.U, Pt.locs, Pt.cells, Pt.slots] at X63 l63 y63 z63 st63 hQ63
      subst l63 y63 z63
      obtain ⟨rfl, N63q, K63, F_next_en0⟩ := hQ63
      have N63 := Fr.app N62 N63q
      have Z63 : n0 ≤ T63.heap.size := Nat.le_trans Z57 K63.1
      have E_o := E_o.keep K63
      have E_hd := E_hd.keep K63
      have E_en0 := E_en0.keep K63
      have E_en1 := E_en1.keep K63
      have E_en2 := E_en2.keep K63
      have F_label_en2 := F_label_en2.keep K63 (ninS (Ne.symm ne_o_en2) (ninS (Ne.symm ne_hd_en2) (ninS (Ne.symm ne_en1_en2) (ninS (Ne.symm ne_en0_en2) nin0))))
      have F_previous_en2 := F_previous_en2.keep K63 (ninS (Ne.symm ne_o_en2) (ninS (Ne.symm ne_hd_en2) (ninS (Ne.symm ne_en1_en2) (ninS (Ne.symm ne_en0_en2) nin0))))
      have F_next_en2 := F_next_en2.keep K63 (ninS (Ne.symm ne_o_en2) (ninS (Ne.symm ne_hd_en2) (ninS (Ne.symm ne_en1_en2) (ninS (Ne.symm ne_en0_en2) nin0))))
      refine RunsTo.of (T' := T63) (g' := (mkF m 304 #[.val (.int x0), .val (.int x1), .val (.int x2), .val (.int bits), .val (.int (3 : Int32)), .val (.int (0 : Int32)), .val (.ref o), .val (.ref en0), .val (.ref en1), .val (.ref en2), .val (.ref en0), .val (.int (2 : Int32)), .val (.ref en1), .val (.ref en2), .val (.int (1 : Int32)), .unset] [])) (fun _ kt => st63.trans kt) ?_
      refine RunsTo.of (T' := T63) (g' := (mkF m 326 #[.val (.int x0), .val (.int x1), .val (.int x2), .val (.int bits), .val (.int (3 : Int32)), .val (.int (0 : Int32)), .val (.ref o), .val (.ref en0), .val (.ref en1), .val (.ref en2), .val (.ref en0), .val (.int (2 : Int32)), .val (.ref en1), .val (.ref en2), .val (.int (1 : Int32)), .val (.ref en1)] [(.ref en0), (.ref o)])) (fun tgt_ kt => ?_) ?_
      · refine XS.iload X63.here hx rfl (hb hby at_304) rfl ?_
        show Steps p.tables e below (T63.setTop (mkF m 306 #[.val (.int x0), .val (.int x1), .val (.int x2), .val (.int bits), .val (.int (3 : Int32)), .val (.int (0 : Int32)), .val (.ref o), .val (.ref en0), .val (.ref en1), .val (.ref en2), .val (.ref en0), .val (.int (2 : Int32)), .val (.ref en1), .val (.ref en2), .val (.int (1 : Int32)), .unset] [(.int (2 : Int32))])) _
        refine XS.ifYes X63.here hx rfl (pc0 := 306) (pc' := 313) rfl (hb hby at_306) rfl ((if0 _ _).trans (feq (by decide)).2) (by decide) (by decide) ?_
        show Steps p.tables e below (T63.setTop (mkF m 313 #[.val (.int x0), .val (.int x1), .val (.int x2), .val (.int bits), .val (.int (3 : Int32)), .val (.int (0 : Int32)), .val (.ref o), .val (.ref en0), .val (.ref en1), .val (.ref en2), .val (.ref en0), .val (.int (2 : Int32)), .val (.ref en1), .val (.ref en2), .val (.int (1 : Int32)), .unset] [])) _
        refine XS.aload X63.here hx rfl (hb hby at_313) rfl rfl ?_
        show Steps p.tables e below (T63.setTop (mkF m 315 #[.val (.int x0), .val (.int x1), .val (.int x2), .val (.int bits), .val (.int (3 : Int32)), .val (.int (0 : Int32)), .val (.ref o), .val (.ref en0), .val (.ref en1), .val (.ref en2), .val (.ref en0), .val (.int (2 : Int32)), .val (.ref en1), .val (.ref en2), .val (.int (1 : Int32)), .unset] [(.ref en1)])) _
        refine XS.astore X63.here hx rfl (hb hby at_315) rfl rfl (l' := #[.val (.int x0), .val (.int x1), .val (.int x2), .val (.int bits), .val (.int (3 : Int32)), .val (.int (0 : Int32)), .val (.ref o), .val (.ref en0), .val (.ref en1), .val (.ref en2), .val (.ref en0), .val (.int (2 : Int32)), .val (.ref en1), .val (.ref en2), .val (.int (1 : Int32)), .val (.ref en1)]) rfl ?_
        show Steps p.tables e below (T63.setTop (mkF m 317 #[.val (.int x0), .val (.int x1), .val (.int x2), .val (.int bits), .val (.int (3 : Int32)), .val (.int (0 : Int32)), .val (.ref o), .val (.ref en0), .val (.ref en1), .val (.ref en2), .val (.ref en0), .val (.int (2 : Int32)), .val (.ref en1), .val (.ref en2), .val (.int (1 : Int32)), .val (.ref en1)] [])) _
        refine XS.iload X63.here hx rfl (hb hby at_317) rfl ?_
        show Steps p.tables e below (T63.setTop (mkF m 319 #[.val (.int x0), .val (.int x1), .val (.int x2), .val (.int bits), .val (.int (3 : Int32)), .val (.int (0 : Int32)), .val (.ref o), .val (.ref en0), .val (.ref en1), .val (.ref en2), .val (.ref en0), .val (.int (2 : Int32)), .val (.ref en1), .val (.ref en2), .val (.int (1 : Int32)), .val (.ref en1)] [(.int (1 : Int32))])) _
        refine XS.ifNo X63.here hx rfl (hb hby at_319) rfl ((if0 _ _).trans (feq (by decide)).1) ?_
        show Steps p.tables e below (T63.setTop (mkF m 322 #[.val (.int x0), .val (.int x1), .val (.int x2), .val (.int bits), .val (.int (3 : Int32)), .val (.int (0 : Int32)), .val (.ref o), .val (.ref en0), .val (.ref en1), .val (.ref en2), .val (.ref en0), .val (.int (2 : Int32)), .val (.ref en1), .val (.ref en2), .val (.int (1 : Int32)), .val (.ref en1)] [])) _
        refine XS.aload X63.here hx rfl (hb hby at_322) rfl rfl ?_
        show Steps p.tables e below (T63.setTop (mkF m 324 #[.val (.int x0), .val (.int x1), .val (.int x2), .val (.int bits), .val (.int (3 : Int32)), .val (.int (0 : Int32)), .val (.ref o), .val (.ref en0), .val (.ref en1), .val (.ref en2), .val (.ref en0), .val (.int (2 : Int32)), .val (.ref en1), .val (.ref en2), .val (.int (1 : Int32)), .val (.ref en1)] [(.ref o)])) _
        refine XS.aload X63.here hx rfl (hb hby at_324) rfl rfl ?_
        show Steps p.tables e below (T63.setTop (mkF m 326 #[.val (.int x0), .val (.int x1), .val (.int x2), .val (.int bits), .val (.int (3 : Int32)), .val (.int (0 : Int32)), .val (.ref o), .val (.ref en0), .val (.ref en1), .val (.ref en2), .val (.ref en0), .val (.int (2 : Int32)), .val (.ref en1), .val (.ref en2), .val (.int (1 : Int32)), .val (.ref en1)] [(.ref en0), (.ref o)])) _
        exact kt
      obtain ⟨cq64, kq64, q64a, q64b, q64c⟩ := isOf hZ rfl E_o
      obtain ⟨_, _, ⟨T64, L64, k64, n64⟩, -, X64, ⟨Lc64, hQ64, l64, y64, z64⟩, st64⟩ := X63.virtualBack hx (y := (⟨"com/example/round_table/roundtable/engine/OrderList", "next", "(Lcom/example/round_table/roundtable/engine/OrderList$Entry;)Lcom/example/round_table/roundtable/engine/OrderList$Entry;"⟩ : MethodName)) (z := (⟨"com/example/round_table/roundtable/engine/OrderList", "next", "(Lcom/example/round_table/roundtable/engine/OrderList$Entry;)Lcom/example/round_table/roundtable/engine/OrderList$Entry;"⟩ : MethodName)) hown (mvT hZ (hw _ (List.mem_of_getElem? (i := 60) rfl))) (mvT hZ (hw _ (List.mem_of_getElem? (i := 61) rfl))) (notFace_of_selects (args := #[]) (mvT hZ (hw _ (List.mem_of_getElem? (i := 63) rfl)))) (mvT hZ (hw _ (List.mem_of_getElem? (i := 63) rfl))) (mvT hZ (hw _ (List.mem_of_getElem? (i := 62) rfl))) (by decide) (backOf (W := 0) (rm9 l Z a0 hw [] o en0 (.ref en1) rfl T63.heap n0 Z63 F_next_en0) hZ (hw _ (List.mem_of_getElem? (i := 64) rfl)) (hw _ (List.mem_of_getElem? (i := 3) rfl)) (by decide) (by decide)) q64a q64c (g := (mkF m 326 #[.val (.int x0), .val (.int x1), .val (.int x2), .val (.int bits), .val (.int (3 : Int32)), .val (.int (0 : Int32)), .val (.ref o), .val (.ref en0), .val (.ref en1), .val (.ref en2), .val (.ref en0), .val (.int (2 : Int32)), .val (.ref en1), .val (.ref en2), .val (.int (1 : Int32)), .val (.ref en1)] [(.ref en0), (.ref o)])) rfl (by rw [hml]; rfl) (Steps.refl _) (argsL := [(.ref en0)]) (rest := []) (lenOf pd_6 rfl) rfl (by show 2 * 0 + _ ≤ _; exact Nat.le_of_eq rfl) (hb hby at_326) (fun _ _ => ⟨rfl, rfl, (by decide : 5 + 0 ≤ _), (by decide : 16 + 0 ≤ _)⟩)
      dsimp only [Pt.U, Pt.locs, Pt.cells, Pt.slots] at X64 l64 y64 z64 st64 hQ64
      subst l64 y64 z64
      obtain ⟨rfl, N64q, e64⟩ := hQ64
      have N64 := Fr.app N63 N64q
      refine RunsTo.of (T' := T64) (g' := (mkF m 329 #[.val (.int x0), .val (.int x1), .val (.int x2), .val (.int bits), .val (.int (3 : Int32)), .val (.int (0 : Int32)), .val (.ref o), .val (.ref en0), .val (.ref en1), .val (.ref en2), .val (.ref en0), .val (.int (2 : Int32)), .val (.ref en1), .val (.ref en2), .val (.int (1 : Int32)), .val (.ref en1)] [(.ref en1)])) (fun _ kt => st64.trans kt) ?_
      refine RunsTo.of (T' := T64) (g' := (mkF m 343 #[.val (.int x0), .val (.int x1), .val (.int x2), .val (.int bits), .val (.int (3 : Int32)), .val (.int (0 : Int32)), .val (.ref o), .val (.ref en0), .val (.ref en1), .val (.ref en2), .val (.ref en0), .val (.int (2 : Int32)), .val (.ref en1), .val (.ref en2), .val (.int (1 : Int32)), .val (.ref en1)] [(.int (1 : Int32))])) (fun tgt_ kt => ?_) ?_
      · refine XS.aload X64.here hx rfl (hb hby at_329) rfl rfl ?_
        show Steps p.tables e below (T64.setTop (mkF m 331 #[.val (.int x0), .val (.int x1), .val (.int x2), .val (.int bits), .val (.int (3 : Int32)), .val (.int (0 : Int32)), .val (.ref o), .val (.ref en0), .val (.ref en1), .val (.ref en2), .val (.ref en0), .val (.int (2 : Int32)), .val (.ref en1), .val (.ref en2), .val (.int (1 : Int32)), .val (.ref en1)] [(.ref en1), (.ref en1)])) _
        refine Jvm.RoadKit.acmp (g := (mkF m 331 #[.val (.int x0), .val (.int x1), .val (.int x2), .val (.int bits), .val (.int (3 : Int32)), .val (.int (0 : Int32)), .val (.ref o), .val (.ref en0), .val (.ref en1), .val (.ref en2), .val (.ref en0), .val (.int (2 : Int32)), .val (.ref en1), .val (.ref en2), .val (.int (1 : Int32)), .val (.ref en1)] [(.ref en1), (.ref en1)])) X64 hx rfl rfl rfl (pc0 := 331) (pc' := 334) (same := true) rfl (hb hby at_331) rfl (decide_eq_true (congrArg Value.ref rfl)) (by decide) (by decide) ?_
        show Steps p.tables e below (T64.setTop (mkF m 334 #[.val (.int x0), .val (.int x1), .val (.int x2), .val (.int bits), .val (.int (3 : Int32)), .val (.int (0 : Int32)), .val (.ref o), .val (.ref en0), .val (.ref en1), .val (.ref en2), .val (.ref en0), .val (.int (2 : Int32)), .val (.ref en1), .val (.ref en2), .val (.int (1 : Int32)), .val (.ref en1)] [])) _
        refine XS.iconst X64.here hx rfl (hb hby at_334) ?_
        show Steps p.tables e below (T64.setTop (mkF m 335 #[.val (.int x0), .val (.int x1), .val (.int x2), .val (.int bits), .val (.int (3 : Int32)), .val (.int (0 : Int32)), .val (.ref o), .val (.ref en0), .val (.ref en1), .val (.ref en2), .val (.ref en0), .val (.int (2 : Int32)), .val (.ref en1), .val (.ref en2), .val (.int (1 : Int32)), .val (.ref en1)] [(.int (1 : Int32))])) _
        refine XS.goto X64.here hx rfl (pc0 := 335) (pc' := 339) rfl (hb hby at_335) (by decide) (by decide) ?_
        show Steps p.tables e below (T64.setTop (mkF m 339 #[.val (.int x0), .val (.int x1), .val (.int x2), .val (.int bits), .val (.int (3 : Int32)), .val (.int (0 : Int32)), .val (.ref o), .val (.ref en0), .val (.ref en1), .val (.ref en2), .val (.ref en0), .val (.int (2 : Int32)), .val (.ref en1), .val (.ref en2), .val (.int (1 : Int32)), .val (.ref en1)] [(.int (1 : Int32))])) _
        refine XS.istore X64.here hx rfl (hb hby at_339) rfl (l' := #[.val (.int x0), .val (.int x1), .val (.int x2), .val (.int bits), .val (.int (3 : Int32)), .val (.int (0 : Int32)), .val (.ref o), .val (.ref en0), .val (.ref en1), .val (.ref en2), .val (.ref en0), .val (.int (2 : Int32)), .val (.ref en1), .val (.ref en2), .val (.int (1 : Int32)), .val (.ref en1)]) rfl ?_
        show Steps p.tables e below (T64.setTop (mkF m 341 #[.val (.int x0), .val (.int x1), .val (.int x2), .val (.int bits), .val (.int (3 : Int32)), .val (.int (0 : Int32)), .val (.ref o), .val (.ref en0), .val (.ref en1), .val (.ref en2), .val (.ref en0), .val (.int (2 : Int32)), .val (.ref en1), .val (.ref en2), .val (.int (1 : Int32)), .val (.ref en1)] [])) _
        refine XS.iload X64.here hx rfl (hb hby at_341) rfl ?_
        show Steps p.tables e below (T64.setTop (mkF m 343 #[.val (.int x0), .val (.int x1), .val (.int x2), .val (.int bits), .val (.int (3 : Int32)), .val (.int (0 : Int32)), .val (.ref o), .val (.ref en0), .val (.ref en1), .val (.ref en2), .val (.ref en0), .val (.int (2 : Int32)), .val (.ref en1), .val (.ref en2), .val (.int (1 : Int32)), .val (.ref en1)] [(.int (1 : Int32))])) _
        exact kt
      refine RunsTo.retN X64 hx (t := .boolean) Bd.returns (by simp) Bd.notSynchronized (hb hby at_343) ?_ (by decide) (by decide)
      rw [e64]
      exact ⟨rfl, N64⟩
    · obtain ⟨T65, h65, X65, e65, E65, A65, D65, -, st65⟩ := newO X0 hx hZ hown (hw _ (List.mem_of_getElem? (i := 1) rfl)) (hw _ (List.mem_of_getElem? (i := 2) rfl)) (hw _ (List.mem_of_getElem? (i := 3) rfl)) e0 (g := (mkF m 29 #[.val (.int x0), .val (.int x1), .val (.int x2), .val (.int bits), .val (.int (3 : Int32)), .val (.int (1 : Int32)), .unset, .unset, .unset, .unset, .unset, .unset, .unset, .unset, .unset, .unset] [])) rfl (hb hby at_29) (by decide) (by decide)
      obtain ⟨o, g65⟩ : ∃ z, z = h0.size := ⟨_, rfl⟩
      rw [← g65] at A65 D65 st65
      have Z65 : n0 ≤ h65.size := Nat.le_trans Z0 E65.1
      have g_o : n0 ≤ o := Nat.le_trans Z0 (Nat.le_of_eq g65.symm)
      have F_head_o : Fld Z h65 o "com/example/round_table/roundtable/engine/OrderList" "head" "Lcom/example/round_table/roundtable/engine/OrderList$Entry;" .null := D65 (Or.inr (hw _ (List.mem_of_getElem? (i := 18) rfl))) (ty := (.object "com/example/round_table/roundtable/engine/OrderList$Entry")) (by decide)
      have F_last_o : Fld Z h65 o "com/example/round_table/roundtable/engine/OrderList" "last" "Lcom/example/round_table/roundtable/engine/OrderList$Entry;" .null := D65 (Or.inl (hw _ (List.mem_of_getElem? (i := 20) rfl))) (ty := (.object "com/example/round_table/roundtable/engine/OrderList$Entry")) (by decide)
      have F_labelBits_o : Fld Z h65 o "com/example/round_table/roundtable/engine/OrderList" "labelBits" "I" (.int (0 : Int32)) := D65 (Or.inr (hw _ (List.mem_of_getElem? (i := 22) rfl))) (ty := .int) (by decide)
      have F_endGap_o : Fld Z h65 o "com/example/round_table/roundtable/engine/OrderList" "endGap" "J" (.long (0 : Int64)) := D65 (Or.inr (hw _ (List.mem_of_getElem? (i := 24) rfl))) (ty := .long) (by decide)
      have E_o : Exa Z h65 o "com/example/round_table/roundtable/engine/OrderList" := A65
      refine RunsTo.of (T' := T65) (g' := (mkF m 32 #[.val (.int x0), .val (.int x1), .val (.int x2), .val (.int bits), .val (.int (3 : Int32)), .val (.int (1 : Int32)), .unset, .unset, .unset, .unset, .unset, .unset, .unset, .unset, .unset, .unset] [(.ref o)])) st65 ?_
      have lt_o := E_o.lt
      refine RunsTo.of (T' := T65) (g' := (mkF m 34 #[.val (.int x0), .val (.int x1), .val (.int x2), .val (.int bits), .val (.int (3 : Int32)), .val (.int (1 : Int32)), .unset, .unset, .unset, .unset, .unset, .unset, .unset, .unset, .unset, .unset] [(.int bits), (.ref o), (.ref o)])) (fun tgt_ kt => ?_) ?_
      · refine XS.dup X65.here hx rfl (hb hby at_32) rfl rfl ?_
        show Steps p.tables e below (T65.setTop (mkF m 33 #[.val (.int x0), .val (.int x1), .val (.int x2), .val (.int bits), .val (.int (3 : Int32)), .val (.int (1 : Int32)), .unset, .unset, .unset, .unset, .unset, .unset, .unset, .unset, .unset, .unset] [(.ref o), (.ref o)])) _
        refine XS.iloadN X65.here hx rfl (hb hby at_33) rfl ?_
        show Steps p.tables e below (T65.setTop (mkF m 34 #[.val (.int x0), .val (.int x1), .val (.int x2), .val (.int bits), .val (.int (3 : Int32)), .val (.int (1 : Int32)), .unset, .unset, .unset, .unset, .unset, .unset, .unset, .unset, .unset, .unset] [(.int bits), (.ref o), (.ref o)])) _
        exact kt
      obtain ⟨_, _, ⟨T66, L66, k66, n66⟩, -, X66, ⟨Lc66, hQ66, l66, y66, z66⟩, st66⟩ := X65.specialBack hx (y := (⟨"com/example/round_table/roundtable/engine/OrderList", "<init>", "(I)V"⟩ : MethodName)) rfl hown (mvT hZ (hw _ (List.mem_of_getElem? (i := 4) rfl))) (mvT hZ (hw _ (List.mem_of_getElem? (i := 5) rfl))) (mvT hZ (hw _ (List.mem_of_getElem? (i := 6) rfl))) (by decide) (backOf (W := 1) (rm1 l Z a0 hw [] o bits h65 n0 Z65 E_o g_o F_head_o F_last_o F_labelBits_o F_endGap_o hbits) hZ (hw _ (List.mem_of_getElem? (i := 6) rfl)) (hw _ (List.mem_of_getElem? (i := 3) rfl)) (by decide) (by decide)) (g := (mkF m 34 #[.val (.int x0), .val (.int x1), .val (.int x2), .val (.int bits), .val (.int (3 : Int32)), .val (.int (1 : Int32)), .unset, .unset, .unset, .unset, .unset, .unset, .unset, .unset, .unset, .unset] [(.int bits), (.ref o), (.ref o)])) rfl (by rw [hml]; rfl) (Steps.refl _) (a := o) (argsL := [(.int bits)]) (rest := [(.ref o)]) (lenOf pd_4 rfl) rfl (by show 2 * 0 + _ ≤ _; exact Nat.le_of_eq rfl) (hb hby at_34) (fun _ _ => ⟨rfl, e65, (by decide : 1 + 1 ≤ _), (by decide : 4 + 3 ≤ _)⟩)
      dsimp only [Pt.U, Pt.locs, Pt.cells, Pt.slots] at X66 l66 y66 z66 st66 hQ66
      subst l66 y66 z66
      obtain ⟨hd, rfl, N66q, g_hd, sz_hd, K66, F_head_o, F_last_o, F_labelBits_o, F_endGap_o, E_hd, F_label_hd, F_previous_hd, F_next_hd⟩ := hQ66
      have N66 := Fr.app N0 N66q
      have Z66 : n0 ≤ T66.heap.size := Nat.le_trans Z65 K66.1
      have E_o := E_o.keep K66
      rw [← heg'] at F_endGap_o
      have ne_o_hd : o ≠ hd := Nat.ne_of_lt (Nat.lt_of_lt_of_le lt_o sz_hd)
      refine RunsTo.of (T' := T66) (g' := (mkF m 37 #[.val (.int x0), .val (.int x1), .val (.int x2), .val (.int bits), .val (.int (3 : Int32)), .val (.int (1 : Int32)), .unset, .unset, .unset, .unset, .unset, .unset, .unset, .unset, .unset, .unset] [(.ref o)])) (fun _ kt => st66.trans kt) ?_
      refine RunsTo.of (T' := T66) (g' := (mkF m 39 #[.val (.int x0), .val (.int x1), .val (.int x2), .val (.int bits), .val (.int (3 : Int32)), .val (.int (1 : Int32)), .val (.ref o), .unset, .unset, .unset, .unset, .unset, .unset, .unset, .unset, .unset] [])) (fun tgt_ kt => ?_) ?_
      · refine XS.astore X66.here hx rfl (hb hby at_37) rfl rfl (l' := #[.val (.int x0), .val (.int x1), .val (.int x2), .val (.int bits), .val (.int (3 : Int32)), .val (.int (1 : Int32)), .val (.ref o), .unset, .unset, .unset, .unset, .unset, .unset, .unset, .unset, .unset]) rfl ?_
        show Steps p.tables e below (T66.setTop (mkF m 39 #[.val (.int x0), .val (.int x1), .val (.int x2), .val (.int bits), .val (.int (3 : Int32)), .val (.int (1 : Int32)), .val (.ref o), .unset, .unset, .unset, .unset, .unset, .unset, .unset, .unset, .unset] [])) _
        exact kt
      obtain ⟨T67, h67, X67, e67, E67, A67, D67, -, st67⟩ := newO X66 hx hZ hown (hw _ (List.mem_of_getElem? (i := 25) rfl)) (hw _ (List.mem_of_getElem? (i := 11) rfl)) (hw _ (List.mem_of_getElem? (i := 12) rfl)) rfl (g := (mkF m 39 #[.val (.int x0), .val (.int x1), .val (.int x2), .val (.int bits), .val (.int (3 : Int32)), .val (.int (1 : Int32)), .val (.ref o), .unset, .unset, .unset, .unset, .unset, .unset, .unset, .unset, .unset] [])) rfl (hb hby at_39) (by decide) (by decide)
      obtain ⟨en0, g67⟩ : ∃ z, z = T66.heap.size := ⟨_, rfl⟩
      rw [← g67] at A67 D67 st67
      have Z67 : n0 ≤ h67.size := Nat.le_trans Z66 E67.1
      have g_en0 : n0 ≤ en0 := Nat.le_trans Z66 (Nat.le_of_eq g67.symm)
      have ne_o_en0 : o ≠ en0 := Nat.ne_of_lt (Nat.lt_of_lt_of_le E_o.lt (Nat.le_of_eq g67.symm))
      have ne_hd_en0 : hd ≠ en0 := Nat.ne_of_lt (Nat.lt_of_lt_of_le F_label_hd.lt (Nat.le_of_eq g67.symm))
      have E_o := E_o.ext E67
      have F_head_o := F_head_o.ext E67
      have F_last_o := F_last_o.ext E67
      have F_labelBits_o := F_labelBits_o.ext E67
      have F_endGap_o := F_endGap_o.ext E67
      have F_label_hd := F_label_hd.ext E67
      have F_previous_hd := F_previous_hd.ext E67
      have F_next_hd := F_next_hd.ext E67
      have E_hd := E_hd.ext E67
      have F_next_en0 : Fld Z h67 en0 "com/example/round_table/roundtable/engine/OrderList$Entry" "next" "Lcom/example/round_table/roundtable/engine/OrderList$Entry;" .null := D67 (Or.inl (hw _ (List.mem_of_getElem? (i := 43) rfl))) (ty := (.object "com/example/round_table/roundtable/engine/OrderList$Entry")) (by decide)
      have F_previous_en0 : Fld Z h67 en0 "com/example/round_table/roundtable/engine/OrderList$Entry" "previous" "Lcom/example/round_table/roundtable/engine/OrderList$Entry;" .null := D67 (Or.inl (hw _ (List.mem_of_getElem? (i := 45) rfl))) (ty := (.object "com/example/round_table/roundtable/engine/OrderList$Entry")) (by decide)
      have F_label_en0 : Fld Z h67 en0 "com/example/round_table/roundtable/engine/OrderList$Entry" "label" "J" (.long (0 : Int64)) := D67 (Or.inl (hw _ (List.mem_of_getElem? (i := 47) rfl))) (ty := .long) (by decide)
      have E_en0 : Exa Z h67 en0 "com/example/round_table/roundtable/engine/OrderList$Entry" := A67
      refine RunsTo.of (T' := T67) (g' := (mkF m 42 #[.val (.int x0), .val (.int x1), .val (.int x2), .val (.int bits), .val (.int (3 : Int32)), .val (.int (1 : Int32)), .val (.ref o), .unset, .unset, .unset, .unset, .unset, .unset, .unset, .unset, .unset] [(.ref en0)])) st67 ?_
      refine RunsTo.of (T' := T67) (g' := (mkF m 43 #[.val (.int x0), .val (.int x1), .val (.int x2), .val (.int bits), .val (.int (3 : Int32)), .val (.int (1 : Int32)), .val (.ref o), .unset, .unset, .unset, .unset, .unset, .unset, .unset, .unset, .unset] [(.ref en0), (.ref en0)])) (fun tgt_ kt => ?_) ?_
      · refine XS.dup X67.here hx rfl (hb hby at_42) rfl rfl ?_
        show Steps p.tables e below (T67.setTop (mkF m 43 #[.val (.int x0), .val (.int x1), .val (.int x2), .val (.int bits), .val (.int (3 : Int32)), .val (.int (1 : Int32)), .val (.ref o), .unset, .unset, .unset, .unset, .unset, .unset, .unset, .unset, .unset] [(.ref en0), (.ref en0)])) _
        exact kt
      obtain ⟨_, _, ⟨T68, L68, k68, n68⟩, -, X68, ⟨Lc68, hQ68, l68, y68, z68⟩, st68⟩ := X67.specialBack hx (y := (⟨"com/example/round_table/roundtable/engine/OrderList$Entry", "<init>", "()V"⟩ : MethodName)) rfl hown (mvT hZ (hw _ (List.mem_of_getElem? (i := 26) rfl))) (mvT hZ (hw _ (List.mem_of_getElem? (i := 14) rfl))) (mvT hZ (hw _ (List.mem_of_getElem? (i := 15) rfl))) (by decide) (backOf (W := 1) (rm3 l Z a0 hw [] en0 h67 n0 Z67 ) hZ (hw _ (List.mem_of_getElem? (i := 15) rfl)) (hw _ (List.mem_of_getElem? (i := 12) rfl)) (by decide) (by decide)) (g := (mkF m 43 #[.val (.int x0), .val (.int x1), .val (.int x2), .val (.int bits), .val (.int (3 : Int32)), .val (.int (1 : Int32)), .val (.ref o), .unset, .unset, .unset, .unset, .unset, .unset, .unset, .unset, .unset] [(.ref en0), (.ref en0)])) rfl (by rw [hml]; rfl) (Steps.refl _) (a := en0) (argsL := []) (rest := [(.ref en0)]) (lenOf pd_0 rfl) rfl (by show 2 * 0 + _ ≤ _; exact Nat.le_of_eq rfl) (hb hby at_43) (fun _ _ => ⟨rfl, e67, (by decide : 3 + 0 ≤ _), (by decide : 10 + 0 ≤ _)⟩)
      dsimp only [Pt.U, Pt.locs, Pt.cells, Pt.slots] at X68 l68 y68 z68 st68 hQ68
      subst l68 y68 z68
      obtain ⟨rfl, N68q, e68⟩ := hQ68
      have N68 := Fr.app N66 N68q
      refine RunsTo.of (T' := T68) (g' := (mkF m 46 #[.val (.int x0), .val (.int x1), .val (.int x2), .val (.int bits), .val (.int (3 : Int32)), .val (.int (1 : Int32)), .val (.ref o), .unset, .unset, .unset, .unset, .unset, .unset, .unset, .unset, .unset] [(.ref en0)])) (fun _ kt => st68.trans kt) ?_
      refine RunsTo.of (T' := T68) (g' := (mkF m 48 #[.val (.int x0), .val (.int x1), .val (.int x2), .val (.int bits), .val (.int (3 : Int32)), .val (.int (1 : Int32)), .val (.ref o), .val (.ref en0), .unset, .unset, .unset, .unset, .unset, .unset, .unset, .unset] [])) (fun tgt_ kt => ?_) ?_
      · refine XS.astore X68.here hx rfl (hb hby at_46) rfl rfl (l' := #[.val (.int x0), .val (.int x1), .val (.int x2), .val (.int bits), .val (.int (3 : Int32)), .val (.int (1 : Int32)), .val (.ref o), .val (.ref en0), .unset, .unset, .unset, .unset, .unset, .unset, .unset, .unset]) rfl ?_
        show Steps p.tables e below (T68.setTop (mkF m 48 #[.val (.int x0), .val (.int x1), .val (.int x2), .val (.int bits), .val (.int (3 : Int32)), .val (.int (1 : Int32)), .val (.ref o), .val (.ref en0), .unset, .unset, .unset, .unset, .unset, .unset, .unset, .unset] [])) _
        exact kt
      obtain ⟨T69, h69, X69, e69, E69, A69, D69, -, st69⟩ := newO X68 hx hZ hown (hw _ (List.mem_of_getElem? (i := 25) rfl)) (hw _ (List.mem_of_getElem? (i := 11) rfl)) (hw _ (List.mem_of_getElem? (i := 12) rfl)) e68 (g := (mkF m 48 #[.val (.int x0), .val (.int x1), .val (.int x2), .val (.int bits), .val (.int (3 : Int32)), .val (.int (1 : Int32)), .val (.ref o), .val (.ref en0), .unset, .unset, .unset, .unset, .unset, .unset, .unset, .unset] [])) rfl (hb hby at_48) (by decide) (by decide)
      obtain ⟨en1, g69⟩ : ∃ z, z = h67.size := ⟨_, rfl⟩
      rw [← g69] at A69 D69 st69
      have Z69 : n0 ≤ h69.size := Nat.le_trans Z67 E69.1
      have g_en1 : n0 ≤ en1 := Nat.le_trans Z67 (Nat.le_of_eq g69.symm)
      have ne_o_en1 : o ≠ en1 := Nat.ne_of_lt (Nat.lt_of_lt_of_le E_o.lt (Nat.le_of_eq g69.symm))
      have ne_hd_en1 : hd ≠ en1 := Nat.ne_of_lt (Nat.lt_of_lt_of_le F_label_hd.lt (Nat.le_of_eq g69.symm))
      have ne_en0_en1 : en0 ≠ en1 := Nat.ne_of_lt (Nat.lt_of_lt_of_le F_next_en0.lt (Nat.le_of_eq g69.symm))
      have E_o := E_o.ext E69
      have F_head_o := F_head_o.ext E69
      have F_last_o := F_last_o.ext E69
      have F_labelBits_o := F_labelBits_o.ext E69
      have F_endGap_o := F_endGap_o.ext E69
      have F_label_hd := F_label_hd.ext E69
      have F_previous_hd := F_previous_hd.ext E69
      have F_next_hd := F_next_hd.ext E69
      have E_hd := E_hd.ext E69
      have F_next_en0 := F_next_en0.ext E69
      have F_previous_en0 := F_previous_en0.ext E69
      have F_label_en0 := F_label_en0.ext E69
      have E_en0 := E_en0.ext E69
      have F_next_en1 : Fld Z h69 en1 "com/example/round_table/roundtable/engine/OrderList$Entry" "next" "Lcom/example/round_table/roundtable/engine/OrderList$Entry;" .null := D69 (Or.inl (hw _ (List.mem_of_getElem? (i := 43) rfl))) (ty := (.object "com/example/round_table/roundtable/engine/OrderList$Entry")) (by decide)
      have F_previous_en1 : Fld Z h69 en1 "com/example/round_table/roundtable/engine/OrderList$Entry" "previous" "Lcom/example/round_table/roundtable/engine/OrderList$Entry;" .null := D69 (Or.inl (hw _ (List.mem_of_getElem? (i := 45) rfl))) (ty := (.object "com/example/round_table/roundtable/engine/OrderList$Entry")) (by decide)
      have F_label_en1 : Fld Z h69 en1 "com/example/round_table/roundtable/engine/OrderList$Entry" "label" "J" (.long (0 : Int64)) := D69 (Or.inl (hw _ (List.mem_of_getElem? (i := 47) rfl))) (ty := .long) (by decide)
      have E_en1 : Exa Z h69 en1 "com/example/round_table/roundtable/engine/OrderList$Entry" := A69
      refine RunsTo.of (T' := T69) (g' := (mkF m 51 #[.val (.int x0), .val (.int x1), .val (.int x2), .val (.int bits), .val (.int (3 : Int32)), .val (.int (1 : Int32)), .val (.ref o), .val (.ref en0), .unset, .unset, .unset, .unset, .unset, .unset, .unset, .unset] [(.ref en1)])) st69 ?_
      refine RunsTo.of (T' := T69) (g' := (mkF m 52 #[.val (.int x0), .val (.int x1), .val (.int x2), .val (.int bits), .val (.int (3 : Int32)), .val (.int (1 : Int32)), .val (.ref o), .val (.ref en0), .unset, .unset, .unset, .unset, .unset, .unset, .unset, .unset] [(.ref en1), (.ref en1)])) (fun tgt_ kt => ?_) ?_
      · refine XS.dup X69.here hx rfl (hb hby at_51) rfl rfl ?_
        show Steps p.tables e below (T69.setTop (mkF m 52 #[.val (.int x0), .val (.int x1), .val (.int x2), .val (.int bits), .val (.int (3 : Int32)), .val (.int (1 : Int32)), .val (.ref o), .val (.ref en0), .unset, .unset, .unset, .unset, .unset, .unset, .unset, .unset] [(.ref en1), (.ref en1)])) _
        exact kt
      obtain ⟨_, _, ⟨T70, L70, k70, n70⟩, -, X70, ⟨Lc70, hQ70, l70, y70, z70⟩, st70⟩ := X69.specialBack hx (y := (⟨"com/example/round_table/roundtable/engine/OrderList$Entry", "<init>", "()V"⟩ : MethodName)) rfl hown (mvT hZ (hw _ (List.mem_of_getElem? (i := 26) rfl))) (mvT hZ (hw _ (List.mem_of_getElem? (i := 14) rfl))) (mvT hZ (hw _ (List.mem_of_getElem? (i := 15) rfl))) (by decide) (backOf (W := 1) (rm3 l Z a0 hw [] en1 h69 n0 Z69 ) hZ (hw _ (List.mem_of_getElem? (i := 15) rfl)) (hw _ (List.mem_of_getElem? (i := 12) rfl)) (by decide) (by decide)) (g := (mkF m 52 #[.val (.int x0), .val (.int x1), .val (.int x2), .val (.int bits), .val (.int (3 : Int32)), .val (.int (1 : Int32)), .val (.ref o), .val (.ref en0), .unset, .unset, .unset, .unset, .unset, .unset, .unset, .unset] [(.ref en1), (.ref en1)])) rfl (by rw [hml]; rfl) (Steps.refl _) (a := en1) (argsL := []) (rest := [(.ref en1)]) (lenOf pd_0 rfl) rfl (by show 2 * 0 + _ ≤ _; exact Nat.le_of_eq rfl) (hb hby at_52) (fun _ _ => ⟨rfl, e69, (by decide : 4 + 0 ≤ _), (by decide : 13 + 0 ≤ _)⟩)
      dsimp only [Pt.U, Pt.locs, Pt.cells, Pt.slots] at X70 l70 y70 z70 st70 hQ70
      subst l70 y70 z70
      obtain ⟨rfl, N70q, e70⟩ := hQ70
      have N70 := Fr.app N68 N70q
      refine RunsTo.of (T' := T70) (g' := (mkF m 55 #[.val (.int x0), .val (.int x1), .val (.int x2), .val (.int bits), .val (.int (3 : Int32)), .val (.int (1 : Int32)), .val (.ref o), .val (.ref en0), .unset, .unset, .unset, .unset, .unset, .unset, .unset, .unset] [(.ref en1)])) (fun _ kt => st70.trans kt) ?_
      refine RunsTo.of (T' := T70) (g' := (mkF m 57 #[.val (.int x0), .val (.int x1), .val (.int x2), .val (.int bits), .val (.int (3 : Int32)), .val (.int (1 : Int32)), .val (.ref o), .val (.ref en0), .val (.ref en1), .unset, .unset, .unset, .unset, .unset, .unset, .unset] [])) (fun tgt_ kt => ?_) ?_
      · refine XS.astore X70.here hx rfl (hb hby at_55) rfl rfl (l' := #[.val (.int x0), .val (.int x1), .val (.int x2), .val (.int bits), .val (.int (3 : Int32)), .val (.int (1 : Int32)), .val (.ref o), .val (.ref en0), .val (.ref en1), .unset, .unset, .unset, .unset, .unset, .unset, .unset]) rfl ?_
        show Steps p.tables e below (T70.setTop (mkF m 57 #[.val (.int x0), .val (.int x1), .val (.int x2), .val (.int bits), .val (.int (3 : Int32)), .val (.int (1 : Int32)), .val (.ref o), .val (.ref en0), .val (.ref en1), .unset, .unset, .unset, .unset, .unset, .unset, .unset] [])) _
        exact kt
      obtain ⟨T71, h71, X71, e71, E71, A71, D71, -, st71⟩ := newO X70 hx hZ hown (hw _ (List.mem_of_getElem? (i := 25) rfl)) (hw _ (List.mem_of_getElem? (i := 11) rfl)) (hw _ (List.mem_of_getElem? (i := 12) rfl)) e70 (g := (mkF m 57 #[.val (.int x0), .val (.int x1), .val (.int x2), .val (.int bits), .val (.int (3 : Int32)), .val (.int (1 : Int32)), .val (.ref o), .val (.ref en0), .val (.ref en1), .unset, .unset, .unset, .unset, .unset, .unset, .unset] [])) rfl (hb hby at_57) (by decide) (by decide)
      obtain ⟨en2, g71⟩ : ∃ z, z = h69.size := ⟨_, rfl⟩
      rw [← g71] at A71 D71 st71
      have Z71 : n0 ≤ h71.size := Nat.le_trans Z69 E71.1
      have g_en2 : n0 ≤ en2 := Nat.le_trans Z69 (Nat.le_of_eq g71.symm)
      have ne_o_en2 : o ≠ en2 := Nat.ne_of_lt (Nat.lt_of_lt_of_le E_o.lt (Nat.le_of_eq g71.symm))
      have ne_hd_en2 : hd ≠ en2 := Nat.ne_of_lt (Nat.lt_of_lt_of_le F_label_hd.lt (Nat.le_of_eq g71.symm))
      have ne_en0_en2 : en0 ≠ en2 := Nat.ne_of_lt (Nat.lt_of_lt_of_le F_next_en0.lt (Nat.le_of_eq g71.symm))
      have ne_en1_en2 : en1 ≠ en2 := Nat.ne_of_lt (Nat.lt_of_lt_of_le F_next_en1.lt (Nat.le_of_eq g71.symm))
      have E_o := E_o.ext E71
      have F_head_o := F_head_o.ext E71
      have F_last_o := F_last_o.ext E71
      have F_labelBits_o := F_labelBits_o.ext E71
      have F_endGap_o := F_endGap_o.ext E71
      have F_label_hd := F_label_hd.ext E71
      have F_previous_hd := F_previous_hd.ext E71
      have F_next_hd := F_next_hd.ext E71
      have E_hd := E_hd.ext E71
      have F_next_en0 := F_next_en0.ext E71
      have F_previous_en0 := F_previous_en0.ext E71
      have F_label_en0 := F_label_en0.ext E71
      have E_en0 := E_en0.ext E71
      have F_next_en1 := F_next_en1.ext E71
      have F_previous_en1 := F_previous_en1.ext E71
      have F_label_en1 := F_label_en1.ext E71
      have E_en1 := E_en1.ext E71
      have F_next_en2 : Fld Z h71 en2 "com/example/round_table/roundtable/engine/OrderList$Entry" "next" "Lcom/example/round_table/roundtable/engine/OrderList$Entry;" .null := D71 (Or.inl (hw _ (List.mem_of_getElem? (i := 43) rfl))) (ty := (.object "com/example/round_table/roundtable/engine/OrderList$Entry")) (by decide)
      have F_previous_en2 : Fld Z h71 en2 "com/example/round_table/roundtable/engine/OrderList$Entry" "previous" "Lcom/example/round_table/roundtable/engine/OrderList$Entry;" .null := D71 (Or.inl (hw _ (List.mem_of_getElem? (i := 45) rfl))) (ty := (.object "com/example/round_table/roundtable/engine/OrderList$Entry")) (by decide)
      have F_label_en2 : Fld Z h71 en2 "com/example/round_table/roundtable/engine/OrderList$Entry" "label" "J" (.long (0 : Int64)) := D71 (Or.inl (hw _ (List.mem_of_getElem? (i := 47) rfl))) (ty := .long) (by decide)
      have E_en2 : Exa Z h71 en2 "com/example/round_table/roundtable/engine/OrderList$Entry" := A71
      refine RunsTo.of (T' := T71) (g' := (mkF m 60 #[.val (.int x0), .val (.int x1), .val (.int x2), .val (.int bits), .val (.int (3 : Int32)), .val (.int (1 : Int32)), .val (.ref o), .val (.ref en0), .val (.ref en1), .unset, .unset, .unset, .unset, .unset, .unset, .unset] [(.ref en2)])) st71 ?_
      refine RunsTo.of (T' := T71) (g' := (mkF m 61 #[.val (.int x0), .val (.int x1), .val (.int x2), .val (.int bits), .val (.int (3 : Int32)), .val (.int (1 : Int32)), .val (.ref o), .val (.ref en0), .val (.ref en1), .unset, .unset, .unset, .unset, .unset, .unset, .unset] [(.ref en2), (.ref en2)])) (fun tgt_ kt => ?_) ?_
      · refine XS.dup X71.here hx rfl (hb hby at_60) rfl rfl ?_
        show Steps p.tables e below (T71.setTop (mkF m 61 #[.val (.int x0), .val (.int x1), .val (.int x2), .val (.int bits), .val (.int (3 : Int32)), .val (.int (1 : Int32)), .val (.ref o), .val (.ref en0), .val (.ref en1), .unset, .unset, .unset, .unset, .unset, .unset, .unset] [(.ref en2), (.ref en2)])) _
        exact kt
      obtain ⟨_, _, ⟨T72, L72, k72, n72⟩, -, X72, ⟨Lc72, hQ72, l72, y72, z72⟩, st72⟩ := X71.specialBack hx (y := (⟨"com/example/round_table/roundtable/engine/OrderList$Entry", "<init>", "()V"⟩ : MethodName)) rfl hown (mvT hZ (hw _ (List.mem_of_getElem? (i := 26) rfl))) (mvT hZ (hw _ (List.mem_of_getElem? (i := 14) rfl))) (mvT hZ (hw _ (List.mem_of_getElem? (i := 15) rfl))) (by decide) (backOf (W := 1) (rm3 l Z a0 hw [] en2 h71 n0 Z71 ) hZ (hw _ (List.mem_of_getElem? (i := 15) rfl)) (hw _ (List.mem_of_getElem? (i := 12) rfl)) (by decide) (by decide)) (g := (mkF m 61 #[.val (.int x0), .val (.int x1), .val (.int x2), .val (.int bits), .val (.int (3 : Int32)), .val (.int (1 : Int32)), .val (.ref o), .val (.ref en0), .val (.ref en1), .unset, .unset, .unset, .unset, .unset, .unset, .unset] [(.ref en2), (.ref en2)])) rfl (by rw [hml]; rfl) (Steps.refl _) (a := en2) (argsL := []) (rest := [(.ref en2)]) (lenOf pd_0 rfl) rfl (by show 2 * 0 + _ ≤ _; exact Nat.le_of_eq rfl) (hb hby at_61) (fun _ _ => ⟨rfl, e71, (by decide : 5 + 0 ≤ _), (by decide : 16 + 0 ≤ _)⟩)
      dsimp only [Pt.U, Pt.locs, Pt.cells, Pt.slots] at X72 l72 y72 z72 st72 hQ72
      subst l72 y72 z72
      obtain ⟨rfl, N72q, e72⟩ := hQ72
      have N72 := Fr.app N70 N72q
      refine RunsTo.of (T' := T72) (g' := (mkF m 64 #[.val (.int x0), .val (.int x1), .val (.int x2), .val (.int bits), .val (.int (3 : Int32)), .val (.int (1 : Int32)), .val (.ref o), .val (.ref en0), .val (.ref en1), .unset, .unset, .unset, .unset, .unset, .unset, .unset] [(.ref en2)])) (fun _ kt => st72.trans kt) ?_
      refine RunsTo.of (T' := T72) (g' := (mkF m 70 #[.val (.int x0), .val (.int x1), .val (.int x2), .val (.int bits), .val (.int (3 : Int32)), .val (.int (1 : Int32)), .val (.ref o), .val (.ref en0), .val (.ref en1), .val (.ref en2), .unset, .unset, .unset, .unset, .unset, .unset] [(.ref en0), (.ref o)])) (fun tgt_ kt => ?_) ?_
      · refine XS.astore X72.here hx rfl (hb hby at_64) rfl rfl (l' := #[.val (.int x0), .val (.int x1), .val (.int x2), .val (.int bits), .val (.int (3 : Int32)), .val (.int (1 : Int32)), .val (.ref o), .val (.ref en0), .val (.ref en1), .val (.ref en2), .unset, .unset, .unset, .unset, .unset, .unset]) rfl ?_
        show Steps p.tables e below (T72.setTop (mkF m 66 #[.val (.int x0), .val (.int x1), .val (.int x2), .val (.int bits), .val (.int (3 : Int32)), .val (.int (1 : Int32)), .val (.ref o), .val (.ref en0), .val (.ref en1), .val (.ref en2), .unset, .unset, .unset, .unset, .unset, .unset] [])) _
        refine XS.aload X72.here hx rfl (hb hby at_66) rfl rfl ?_
        show Steps p.tables e below (T72.setTop (mkF m 68 #[.val (.int x0), .val (.int x1), .val (.int x2), .val (.int bits), .val (.int (3 : Int32)), .val (.int (1 : Int32)), .val (.ref o), .val (.ref en0), .val (.ref en1), .val (.ref en2), .unset, .unset, .unset, .unset, .unset, .unset] [(.ref o)])) _
        refine XS.aload X72.here hx rfl (hb hby at_68) rfl rfl ?_
        show Steps p.tables e below (T72.setTop (mkF m 70 #[.val (.int x0), .val (.int x1), .val (.int x2), .val (.int bits), .val (.int (3 : Int32)), .val (.int (1 : Int32)), .val (.ref o), .val (.ref en0), .val (.ref en1), .val (.ref en2), .unset, .unset, .unset, .unset, .unset, .unset] [(.ref en0), (.ref o)])) _
        exact kt
      obtain ⟨cq73, kq73, q73a, q73b, q73c⟩ := isOf hZ e72 E_o
      obtain ⟨_, _, ⟨T73, L73, k73, n73⟩, -, X73, ⟨Lc73, hQ73, l73, y73, z73⟩, st73⟩ := X72.virtualBack hx (y := (⟨"com/example/round_table/roundtable/engine/OrderList", "append", "(Lcom/example/round_table/roundtable/engine/OrderList$Entry;)V"⟩ : MethodName)) (z := (⟨"com/example/round_table/roundtable/engine/OrderList", "append", "(Lcom/example/round_table/roundtable/engine/OrderList$Entry;)V"⟩ : MethodName)) hown (mvT hZ (hw _ (List.mem_of_getElem? (i := 27) rfl))) (mvT hZ (hw _ (List.mem_of_getElem? (i := 28) rfl))) (notFace_of_selects (args := #[]) (mvT hZ (hw _ (List.mem_of_getElem? (i := 30) rfl)))) (mvT hZ (hw _ (List.mem_of_getElem? (i := 30) rfl))) (mvT hZ (hw _ (List.mem_of_getElem? (i := 29) rfl))) (by decide) (backOf (W := 0) (rm_appE l Z a0 hw [] o en0 hd bits eg RR (0 : Int64) (0 : Int64) h71 n0 Z71 E_o g_o F_head_o F_last_o F_labelBits_o F_endGap_o E_hd g_hd F_label_hd F_previous_hd F_next_hd E_en0 g_en0 F_label_en0 F_previous_en0 F_next_en0 ne_o_hd ne_o_en0 ne_hd_en0 hRR hR heg (by omega) (by omega)) hZ (hw _ (List.mem_of_getElem? (i := 31) rfl)) (hw _ (List.mem_of_getElem? (i := 3) rfl)) (by decide) (by decide)) q73a q73c (g := (mkF m 70 #[.val (.int x0), .val (.int x1), .val (.int x2), .val (.int bits), .val (.int (3 : Int32)), .val (.int (1 : Int32)), .val (.ref o), .val (.ref en0), .val (.ref en1), .val (.ref en2), .unset, .unset, .unset, .unset, .unset, .unset] [(.ref en0), (.ref o)])) rfl (by rw [hml]; rfl) (Steps.refl _) (argsL := [(.ref en0)]) (rest := []) (lenOf pd_5 rfl) rfl (by show 2 * 0 + _ ≤ _; exact Nat.le_of_eq rfl) (hb hby at_70) (fun _ _ => ⟨rfl, e72, (by decide : 5 + 0 ≤ _), (by decide : 16 + 0 ≤ _)⟩)
      dsimp only [Pt.U, Pt.locs, Pt.cells, Pt.slots] at X73 l73 y73 z73 st73 hQ73
      subst l73 y73 z73
      obtain ⟨lab_en0, rfl, N73q, K73, F_head_o, F_last_o, F_labelBits_o, F_endGap_o, F_label_hd, F_previous_hd, F_next_hd, F_label_en0, F_previous_en0, F_next_en0, hb1_en0, hb2_en0, hb3_en0⟩ := hQ73
      have N73 := Fr.app N72 N73q
      have Z73 : n0 ≤ T73.heap.size := Nat.le_trans Z71 K73.1
      have E_o := E_o.keep K73
      have E_hd := E_hd.keep K73
      have E_en0 := E_en0.keep K73
      have F_next_en1 := F_next_en1.keep K73 (ninS (Ne.symm ne_o_en1) (ninS (Ne.symm ne_hd_en1) (ninS (Ne.symm ne_en0_en1) nin0)))
      have F_previous_en1 := F_previous_en1.keep K73 (ninS (Ne.symm ne_o_en1) (ninS (Ne.symm ne_hd_en1) (ninS (Ne.symm ne_en0_en1) nin0)))
      have F_label_en1 := F_label_en1.keep K73 (ninS (Ne.symm ne_o_en1) (ninS (Ne.symm ne_hd_en1) (ninS (Ne.symm ne_en0_en1) nin0)))
      have E_en1 := E_en1.keep K73
      have F_next_en2 := F_next_en2.keep K73 (ninS (Ne.symm ne_o_en2) (ninS (Ne.symm ne_hd_en2) (ninS (Ne.symm ne_en0_en2) nin0)))
      have F_previous_en2 := F_previous_en2.keep K73 (ninS (Ne.symm ne_o_en2) (ninS (Ne.symm ne_hd_en2) (ninS (Ne.symm ne_en0_en2) nin0)))
      have F_label_en2 := F_label_en2.keep K73 (ninS (Ne.symm ne_o_en2) (ninS (Ne.symm ne_hd_en2) (ninS (Ne.symm ne_en0_en2) nin0)))
      have E_en2 := E_en2.keep K73
      refine RunsTo.of (T' := T73) (g' := (mkF m 73 #[.val (.int x0), .val (.int x1), .val (.int x2), .val (.int bits), .val (.int (3 : Int32)), .val (.int (1 : Int32)), .val (.ref o), .val (.ref en0), .val (.ref en1), .val (.ref en2), .unset, .unset, .unset, .unset, .unset, .unset] [])) (fun _ kt => st73.trans kt) ?_
      refine RunsTo.of (T' := T73) (g' := (mkF m 83 #[.val (.int x0), .val (.int x1), .val (.int x2), .val (.int bits), .val (.int (3 : Int32)), .val (.int (1 : Int32)), .val (.ref o), .val (.ref en0), .val (.ref en1), .val (.ref en2), .unset, .unset, .unset, .unset, .unset, .unset] [(.ref en1), (.ref o)])) (fun tgt_ kt => ?_) ?_
      · refine XS.iload X73.here hx rfl (hb hby at_73) rfl ?_
        show Steps p.tables e below (T73.setTop (mkF m 75 #[.val (.int x0), .val (.int x1), .val (.int x2), .val (.int bits), .val (.int (3 : Int32)), .val (.int (1 : Int32)), .val (.ref o), .val (.ref en0), .val (.ref en1), .val (.ref en2), .unset, .unset, .unset, .unset, .unset, .unset] [(.int (3 : Int32))])) _
        refine XS.iconst X73.here hx rfl (hb hby at_75) ?_
        show Steps p.tables e below (T73.setTop (mkF m 76 #[.val (.int x0), .val (.int x1), .val (.int x2), .val (.int bits), .val (.int (3 : Int32)), .val (.int (1 : Int32)), .val (.ref o), .val (.ref en0), .val (.ref en1), .val (.ref en2), .unset, .unset, .unset, .unset, .unset, .unset] [(.int (2 : Int32)), (.int (3 : Int32))])) _
        refine XS.icmpNo X73.here hx rfl (hb hby at_76) rfl (flt (by decide)).1 ?_
        show Steps p.tables e below (T73.setTop (mkF m 79 #[.val (.int x0), .val (.int x1), .val (.int x2), .val (.int bits), .val (.int (3 : Int32)), .val (.int (1 : Int32)), .val (.ref o), .val (.ref en0), .val (.ref en1), .val (.ref en2), .unset, .unset, .unset, .unset, .unset, .unset] [])) _
        refine XS.aload X73.here hx rfl (hb hby at_79) rfl rfl ?_
        show Steps p.tables e below (T73.setTop (mkF m 81 #[.val (.int x0), .val (.int x1), .val (.int x2), .val (.int bits), .val (.int (3 : Int32)), .val (.int (1 : Int32)), .val (.ref o), .val (.ref en0), .val (.ref en1), .val (.ref en2), .unset, .unset, .unset, .unset, .unset, .unset] [(.ref o)])) _
        refine XS.aload X73.here hx rfl (hb hby at_81) rfl rfl ?_
        show Steps p.tables e below (T73.setTop (mkF m 83 #[.val (.int x0), .val (.int x1), .val (.int x2), .val (.int bits), .val (.int (3 : Int32)), .val (.int (1 : Int32)), .val (.ref o), .val (.ref en0), .val (.ref en1), .val (.ref en2), .unset, .unset, .unset, .unset, .unset, .unset] [(.ref en1), (.ref o)])) _
        exact kt
      obtain ⟨cq74, kq74, q74a, q74b, q74c⟩ := isOf hZ rfl E_o
      obtain ⟨_, _, ⟨T74, L74, k74, n74⟩, -, X74, ⟨Lc74, hQ74, l74, y74, z74⟩, st74⟩ := X73.virtualBack hx (y := (⟨"com/example/round_table/roundtable/engine/OrderList", "append", "(Lcom/example/round_table/roundtable/engine/OrderList$Entry;)V"⟩ : MethodName)) (z := (⟨"com/example/round_table/roundtable/engine/OrderList", "append", "(Lcom/example/round_table/roundtable/engine/OrderList$Entry;)V"⟩ : MethodName)) hown (mvT hZ (hw _ (List.mem_of_getElem? (i := 27) rfl))) (mvT hZ (hw _ (List.mem_of_getElem? (i := 28) rfl))) (notFace_of_selects (args := #[]) (mvT hZ (hw _ (List.mem_of_getElem? (i := 30) rfl)))) (mvT hZ (hw _ (List.mem_of_getElem? (i := 30) rfl))) (mvT hZ (hw _ (List.mem_of_getElem? (i := 29) rfl))) (by decide) (backOf (W := 0) (rm_appN l Z a0 hw [] o en1 hd en0 (.ref hd) bits eg RR lab_en0 (0 : Int64) T73.heap n0 Z73 E_o g_o F_head_o F_last_o F_labelBits_o F_endGap_o E_en0 g_en0 F_label_en0 F_previous_en0 F_next_en0 E_en1 g_en1 F_label_en1 F_previous_en1 F_next_en1 ne_o_en0 ne_o_en1 ne_en0_en1 (Ne.symm ne_hd_en0) hRR hR heg (by omega) (by omega)) hZ (hw _ (List.mem_of_getElem? (i := 31) rfl)) (hw _ (List.mem_of_getElem? (i := 3) rfl)) (by decide) (by decide)) q74a q74c (g := (mkF m 83 #[.val (.int x0), .val (.int x1), .val (.int x2), .val (.int bits), .val (.int (3 : Int32)), .val (.int (1 : Int32)), .val (.ref o), .val (.ref en0), .val (.ref en1), .val (.ref en2), .unset, .unset, .unset, .unset, .unset, .unset] [(.ref en1), (.ref o)])) rfl (by rw [hml]; rfl) (Steps.refl _) (argsL := [(.ref en1)]) (rest := []) (lenOf pd_5 rfl) rfl (by show 2 * 0 + _ ≤ _; exact Nat.le_of_eq rfl) (hb hby at_83) (fun _ _ => ⟨rfl, rfl, (by decide : 5 + 0 ≤ _), (by decide : 16 + 0 ≤ _)⟩)
      dsimp only [Pt.U, Pt.locs, Pt.cells, Pt.slots] at X74 l74 y74 z74 st74 hQ74
      subst l74 y74 z74
      obtain ⟨lab_en1, rfl, N74q, K74, F_head_o, F_last_o, F_labelBits_o, F_endGap_o, F_label_en0, F_previous_en0, F_next_en0, F_label_en1, F_previous_en1, F_next_en1, hb1_en1, hb2_en1, hb3_en1⟩ := hQ74
      have N74 := Fr.app N73 N74q
      have Z74 : n0 ≤ T74.heap.size := Nat.le_trans Z73 K74.1
      have E_o := E_o.keep K74
      have E_hd := E_hd.keep K74
      have E_en0 := E_en0.keep K74
      have E_en1 := E_en1.keep K74
      have F_next_en2 := F_next_en2.keep K74 (ninS (Ne.symm ne_o_en2) (ninS (Ne.symm ne_en0_en2) (ninS (Ne.symm ne_en1_en2) nin0)))
      have F_previous_en2 := F_previous_en2.keep K74 (ninS (Ne.symm ne_o_en2) (ninS (Ne.symm ne_en0_en2) (ninS (Ne.symm ne_en1_en2) nin0)))
      have F_label_en2 := F_label_en2.keep K74 (ninS (Ne.symm ne_o_en2) (ninS (Ne.symm ne_en0_en2) (ninS (Ne.symm ne_en1_en2) nin0)))
      have E_en2 := E_en2.keep K74
      have F_label_hd := F_label_hd.keep K74 (ninS (Ne.symm ne_o_hd) (ninS ne_hd_en0 (ninS ne_hd_en1 nin0)))
      have F_previous_hd := F_previous_hd.keep K74 (ninS (Ne.symm ne_o_hd) (ninS ne_hd_en0 (ninS ne_hd_en1 nin0)))
      have F_next_hd := F_next_hd.keep K74 (ninS (Ne.symm ne_o_hd) (ninS ne_hd_en0 (ninS ne_hd_en1 nin0)))
      refine RunsTo.of (T' := T74) (g' := (mkF m 86 #[.val (.int x0), .val (.int x1), .val (.int x2), .val (.int bits), .val (.int (3 : Int32)), .val (.int (1 : Int32)), .val (.ref o), .val (.ref en0), .val (.ref en1), .val (.ref en2), .unset, .unset, .unset, .unset, .unset, .unset] [])) (fun _ kt => st74.trans kt) ?_
      refine RunsTo.of (T' := T74) (g' := (mkF m 96 #[.val (.int x0), .val (.int x1), .val (.int x2), .val (.int bits), .val (.int (3 : Int32)), .val (.int (1 : Int32)), .val (.ref o), .val (.ref en0), .val (.ref en1), .val (.ref en2), .unset, .unset, .unset, .unset, .unset, .unset] [(.ref en2), (.ref o)])) (fun tgt_ kt => ?_) ?_
      · refine XS.iload X74.here hx rfl (hb hby at_86) rfl ?_
        show Steps p.tables e below (T74.setTop (mkF m 88 #[.val (.int x0), .val (.int x1), .val (.int x2), .val (.int bits), .val (.int (3 : Int32)), .val (.int (1 : Int32)), .val (.ref o), .val (.ref en0), .val (.ref en1), .val (.ref en2), .unset, .unset, .unset, .unset, .unset, .unset] [(.int (3 : Int32))])) _
        refine XS.iconst X74.here hx rfl (hb hby at_88) ?_
        show Steps p.tables e below (T74.setTop (mkF m 89 #[.val (.int x0), .val (.int x1), .val (.int x2), .val (.int bits), .val (.int (3 : Int32)), .val (.int (1 : Int32)), .val (.ref o), .val (.ref en0), .val (.ref en1), .val (.ref en2), .unset, .unset, .unset, .unset, .unset, .unset] [(.int (3 : Int32)), (.int (3 : Int32))])) _
        refine XS.icmpNo X74.here hx rfl (hb hby at_89) rfl (flt (by decide)).1 ?_
        show Steps p.tables e below (T74.setTop (mkF m 92 #[.val (.int x0), .val (.int x1), .val (.int x2), .val (.int bits), .val (.int (3 : Int32)), .val (.int (1 : Int32)), .val (.ref o), .val (.ref en0), .val (.ref en1), .val (.ref en2), .unset, .unset, .unset, .unset, .unset, .unset] [])) _
        refine XS.aload X74.here hx rfl (hb hby at_92) rfl rfl ?_
        show Steps p.tables e below (T74.setTop (mkF m 94 #[.val (.int x0), .val (.int x1), .val (.int x2), .val (.int bits), .val (.int (3 : Int32)), .val (.int (1 : Int32)), .val (.ref o), .val (.ref en0), .val (.ref en1), .val (.ref en2), .unset, .unset, .unset, .unset, .unset, .unset] [(.ref o)])) _
        refine XS.aload X74.here hx rfl (hb hby at_94) rfl rfl ?_
        show Steps p.tables e below (T74.setTop (mkF m 96 #[.val (.int x0), .val (.int x1), .val (.int x2), .val (.int bits), .val (.int (3 : Int32)), .val (.int (1 : Int32)), .val (.ref o), .val (.ref en0), .val (.ref en1), .val (.ref en2), .unset, .unset, .unset, .unset, .unset, .unset] [(.ref en2), (.ref o)])) _
        exact kt
      obtain ⟨cq75, kq75, q75a, q75b, q75c⟩ := isOf hZ rfl E_o
      obtain ⟨_, _, ⟨T75, L75, k75, n75⟩, -, X75, ⟨Lc75, hQ75, l75, y75, z75⟩, st75⟩ := X74.virtualBack hx (y := (⟨"com/example/round_table/roundtable/engine/OrderList", "append", "(Lcom/example/round_table/roundtable/engine/OrderList$Entry;)V"⟩ : MethodName)) (z := (⟨"com/example/round_table/roundtable/engine/OrderList", "append", "(Lcom/example/round_table/roundtable/engine/OrderList$Entry;)V"⟩ : MethodName)) hown (mvT hZ (hw _ (List.mem_of_getElem? (i := 27) rfl))) (mvT hZ (hw _ (List.mem_of_getElem? (i := 28) rfl))) (notFace_of_selects (args := #[]) (mvT hZ (hw _ (List.mem_of_getElem? (i := 30) rfl)))) (mvT hZ (hw _ (List.mem_of_getElem? (i := 30) rfl))) (mvT hZ (hw _ (List.mem_of_getElem? (i := 29) rfl))) (by decide) (backOf (W := 0) (rm_appN l Z a0 hw [] o en2 hd en1 (.ref en0) bits eg RR lab_en1 (0 : Int64) T74.heap n0 Z74 E_o g_o F_head_o F_last_o F_labelBits_o F_endGap_o E_en1 g_en1 F_label_en1 F_previous_en1 F_next_en1 E_en2 g_en2 F_label_en2 F_previous_en2 F_next_en2 ne_o_en1 ne_o_en2 ne_en1_en2 (Ne.symm ne_hd_en1) hRR hR heg (by omega) (by omega)) hZ (hw _ (List.mem_of_getElem? (i := 31) rfl)) (hw _ (List.mem_of_getElem? (i := 3) rfl)) (by decide) (by decide)) q75a q75c (g := (mkF m 96 #[.val (.int x0), .val (.int x1), .val (.int x2), .val (.int bits), .val (.int (3 : Int32)), .val (.int (1 : Int32)), .val (.ref o), .val (.ref en0), .val (.ref en1), .val (.ref en2), .unset, .unset, .unset, .unset, .unset, .unset] [(.ref en2), (.ref o)])) rfl (by rw [hml]; rfl) (Steps.refl _) (argsL := [(.ref en2)]) (rest := []) (lenOf pd_5 rfl) rfl (by show 2 * 0 + _ ≤ _; exact Nat.le_of_eq rfl) (hb hby at_96) (fun _ _ => ⟨rfl, rfl, (by decide : 5 + 0 ≤ _), (by decide : 16 + 0 ≤ _)⟩)
      dsimp only [Pt.U, Pt.locs, Pt.cells, Pt.slots] at X75 l75 y75 z75 st75 hQ75
      subst l75 y75 z75
      obtain ⟨lab_en2, rfl, N75q, K75, F_head_o, F_last_o, F_labelBits_o, F_endGap_o, F_label_en1, F_previous_en1, F_next_en1, F_label_en2, F_previous_en2, F_next_en2, hb1_en2, hb2_en2, hb3_en2⟩ := hQ75
      have N75 := Fr.app N74 N75q
      have Z75 : n0 ≤ T75.heap.size := Nat.le_trans Z74 K75.1
      have E_o := E_o.keep K75
      have E_hd := E_hd.keep K75
      have E_en0 := E_en0.keep K75
      have E_en1 := E_en1.keep K75
      have E_en2 := E_en2.keep K75
      have F_label_hd := F_label_hd.keep K75 (ninS (Ne.symm ne_o_hd) (ninS ne_hd_en1 (ninS ne_hd_en2 nin0)))
      have F_previous_hd := F_previous_hd.keep K75 (ninS (Ne.symm ne_o_hd) (ninS ne_hd_en1 (ninS ne_hd_en2 nin0)))
      have F_next_hd := F_next_hd.keep K75 (ninS (Ne.symm ne_o_hd) (ninS ne_hd_en1 (ninS ne_hd_en2 nin0)))
      have F_label_en0 := F_label_en0.keep K75 (ninS (Ne.symm ne_o_en0) (ninS ne_en0_en1 (ninS ne_en0_en2 nin0)))
      have F_previous_en0 := F_previous_en0.keep K75 (ninS (Ne.symm ne_o_en0) (ninS ne_en0_en1 (ninS ne_en0_en2 nin0)))
      have F_next_en0 := F_next_en0.keep K75 (ninS (Ne.symm ne_o_en0) (ninS ne_en0_en1 (ninS ne_en0_en2 nin0)))
      refine RunsTo.of (T' := T75) (g' := (mkF m 99 #[.val (.int x0), .val (.int x1), .val (.int x2), .val (.int bits), .val (.int (3 : Int32)), .val (.int (1 : Int32)), .val (.ref o), .val (.ref en0), .val (.ref en1), .val (.ref en2), .unset, .unset, .unset, .unset, .unset, .unset] [])) (fun _ kt => st75.trans kt) ?_
      refine RunsTo.of (T' := T75) (g' := (mkF m 128 #[.val (.int x0), .val (.int x1), .val (.int x2), .val (.int bits), .val (.int (3 : Int32)), .val (.int (1 : Int32)), .val (.ref o), .val (.ref en0), .val (.ref en1), .val (.ref en2), .val (.ref en1), .unset, .unset, .unset, .unset, .unset] [(.ref en1), (.ref o)])) (fun tgt_ kt => ?_) ?_
      · refine XS.iload X75.here hx rfl (hb hby at_99) rfl ?_
        show Steps p.tables e below (T75.setTop (mkF m 101 #[.val (.int x0), .val (.int x1), .val (.int x2), .val (.int bits), .val (.int (3 : Int32)), .val (.int (1 : Int32)), .val (.ref o), .val (.ref en0), .val (.ref en1), .val (.ref en2), .unset, .unset, .unset, .unset, .unset, .unset] [(.int (1 : Int32))])) _
        refine XS.ifYes X75.here hx rfl (pc0 := 101) (pc' := 109) rfl (hb hby at_101) rfl ((if0 _ _).trans (feq (by decide)).2) (by decide) (by decide) ?_
        show Steps p.tables e below (T75.setTop (mkF m 109 #[.val (.int x0), .val (.int x1), .val (.int x2), .val (.int bits), .val (.int (3 : Int32)), .val (.int (1 : Int32)), .val (.ref o), .val (.ref en0), .val (.ref en1), .val (.ref en2), .unset, .unset, .unset, .unset, .unset, .unset] [])) _
        refine XS.iload X75.here hx rfl (hb hby at_109) rfl ?_
        show Steps p.tables e below (T75.setTop (mkF m 111 #[.val (.int x0), .val (.int x1), .val (.int x2), .val (.int bits), .val (.int (3 : Int32)), .val (.int (1 : Int32)), .val (.ref o), .val (.ref en0), .val (.ref en1), .val (.ref en2), .unset, .unset, .unset, .unset, .unset, .unset] [(.int (1 : Int32))])) _
        refine XS.iconst X75.here hx rfl (hb hby at_111) ?_
        show Steps p.tables e below (T75.setTop (mkF m 112 #[.val (.int x0), .val (.int x1), .val (.int x2), .val (.int bits), .val (.int (3 : Int32)), .val (.int (1 : Int32)), .val (.ref o), .val (.ref en0), .val (.ref en1), .val (.ref en2), .unset, .unset, .unset, .unset, .unset, .unset] [(.int (1 : Int32)), (.int (1 : Int32))])) _
        refine XS.icmpNo X75.here hx rfl (hb hby at_112) rfl (teq rfl).2 ?_
        show Steps p.tables e below (T75.setTop (mkF m 115 #[.val (.int x0), .val (.int x1), .val (.int x2), .val (.int bits), .val (.int (3 : Int32)), .val (.int (1 : Int32)), .val (.ref o), .val (.ref en0), .val (.ref en1), .val (.ref en2), .unset, .unset, .unset, .unset, .unset, .unset] [])) _
        refine XS.aload X75.here hx rfl (hb hby at_115) rfl rfl ?_
        show Steps p.tables e below (T75.setTop (mkF m 117 #[.val (.int x0), .val (.int x1), .val (.int x2), .val (.int bits), .val (.int (3 : Int32)), .val (.int (1 : Int32)), .val (.ref o), .val (.ref en0), .val (.ref en1), .val (.ref en2), .unset, .unset, .unset, .unset, .unset, .unset] [(.ref en1)])) _
        refine XS.goto X75.here hx rfl (pc0 := 117) (pc' := 122) rfl (hb hby at_117) (by decide) (by decide) ?_
        show Steps p.tables e below (T75.setTop (mkF m 122 #[.val (.int x0), .val (.int x1), .val (.int x2), .val (.int bits), .val (.int (3 : Int32)), .val (.int (1 : Int32)), .val (.ref o), .val (.ref en0), .val (.ref en1), .val (.ref en2), .unset, .unset, .unset, .unset, .unset, .unset] [(.ref en1)])) _
        refine XS.astore X75.here hx rfl (hb hby at_122) rfl rfl (l' := #[.val (.int x0), .val (.int x1), .val (.int x2), .val (.int bits), .val (.int (3 : Int32)), .val (.int (1 : Int32)), .val (.ref o), .val (.ref en0), .val (.ref en1), .val (.ref en2), .val (.ref en1), .unset, .unset, .unset, .unset, .unset]) rfl ?_
        show Steps p.tables e below (T75.setTop (mkF m 124 #[.val (.int x0), .val (.int x1), .val (.int x2), .val (.int bits), .val (.int (3 : Int32)), .val (.int (1 : Int32)), .val (.ref o), .val (.ref en0), .val (.ref en1), .val (.ref en2), .val (.ref en1), .unset, .unset, .unset, .unset, .unset] [])) _
        refine XS.aload X75.here hx rfl (hb hby at_124) rfl rfl ?_
        show Steps p.tables e below (T75.setTop (mkF m 126 #[.val (.int x0), .val (.int x1), .val (.int x2), .val (.int bits), .val (.int (3 : Int32)), .val (.int (1 : Int32)), .val (.ref o), .val (.ref en0), .val (.ref en1), .val (.ref en2), .val (.ref en1), .unset, .unset, .unset, .unset, .unset] [(.ref o)])) _
        refine XS.aload X75.here hx rfl (hb hby at_126) rfl rfl ?_
        show Steps p.tables e below (T75.setTop (mkF m 128 #[.val (.int x0), .val (.int x1), .val (.int x2), .val (.int bits), .val (.int (3 : Int32)), .val (.int (1 : Int32)), .val (.ref o), .val (.ref en0), .val (.ref en1), .val (.ref en2), .val (.ref en1), .unset, .unset, .unset, .unset, .unset] [(.ref en1), (.ref o)])) _
        exact kt
      obtain ⟨cq76, kq76, q76a, q76b, q76c⟩ := isOf hZ rfl E_o
      obtain ⟨_, _, ⟨T76, L76, k76, n76⟩, -, X76, ⟨Lc76, hQ76, l76, y76, z76⟩, st76⟩ := X75.virtualBack hx (y := (⟨"com/example/round_table/roundtable/engine/OrderList", "remove", "(Lcom/example/round_table/roundtable/engine/OrderList$Entry;)V"⟩ : MethodName)) (z := (⟨"com/example/round_table/roundtable/engine/OrderList", "remove", "(Lcom/example/round_table/roundtable/engine/OrderList$Entry;)V"⟩ : MethodName)) hown (mvT hZ (hw _ (List.mem_of_getElem? (i := 53) rfl))) (mvT hZ (hw _ (List.mem_of_getElem? (i := 54) rfl))) (notFace_of_selects (args := #[]) (mvT hZ (hw _ (List.mem_of_getElem? (i := 56) rfl)))) (mvT hZ (hw _ (List.mem_of_getElem? (i := 56) rfl))) (mvT hZ (hw _ (List.mem_of_getElem? (i := 55) rfl))) (by decide) (backOf (W := 0) (rm_remN l Z a0 hw [] o en1 hd en0 (.ref en2) (.ref hd) bits eg lab_en0 lab_en1 en2 lab_en2 .null T75.heap n0 Z75 E_o g_o F_head_o F_last_o F_labelBits_o F_endGap_o E_en0 g_en0 F_label_en0 F_previous_en0 F_next_en0 E_en1 g_en1 F_label_en1 F_previous_en1 F_next_en1 ne_o_en0 ne_o_en1 ne_en0_en1 E_en2 g_en2 F_label_en2 F_previous_en2 F_next_en2 ne_o_en2 ne_en0_en2 ne_en1_en2) hZ (hw _ (List.mem_of_getElem? (i := 57) rfl)) (hw _ (List.mem_of_getElem? (i := 3) rfl)) (by decide) (by decide)) q76a q76c (g := (mkF m 128 #[.val (.int x0), .val (.int x1), .val (.int x2), .val (.int bits), .val (.int (3 : Int32)), .val (.int (1 : Int32)), .val (.ref o), .val (.ref en0), .val (.ref en1), .val (.ref en2), .val (.ref en1), .unset, .unset, .unset, .unset, .unset] [(.ref en1), (.ref o)])) rfl (by rw [hml]; rfl) (Steps.refl _) (argsL := [(.ref en1)]) (rest := []) (lenOf pd_5 rfl) rfl (by show 2 * 0 + _ ≤ _; exact Nat.le_of_eq rfl) (hb hby at_128) (fun _ _ => ⟨rfl, rfl, (by decide : 5 + 0 ≤ _), (by decide : 16 + 0 ≤ _)⟩)
      dsimp only [Pt.U, Pt.locs, Pt.cells, Pt.slots] at X76 l76 y76 z76 st76 hQ76
      subst l76 y76 z76
      obtain ⟨rfl, N76q, K76, F_head_o, F_last_o, F_labelBits_o, F_endGap_o, F_label_en0, F_previous_en0, F_next_en0, F_label_en1, F_previous_en1, F_next_en1, F_label_en2, F_previous_en2, F_next_en2⟩ := hQ76
      have N76 := Fr.app N75 N76q
      have Z76 : n0 ≤ T76.heap.size := Nat.le_trans Z75 K76.1
      have E_o := E_o.keep K76
      have E_hd := E_hd.keep K76
      have E_en0 := E_en0.keep K76
      have E_en1 := E_en1.keep K76
      have E_en2 := E_en2.keep K76
      have F_label_hd := F_label_hd.keep K76 (ninS (Ne.symm ne_o_hd) (ninS ne_hd_en0 (ninS ne_hd_en1 (ninS ne_hd_en2 nin0))))
      have F_previous_hd := F_previous_hd.keep K76 (ninS (Ne.symm ne_o_hd) (ninS ne_hd_en0 (ninS ne_hd_en1 (ninS ne_hd_en2 nin0))))
      have F_next_hd := F_next_hd.keep K76 (ninS (Ne.symm ne_o_hd) (ninS ne_hd_en0 (ninS ne_hd_en1 (ninS ne_hd_en2 nin0))))
      refine RunsTo.of (T' := T76) (g' := (mkF m 131 #[.val (.int x0), .val (.int x1), .val (.int x2), .val (.int bits), .val (.int (3 : Int32)), .val (.int (1 : Int32)), .val (.ref o), .val (.ref en0), .val (.ref en1), .val (.ref en2), .val (.ref en1), .unset, .unset, .unset, .unset, .unset] [])) (fun _ kt => st76.trans kt) ?_
      refine RunsTo.of (T' := T76) (g' := (mkF m 137 #[.val (.int x0), .val (.int x1), .val (.int x2), .val (.int bits), .val (.int (3 : Int32)), .val (.int (1 : Int32)), .val (.ref o), .val (.ref en0), .val (.ref en1), .val (.ref en2), .val (.ref en1), .val (.int ((3 : Int32) - (1 : Int32))), .unset, .unset, .unset, .unset] [])) (fun tgt_ kt => ?_) ?_
      · refine XS.iload X76.here hx rfl (hb hby at_131) rfl ?_
        show Steps p.tables e below (T76.setTop (mkF m 133 #[.val (.int x0), .val (.int x1), .val (.int x2), .val (.int bits), .val (.int (3 : Int32)), .val (.int (1 : Int32)), .val (.ref o), .val (.ref en0), .val (.ref en1), .val (.ref en2), .val (.ref en1), .unset, .unset, .unset, .unset, .unset] [(.int (3 : Int32))])) _
        refine XS.iconst X76.here hx rfl (hb hby at_133) ?_
        show Steps p.tables e below (T76.setTop (mkF m 134 #[.val (.int x0), .val (.int x1), .val (.int x2), .val (.int bits), .val (.int (3 : Int32)), .val (.int (1 : Int32)), .val (.ref o), .val (.ref en0), .val (.ref en1), .val (.ref en2), .val (.ref en1), .unset, .unset, .unset, .unset, .unset] [(.int (1 : Int32)), (.int (3 : Int32))])) _
        refine XS.isub X76.here hx rfl (hb hby at_134) rfl ?_
        show Steps p.tables e below (T76.setTop (mkF m 135 #[.val (.int x0), .val (.int x1), .val (.int x2), .val (.int bits), .val (.int (3 : Int32)), .val (.int (1 : Int32)), .val (.ref o), .val (.ref en0), .val (.ref en1), .val (.ref en2), .val (.ref en1), .unset, .unset, .unset, .unset, .unset] [(.int ((3 : Int32) - (1 : Int32)))])) _
        refine XS.istore X76.here hx rfl (hb hby at_135) rfl (l' := #[.val (.int x0), .val (.int x1), .val (.int x2), .val (.int bits), .val (.int (3 : Int32)), .val (.int (1 : Int32)), .val (.ref o), .val (.ref en0), .val (.ref en1), .val (.ref en2), .val (.ref en1), .val (.int ((3 : Int32) - (1 : Int32))), .unset, .unset, .unset, .unset]) rfl ?_
        show Steps p.tables e below (T76.setTop (mkF m 137 #[.val (.int x0), .val (.int x1), .val (.int x2), .val (.int bits), .val (.int (3 : Int32)), .val (.int (1 : Int32)), .val (.ref o), .val (.ref en0), .val (.ref en1), .val (.ref en2), .val (.ref en1), .val (.int ((3 : Int32) - (1 : Int32))), .unset, .unset, .unset, .unset] [])) _
        exact kt
      have hm : (3 : Int32) - (1 : Int32) = (2 : Int32) := by decide
      rw [hm]
      refine RunsTo.of (T' := T76) (g' := (mkF m 237 #[.val (.int x0), .val (.int x1), .val (.int x2), .val (.int bits), .val (.int (3 : Int32)), .val (.int (1 : Int32)), .val (.ref o), .val (.ref en0), .val (.ref en1), .val (.ref en2), .val (.ref en1), .val (.int (2 : Int32)), .val (.ref en0), .val (.ref en2), .unset, .unset] [(.ref o)])) (fun tgt_ kt => ?_) ?_
      · refine XS.iload X76.here hx rfl (hb hby at_137) rfl ?_
        show Steps p.tables e below (T76.setTop (mkF m 139 #[.val (.int x0), .val (.int x1), .val (.int x2), .val (.int bits), .val (.int (3 : Int32)), .val (.int (1 : Int32)), .val (.ref o), .val (.ref en0), .val (.ref en1), .val (.ref en2), .val (.ref en1), .val (.int (2 : Int32)), .unset, .unset, .unset, .unset] [(.int (1 : Int32))])) _
        refine XS.ifYes X76.here hx rfl (pc0 := 139) (pc' := 147) rfl (hb hby at_139) rfl ((if0 _ _).trans (feq (by decide)).2) (by decide) (by decide) ?_
        show Steps p.tables e below (T76.setTop (mkF m 147 #[.val (.int x0), .val (.int x1), .val (.int x2), .val (.int bits), .val (.int (3 : Int32)), .val (.int (1 : Int32)), .val (.ref o), .val (.ref en0), .val (.ref en1), .val (.ref en2), .val (.ref en1), .val (.int (2 : Int32)), .unset, .unset, .unset, .unset] [])) _
        refine XS.aload X76.here hx rfl (hb hby at_147) rfl rfl ?_
        show Steps p.tables e below (T76.setTop (mkF m 149 #[.val (.int x0), .val (.int x1), .val (.int x2), .val (.int bits), .val (.int (3 : Int32)), .val (.int (1 : Int32)), .val (.ref o), .val (.ref en0), .val (.ref en1), .val (.ref en2), .val (.ref en1), .val (.int (2 : Int32)), .unset, .unset, .unset, .unset] [(.ref en0)])) _
        refine XS.astore X76.here hx rfl (hb hby at_149) rfl rfl (l' := #[.val (.int x0), .val (.int x1), .val (.int x2), .val (.int bits), .val (.int (3 : Int32)), .val (.int (1 : Int32)), .val (.ref o), .val (.ref en0), .val (.ref en1), .val (.ref en2), .val (.ref en1), .val (.int (2 : Int32)), .val (.ref en0), .unset, .unset, .unset]) rfl ?_
        show Steps p.tables e below (T76.setTop (mkF m 151 #[.val (.int x0), .val (.int x1), .val (.int x2), .val (.int bits), .val (.int (3 : Int32)), .val (.int (1 : Int32)), .val (.ref o), .val (.ref en0), .val (.ref en1), .val (.ref en2), .val (.ref en1), .val (.int (2 : Int32)), .val (.ref en0), .unset, .unset, .unset] [])) _
        refine XS.iload X76.here hx rfl (hb hby at_151) rfl ?_
        show Steps p.tables e below (T76.setTop (mkF m 153 #[.val (.int x0), .val (.int x1), .val (.int x2), .val (.int bits), .val (.int (3 : Int32)), .val (.int (1 : Int32)), .val (.ref o), .val (.ref en0), .val (.ref en1), .val (.ref en2), .val (.ref en1), .val (.int (2 : Int32)), .val (.ref en0), .unset, .unset, .unset] [(.int (1 : Int32))])) _
        refine XS.iconst X76.here hx rfl (hb hby at_153) ?_
        show Steps p.tables e below (T76.setTop (mkF m 154 #[.val (.int x0), .val (.int x1), .val (.int x2), .val (.int bits), .val (.int (3 : Int32)), .val (.int (1 : Int32)), .val (.ref o), .val (.ref en0), .val (.ref en1), .val (.ref en2), .val (.ref en1), .val (.int (2 : Int32)), .val (.ref en0), .unset, .unset, .unset] [(.int (2 : Int32)), (.int (1 : Int32))])) _
        refine XS.icmpYes X76.here hx rfl (pc0 := 154) (pc' := 162) rfl (hb hby at_154) rfl (feq (by decide)).2 (by decide) (by decide) ?_
        show Steps p.tables e below (T76.setTop (mkF m 162 #[.val (.int x0), .val (.int x1), .val (.int x2), .val (.int bits), .val (.int (3 : Int32)), .val (.int (1 : Int32)), .val (.ref o), .val (.ref en0), .val (.ref en1), .val (.ref en2), .val (.ref en1), .val (.int (2 : Int32)), .val (.ref en0), .unset, .unset, .unset] [])) _
        refine XS.aload X76.here hx rfl (hb hby at_162) rfl rfl ?_
        show Steps p.tables e below (T76.setTop (mkF m 164 #[.val (.int x0), .val (.int x1), .val (.int x2), .val (.int bits), .val (.int (3 : Int32)), .val (.int (1 : Int32)), .val (.ref o), .val (.ref en0), .val (.ref en1), .val (.ref en2), .val (.ref en1), .val (.int (2 : Int32)), .val (.ref en0), .unset, .unset, .unset] [(.ref en2)])) _
        refine XS.astore X76.here hx rfl (hb hby at_164) rfl rfl (l' := #[.val (.int x0), .val (.int x1), .val (.int x2), .val (.int bits), .val (.int (3 : Int32)), .val (.int (1 : Int32)), .val (.ref o), .val (.ref en0), .val (.ref en1), .val (.ref en2), .val (.ref en1), .val (.int (2 : Int32)), .val (.ref en0), .val (.ref en2), .unset, .unset]) rfl ?_
        show Steps p.tables e below (T76.setTop (mkF m 166 #[.val (.int x0), .val (.int x1), .val (.int x2), .val (.int bits), .val (.int (3 : Int32)), .val (.int (1 : Int32)), .val (.ref o), .val (.ref en0), .val (.ref en1), .val (.ref en2), .val (.ref en1), .val (.int (2 : Int32)), .val (.ref en0), .val (.ref en2), .unset, .unset] [])) _
        refine XS.iload X76.here hx rfl (hb hby at_166) rfl ?_
        show Steps p.tables e below (T76.setTop (mkF m 168 #[.val (.int x0), .val (.int x1), .val (.int x2), .val (.int bits), .val (.int (3 : Int32)), .val (.int (1 : Int32)), .val (.ref o), .val (.ref en0), .val (.ref en1), .val (.ref en2), .val (.ref en1), .val (.int (2 : Int32)), .val (.ref en0), .val (.ref en2), .unset, .unset] [(.int (2 : Int32))])) _
        refine XS.ifYes X76.here hx rfl (pc0 := 168) (pc' := 189) rfl (hb hby at_168) rfl ((if0 _ _).trans (feq (by decide)).2) (by decide) (by decide) ?_
        show Steps p.tables e below (T76.setTop (mkF m 189 #[.val (.int x0), .val (.int x1), .val (.int x2), .val (.int bits), .val (.int (3 : Int32)), .val (.int (1 : Int32)), .val (.ref o), .val (.ref en0), .val (.ref en1), .val (.ref en2), .val (.ref en1), .val (.int (2 : Int32)), .val (.ref en0), .val (.ref en2), .unset, .unset] [])) _
        refine XS.iload X76.here hx rfl (hb hby at_189) rfl ?_
        show Steps p.tables e below (T76.setTop (mkF m 191 #[.val (.int x0), .val (.int x1), .val (.int x2), .val (.int bits), .val (.int (3 : Int32)), .val (.int (1 : Int32)), .val (.ref o), .val (.ref en0), .val (.ref en1), .val (.ref en2), .val (.ref en1), .val (.int (2 : Int32)), .val (.ref en0), .val (.ref en2), .unset, .unset] [(.int (2 : Int32))])) _
        refine XS.iconst X76.here hx rfl (hb hby at_191) ?_
        show Steps p.tables e below (T76.setTop (mkF m 192 #[.val (.int x0), .val (.int x1), .val (.int x2), .val (.int bits), .val (.int (3 : Int32)), .val (.int (1 : Int32)), .val (.ref o), .val (.ref en0), .val (.ref en1), .val (.ref en2), .val (.ref en1), .val (.int (2 : Int32)), .val (.ref en0), .val (.ref en2), .unset, .unset] [(.int (1 : Int32)), (.int (2 : Int32))])) _
        refine XS.icmpYes X76.here hx rfl (pc0 := 192) (pc' := 235) rfl (hb hby at_192) rfl (feq (by decide)).2 (by decide) (by decide) ?_
        show Steps p.tables e below (T76.setTop (mkF m 235 #[.val (.int x0), .val (.int x1), .val (.int x2), .val (.int bits), .val (.int (3 : Int32)), .val (.int (1 : Int32)), .val (.ref o), .val (.ref en0), .val (.ref en1), .val (.ref en2), .val (.ref en1), .val (.int (2 : Int32)), .val (.ref en0), .val (.ref en2), .unset, .unset] [])) _
        refine XS.aload X76.here hx rfl (hb hby at_235) rfl rfl ?_
        show Steps p.tables e below (T76.setTop (mkF m 237 #[.val (.int x0), .val (.int x1), .val (.int x2), .val (.int bits), .val (.int (3 : Int32)), .val (.int (1 : Int32)), .val (.ref o), .val (.ref en0), .val (.ref en1), .val (.ref en2), .val (.ref en1), .val (.int (2 : Int32)), .val (.ref en0), .val (.ref en2), .unset, .unset] [(.ref o)])) _
        exact kt
      obtain ⟨cq77, kq77, q77a, q77b, q77c⟩ := isOf hZ rfl E_o
      obtain ⟨_, _, ⟨T77, L77, k77, n77⟩, -, X77, ⟨Lc77, hQ77, l77, y77, z77⟩, st77⟩ := X76.virtualBack hx (y := (⟨"com/example/round_table/roundtable/engine/OrderList", "last", "()Lcom/example/round_table/roundtable/engine/OrderList$Entry;"⟩ : MethodName)) (z := (⟨"com/example/round_table/roundtable/engine/OrderList", "last", "()Lcom/example/round_table/roundtable/engine/OrderList$Entry;"⟩ : MethodName)) hown (mvT hZ (hw _ (List.mem_of_getElem? (i := 58) rfl))) (mvT hZ (hw _ (List.mem_of_getElem? (i := 33) rfl))) (notFace_of_selects (args := #[]) (mvT hZ (hw _ (List.mem_of_getElem? (i := 35) rfl)))) (mvT hZ (hw _ (List.mem_of_getElem? (i := 35) rfl))) (mvT hZ (hw _ (List.mem_of_getElem? (i := 34) rfl))) (by decide) (backOf (W := 0) (rm_lastN l Z a0 hw [] o hd en2 T76.heap n0 Z76 F_head_o F_last_o (Ne.symm ne_hd_en2)) hZ (hw _ (List.mem_of_getElem? (i := 36) rfl)) (hw _ (List.mem_of_getElem? (i := 3) rfl)) (by decide) (by decide)) q77a q77c (g := (mkF m 237 #[.val (.int x0), .val (.int x1), .val (.int x2), .val (.int bits), .val (.int (3 : Int32)), .val (.int (1 : Int32)), .val (.ref o), .val (.ref en0), .val (.ref en1), .val (.ref en2), .val (.ref en1), .val (.int (2 : Int32)), .val (.ref en0), .val (.ref en2), .unset, .unset] [(.ref o)])) rfl (by rw [hml]; rfl) (Steps.refl _) (argsL := []) (rest := []) (lenOf pd_2 rfl) rfl (by show 2 * 0 + _ ≤ _; exact Nat.le_of_eq rfl) (hb hby at_237) (fun _ _ => ⟨rfl, rfl, (by decide : 5 + 0 ≤ _), (by decide : 16 + 0 ≤ _)⟩)
      dsimp only [Pt.U, Pt.locs, Pt.cells, Pt.slots] at X77 l77 y77 z77 st77 hQ77
      subst l77 y77 z77
      obtain ⟨rfl, N77q, e77⟩ := hQ77
      have N77 := Fr.app N76 N77q
      refine RunsTo.of (T' := T77) (g' := (mkF m 240 #[.val (.int x0), .val (.int x1), .val (.int x2), .val (.int bits), .val (.int (3 : Int32)), .val (.int (1 : Int32)), .val (.ref o), .val (.ref en0), .val (.ref en1), .val (.ref en2), .val (.ref en1), .val (.int (2 : Int32)), .val (.ref en0), .val (.ref en2), .unset, .unset] [(.ref en2)])) (fun _ kt => st77.trans kt) ?_
      refine RunsTo.of (T' := T77) (g' := (mkF m 249 #[.val (.int x0), .val (.int x1), .val (.int x2), .val (.int bits), .val (.int (3 : Int32)), .val (.int (1 : Int32)), .val (.ref o), .val (.ref en0), .val (.ref en1), .val (.ref en2), .val (.ref en1), .val (.int (2 : Int32)), .val (.ref en0), .val (.ref en2), .unset, .unset] [(.ref en0), (.ref o)])) (fun tgt_ kt => ?_) ?_
      · refine XS.aload X77.here hx rfl (hb hby at_240) rfl rfl ?_
        show Steps p.tables e below (T77.setTop (mkF m 242 #[.val (.int x0), .val (.int x1), .val (.int x2), .val (.int bits), .val (.int (3 : Int32)), .val (.int (1 : Int32)), .val (.ref o), .val (.ref en0), .val (.ref en1), .val (.ref en2), .val (.ref en1), .val (.int (2 : Int32)), .val (.ref en0), .val (.ref en2), .unset, .unset] [(.ref en2), (.ref en2)])) _
        refine Jvm.RoadKit.acmp (g := (mkF m 242 #[.val (.int x0), .val (.int x1), .val (.int x2), .val (.int bits), .val (.int (3 : Int32)), .val (.int (1 : Int32)), .val (.ref o), .val (.ref en0), .val (.ref en1), .val (.ref en2), .val (.ref en1), .val (.int (2 : Int32)), .val (.ref en0), .val (.ref en2), .unset, .unset] [(.ref en2), (.ref en2)])) X77 hx rfl rfl rfl (pc0 := 242) (pc' := 245) (same := true) rfl (hb hby at_242) rfl (decide_eq_true (congrArg Value.ref rfl)) (by decide) (by decide) ?_
        show Steps p.tables e below (T77.setTop (mkF m 245 #[.val (.int x0), .val (.int x1), .val (.int x2), .val (.int bits), .val (.int (3 : Int32)), .val (.int (1 : Int32)), .val (.ref o), .val (.ref en0), .val (.ref en1), .val (.ref en2), .val (.ref en1), .val (.int (2 : Int32)), .val (.ref en0), .val (.ref en2), .unset, .unset] [])) _
        refine XS.aload X77.here hx rfl (hb hby at_245) rfl rfl ?_
        show Steps p.tables e below (T77.setTop (mkF m 247 #[.val (.int x0), .val (.int x1), .val (.int x2), .val (.int bits), .val (.int (3 : Int32)), .val (.int (1 : Int32)), .val (.ref o), .val (.ref en0), .val (.ref en1), .val (.ref en2), .val (.ref en1), .val (.int (2 : Int32)), .val (.ref en0), .val (.ref en2), .unset, .unset] [(.ref o)])) _
        refine XS.aload X77.here hx rfl (hb hby at_247) rfl rfl ?_
        show Steps p.tables e below (T77.setTop (mkF m 249 #[.val (.int x0), .val (.int x1), .val (.int x2), .val (.int bits), .val (.int (3 : Int32)), .val (.int (1 : Int32)), .val (.ref o), .val (.ref en0), .val (.ref en1), .val (.ref en2), .val (.ref en1), .val (.int (2 : Int32)), .val (.ref en0), .val (.ref en2), .unset, .unset] [(.ref en0), (.ref o)])) _
        exact kt
      obtain ⟨cq78, kq78, q78a, q78b, q78c⟩ := isOf hZ e77 E_o
      obtain ⟨_, _, ⟨T78, L78, k78, n78⟩, -, X78, ⟨Lc78, hQ78, l78, y78, z78⟩, st78⟩ := X77.virtualBack hx (y := (⟨"com/example/round_table/roundtable/engine/OrderList", "previous", "(Lcom/example/round_table/roundtable/engine/OrderList$Entry;)Lcom/example/round_table/roundtable/engine/OrderList$Entry;"⟩ : MethodName)) (z := (⟨"com/example/round_table/roundtable/engine/OrderList", "previous", "(Lcom/example/round_table/roundtable/engine/OrderList$Entry;)Lcom/example/round_table/roundtable/engine/OrderList$Entry;"⟩ : MethodName)) hown (mvT hZ (hw _ (List.mem_of_getElem? (i := 65) rfl))) (mvT hZ (hw _ (List.mem_of_getElem? (i := 66) rfl))) (notFace_of_selects (args := #[]) (mvT hZ (hw _ (List.mem_of_getElem? (i := 68) rfl)))) (mvT hZ (hw _ (List.mem_of_getElem? (i := 68) rfl))) (mvT hZ (hw _ (List.mem_of_getElem? (i := 67) rfl))) (by decide) (backOf (W := 0) (rm_prevE l Z a0 hw [] o en0 hd T76.heap n0 Z76 F_head_o F_previous_en0) hZ (hw _ (List.mem_of_getElem? (i := 69) rfl)) (hw _ (List.mem_of_getElem? (i := 3) rfl)) (by decide) (by decide)) q78a q78c (g := (mkF m 249 #[.val (.int x0), .val (.int x1), .val (.int x2), .val (.int bits), .val (.int (3 : Int32)), .val (.int (1 : Int32)), .val (.ref o), .val (.ref en0), .val (.ref en1), .val (.ref en2), .val (.ref en1), .val (.int (2 : Int32)), .val (.ref en0), .val (.ref en2), .unset, .unset] [(.ref en0), (.ref o)])) rfl (by rw [hml]; rfl) (Steps.refl _) (argsL := [(.ref en0)]) (rest := []) (lenOf pd_6 rfl) rfl (by show 2 * 0 + _ ≤ _; exact Nat.le_of_eq rfl) (hb hby at_249) (fun _ _ => ⟨rfl, e77, (by decide : 5 + 0 ≤ _), (by decide : 16 + 0 ≤ _)⟩)
      dsimp only [Pt.U, Pt.locs, Pt.cells, Pt.slots] at X78 l78 y78 z78 st78 hQ78
      subst l78 y78 z78
      obtain ⟨rfl, N78q, e78⟩ := hQ78
      have N78 := Fr.app N77 N78q
      refine RunsTo.of (T' := T78) (g' := (mkF m 252 #[.val (.int x0), .val (.int x1), .val (.int x2), .val (.int bits), .val (.int (3 : Int32)), .val (.int (1 : Int32)), .val (.ref o), .val (.ref en0), .val (.ref en1), .val (.ref en2), .val (.ref en1), .val (.int (2 : Int32)), .val (.ref en0), .val (.ref en2), .unset, .unset] [.null])) (fun _ kt => st78.trans kt) ?_
      refine RunsTo.of (T' := T78) (g' := (mkF m 259 #[.val (.int x0), .val (.int x1), .val (.int x2), .val (.int bits), .val (.int (3 : Int32)), .val (.int (1 : Int32)), .val (.ref o), .val (.ref en0), .val (.ref en1), .val (.ref en2), .val (.ref en1), .val (.int (2 : Int32)), .val (.ref en0), .val (.ref en2), .unset, .unset] [(.ref en0), (.ref o)])) (fun tgt_ kt => ?_) ?_
      · refine XS.ifnonnullNo X78.here hx rfl (hb hby at_252) rfl ?_
        show Steps p.tables e below (T78.setTop (mkF m 255 #[.val (.int x0), .val (.int x1), .val (.int x2), .val (.int bits), .val (.int (3 : Int32)), .val (.int (1 : Int32)), .val (.ref o), .val (.ref en0), .val (.ref en1), .val (.ref en2), .val (.ref en1), .val (.int (2 : Int32)), .val (.ref en0), .val (.ref en2), .unset, .unset] [])) _
        refine XS.aload X78.here hx rfl (hb hby at_255) rfl rfl ?_
        show Steps p.tables e below (T78.setTop (mkF m 257 #[.val (.int x0), .val (.int x1), .val (.int x2), .val (.int bits), .val (.int (3 : Int32)), .val (.int (1 : Int32)), .val (.ref o), .val (.ref en0), .val (.ref en1), .val (.ref en2), .val (.ref en1), .val (.int (2 : Int32)), .val (.ref en0), .val (.ref en2), .unset, .unset] [(.ref o)])) _
        refine XS.aload X78.here hx rfl (hb hby at_257) rfl rfl ?_
        show Steps p.tables e below (T78.setTop (mkF m 259 #[.val (.int x0), .val (.int x1), .val (.int x2), .val (.int bits), .val (.int (3 : Int32)), .val (.int (1 : Int32)), .val (.ref o), .val (.ref en0), .val (.ref en1), .val (.ref en2), .val (.ref en1), .val (.int (2 : Int32)), .val (.ref en0), .val (.ref en2), .unset, .unset] [(.ref en0), (.ref o)])) _
        exact kt
      obtain ⟨cq79, kq79, q79a, q79b, q79c⟩ := isOf hZ e78 E_o
      obtain ⟨_, _, ⟨T79, L79, k79, n79⟩, -, X79, ⟨Lc79, hQ79, l79, y79, z79⟩, st79⟩ := X78.virtualBack hx (y := (⟨"com/example/round_table/roundtable/engine/OrderList", "next", "(Lcom/example/round_table/roundtable/engine/OrderList$Entry;)Lcom/example/round_table/roundtable/engine/OrderList$Entry;"⟩ : MethodName)) (z := (⟨"com/example/round_table/roundtable/engine/OrderList", "next", "(Lcom/example/round_table/roundtable/engine/OrderList$Entry;)Lcom/example/round_table/roundtable/engine/OrderList$Entry;"⟩ : MethodName)) hown (mvT hZ (hw _ (List.mem_of_getElem? (i := 60) rfl))) (mvT hZ (hw _ (List.mem_of_getElem? (i := 61) rfl))) (notFace_of_selects (args := #[]) (mvT hZ (hw _ (List.mem_of_getElem? (i := 63) rfl)))) (mvT hZ (hw _ (List.mem_of_getElem? (i := 63) rfl))) (mvT hZ (hw _ (List.mem_of_getElem? (i := 62) rfl))) (by decide) (backOf (W := 0) (rm9 l Z a0 hw [] o en0 (.ref en2) rfl T76.heap n0 Z76 F_next_en0) hZ (hw _ (List.mem_of_getElem? (i := 64) rfl)) (hw _ (List.mem_of_getElem? (i := 3) rfl)) (by decide) (by decide)) q79a q79c (g := (mkF m 259 #[.val (.int x0), .val (.int x1), .val (.int x2), .val (.int bits), .val (.int (3 : Int32)), .val (.int (1 : Int32)), .val (.ref o), .val (.ref en0), .val (.ref en1), .val (.ref en2), .val (.ref en1), .val (.int (2 : Int32)), .val (.ref en0), .val (.ref en2), .unset, .unset] [(.ref en0), (.ref o)])) rfl (by rw [hml]; rfl) (Steps.refl _) (argsL := [(.ref en0)]) (rest := []) (lenOf pd_6 rfl) rfl (by show 2 * 0 + _ ≤ _; exact Nat.le_of_eq rfl) (hb hby at_259) (fun _ _ => ⟨rfl, e78, (by decide : 5 + 0 ≤ _), (by decide : 16 + 0 ≤ _)⟩)
      dsimp only [Pt.U, Pt.locs, Pt.cells, Pt.slots] at X79 l79 y79 z79 st79 hQ79
      subst l79 y79 z79
      obtain ⟨rfl, N79q, e79⟩ := hQ79
      have N79 := Fr.app N78 N79q
      refine RunsTo.of (T' := T79) (g' := (mkF m 262 #[.val (.int x0), .val (.int x1), .val (.int x2), .val (.int bits), .val (.int (3 : Int32)), .val (.int (1 : Int32)), .val (.ref o), .val (.ref en0), .val (.ref en1), .val (.ref en2), .val (.ref en1), .val (.int (2 : Int32)), .val (.ref en0), .val (.ref en2), .unset, .unset] [(.ref en2)])) (fun _ kt => st79.trans kt) ?_
      refine RunsTo.of (T' := T79) (g' := (mkF m 271 #[.val (.int x0), .val (.int x1), .val (.int x2), .val (.int bits), .val (.int (3 : Int32)), .val (.int (1 : Int32)), .val (.ref o), .val (.ref en0), .val (.ref en1), .val (.ref en2), .val (.ref en1), .val (.int (2 : Int32)), .val (.ref en0), .val (.ref en2), .unset, .unset] [(.ref en2), (.ref o)])) (fun tgt_ kt => ?_) ?_
      · refine XS.aload X79.here hx rfl (hb hby at_262) rfl rfl ?_
        show Steps p.tables e below (T79.setTop (mkF m 264 #[.val (.int x0), .val (.int x1), .val (.int x2), .val (.int bits), .val (.int (3 : Int32)), .val (.int (1 : Int32)), .val (.ref o), .val (.ref en0), .val (.ref en1), .val (.ref en2), .val (.ref en1), .val (.int (2 : Int32)), .val (.ref en0), .val (.ref en2), .unset, .unset] [(.ref en2), (.ref en2)])) _
        refine Jvm.RoadKit.acmp (g := (mkF m 264 #[.val (.int x0), .val (.int x1), .val (.int x2), .val (.int bits), .val (.int (3 : Int32)), .val (.int (1 : Int32)), .val (.ref o), .val (.ref en0), .val (.ref en1), .val (.ref en2), .val (.ref en1), .val (.int (2 : Int32)), .val (.ref en0), .val (.ref en2), .unset, .unset] [(.ref en2), (.ref en2)])) X79 hx rfl rfl rfl (pc0 := 264) (pc' := 267) (same := true) rfl (hb hby at_264) rfl (decide_eq_true (congrArg Value.ref rfl)) (by decide) (by decide) ?_
        show Steps p.tables e below (T79.setTop (mkF m 267 #[.val (.int x0), .val (.int x1), .val (.int x2), .val (.int bits), .val (.int (3 : Int32)), .val (.int (1 : Int32)), .val (.ref o), .val (.ref en0), .val (.ref en1), .val (.ref en2), .val (.ref en1), .val (.int (2 : Int32)), .val (.ref en0), .val (.ref en2), .unset, .unset] [])) _
        refine XS.aload X79.here hx rfl (hb hby at_267) rfl rfl ?_
        show Steps p.tables e below (T79.setTop (mkF m 269 #[.val (.int x0), .val (.int x1), .val (.int x2), .val (.int bits), .val (.int (3 : Int32)), .val (.int (1 : Int32)), .val (.ref o), .val (.ref en0), .val (.ref en1), .val (.ref en2), .val (.ref en1), .val (.int (2 : Int32)), .val (.ref en0), .val (.ref en2), .unset, .unset] [(.ref o)])) _
        refine XS.aload X79.here hx rfl (hb hby at_269) rfl rfl ?_
        show Steps p.tables e below (T79.setTop (mkF m 271 #[.val (.int x0), .val (.int x1), .val (.int x2), .val (.int bits), .val (.int (3 : Int32)), .val (.int (1 : Int32)), .val (.ref o), .val (.ref en0), .val (.ref en1), .val (.ref en2), .val (.ref en1), .val (.int (2 : Int32)), .val (.ref en0), .val (.ref en2), .unset, .unset] [(.ref en2), (.ref o)])) _
        exact kt
      obtain ⟨cq80, kq80, q80a, q80b, q80c⟩ := isOf hZ e79 E_o
      obtain ⟨_, _, ⟨T80, L80, k80, n80⟩, -, X80, ⟨Lc80, hQ80, l80, y80, z80⟩, st80⟩ := X79.virtualBack hx (y := (⟨"com/example/round_table/roundtable/engine/OrderList", "previous", "(Lcom/example/round_table/roundtable/engine/OrderList$Entry;)Lcom/example/round_table/roundtable/engine/OrderList$Entry;"⟩ : MethodName)) (z := (⟨"com/example/round_table/roundtable/engine/OrderList", "previous", "(Lcom/example/round_table/roundtable/engine/OrderList$Entry;)Lcom/example/round_table/roundtable/engine/OrderList$Entry;"⟩ : MethodName)) hown (mvT hZ (hw _ (List.mem_of_getElem? (i := 65) rfl))) (mvT hZ (hw _ (List.mem_of_getElem? (i := 66) rfl))) (notFace_of_selects (args := #[]) (mvT hZ (hw _ (List.mem_of_getElem? (i := 68) rfl)))) (mvT hZ (hw _ (List.mem_of_getElem? (i := 68) rfl))) (mvT hZ (hw _ (List.mem_of_getElem? (i := 67) rfl))) (by decide) (backOf (W := 0) (rm_prevN l Z a0 hw [] o en2 hd en0 T76.heap n0 Z76 F_head_o F_previous_en2 (Ne.symm ne_hd_en0)) hZ (hw _ (List.mem_of_getElem? (i := 69) rfl)) (hw _ (List.mem_of_getElem? (i := 3) rfl)) (by decide) (by decide)) q80a q80c (g := (mkF m 271 #[.val (.int x0), .val (.int x1), .val (.int x2), .val (.int bits), .val (.int (3 : Int32)), .val (.int (1 : Int32)), .val (.ref o), .val (.ref en0), .val (.ref en1), .val (.ref en2), .val (.ref en1), .val (.int (2 : Int32)), .val (.ref en0), .val (.ref en2), .unset, .unset] [(.ref en2), (.ref o)])) rfl (by rw [hml]; rfl) (Steps.refl _) (argsL := [(.ref en2)]) (rest := []) (lenOf pd_6 rfl) rfl (by show 2 * 0 + _ ≤ _; exact Nat.le_of_eq rfl) (hb hby at_271) (fun _ _ => ⟨rfl, e79, (by decide : 5 + 0 ≤ _), (by decide : 16 + 0 ≤ _)⟩)
      dsimp only [Pt.U, Pt.locs, Pt.cells, Pt.slots] at X80 l80 y80 z80 st80 hQ80
      subst l80 y80 z80
      obtain ⟨rfl, N80q, e80⟩ := hQ80
      have N80 := Fr.app N79 N80q
      refine RunsTo.of (T' := T80) (g' := (mkF m 274 #[.val (.int x0), .val (.int x1), .val (.int x2), .val (.int bits), .val (.int (3 : Int32)), .val (.int (1 : Int32)), .val (.ref o), .val (.ref en0), .val (.ref en1), .val (.ref en2), .val (.ref en1), .val (.int (2 : Int32)), .val (.ref en0), .val (.ref en2), .unset, .unset] [(.ref en0)])) (fun _ kt => st80.trans kt) ?_
      refine RunsTo.of (T' := T80) (g' := (mkF m 283 #[.val (.int x0), .val (.int x1), .val (.int x2), .val (.int bits), .val (.int (3 : Int32)), .val (.int (1 : Int32)), .val (.ref o), .val (.ref en0), .val (.ref en1), .val (.ref en2), .val (.ref en1), .val (.int (2 : Int32)), .val (.ref en0), .val (.ref en2), .unset, .unset] [(.ref en2), (.ref o)])) (fun tgt_ kt => ?_) ?_
      · refine XS.aload X80.here hx rfl (hb hby at_274) rfl rfl ?_
        show Steps p.tables e below (T80.setTop (mkF m 276 #[.val (.int x0), .val (.int x1), .val (.int x2), .val (.int bits), .val (.int (3 : Int32)), .val (.int (1 : Int32)), .val (.ref o), .val (.ref en0), .val (.ref en1), .val (.ref en2), .val (.ref en1), .val (.int (2 : Int32)), .val (.ref en0), .val (.ref en2), .unset, .unset] [(.ref en0), (.ref en0)])) _
        refine Jvm.RoadKit.acmp (g := (mkF m 276 #[.val (.int x0), .val (.int x1), .val (.int x2), .val (.int bits), .val (.int (3 : Int32)), .val (.int (1 : Int32)), .val (.ref o), .val (.ref en0), .val (.ref en1), .val (.ref en2), .val (.ref en1), .val (.int (2 : Int32)), .val (.ref en0), .val (.ref en2), .unset, .unset] [(.ref en0), (.ref en0)])) X80 hx rfl rfl rfl (pc0 := 276) (pc' := 279) (same := true) rfl (hb hby at_276) rfl (decide_eq_true (congrArg Value.ref rfl)) (by decide) (by decide) ?_
        show Steps p.tables e below (T80.setTop (mkF m 279 #[.val (.int x0), .val (.int x1), .val (.int x2), .val (.int bits), .val (.int (3 : Int32)), .val (.int (1 : Int32)), .val (.ref o), .val (.ref en0), .val (.ref en1), .val (.ref en2), .val (.ref en1), .val (.int (2 : Int32)), .val (.ref en0), .val (.ref en2), .unset, .unset] [])) _
        refine XS.aload X80.here hx rfl (hb hby at_279) rfl rfl ?_
        show Steps p.tables e below (T80.setTop (mkF m 281 #[.val (.int x0), .val (.int x1), .val (.int x2), .val (.int bits), .val (.int (3 : Int32)), .val (.int (1 : Int32)), .val (.ref o), .val (.ref en0), .val (.ref en1), .val (.ref en2), .val (.ref en1), .val (.int (2 : Int32)), .val (.ref en0), .val (.ref en2), .unset, .unset] [(.ref o)])) _
        refine XS.aload X80.here hx rfl (hb hby at_281) rfl rfl ?_
        show Steps p.tables e below (T80.setTop (mkF m 283 #[.val (.int x0), .val (.int x1), .val (.int x2), .val (.int bits), .val (.int (3 : Int32)), .val (.int (1 : Int32)), .val (.ref o), .val (.ref en0), .val (.ref en1), .val (.ref en2), .val (.ref en1), .val (.int (2 : Int32)), .val (.ref en0), .val (.ref en2), .unset, .unset] [(.ref en2), (.ref o)])) _
        exact kt
      obtain ⟨cq81, kq81, q81a, q81b, q81c⟩ := isOf hZ e80 E_o
      obtain ⟨_, _, ⟨T81, L81, k81, n81⟩, -, X81, ⟨Lc81, hQ81, l81, y81, z81⟩, st81⟩ := X80.virtualBack hx (y := (⟨"com/example/round_table/roundtable/engine/OrderList", "next", "(Lcom/example/round_table/roundtable/engine/OrderList$Entry;)Lcom/example/round_table/roundtable/engine/OrderList$Entry;"⟩ : MethodName)) (z := (⟨"com/example/round_table/roundtable/engine/OrderList", "next", "(Lcom/example/round_table/roundtable/engine/OrderList$Entry;)Lcom/example/round_table/roundtable/engine/OrderList$Entry;"⟩ : MethodName)) hown (mvT hZ (hw _ (List.mem_of_getElem? (i := 60) rfl))) (mvT hZ (hw _ (List.mem_of_getElem? (i := 61) rfl))) (notFace_of_selects (args := #[]) (mvT hZ (hw _ (List.mem_of_getElem? (i := 63) rfl)))) (mvT hZ (hw _ (List.mem_of_getElem? (i := 63) rfl))) (mvT hZ (hw _ (List.mem_of_getElem? (i := 62) rfl))) (by decide) (backOf (W := 0) (rm9 l Z a0 hw [] o en2 .null rfl T76.heap n0 Z76 F_next_en2) hZ (hw _ (List.mem_of_getElem? (i := 64) rfl)) (hw _ (List.mem_of_getElem? (i := 3) rfl)) (by decide) (by decide)) q81a q81c (g := (mkF m 283 #[.val (.int x0), .val (.int x1), .val (.int x2), .val (.int bits), .val (.int (3 : Int32)), .val (.int (1 : Int32)), .val (.ref o), .val (.ref en0), .val (.ref en1), .val (.ref en2), .val (.ref en1), .val (.int (2 : Int32)), .val (.ref en0), .val (.ref en2), .unset, .unset] [(.ref en2), (.ref o)])) rfl (by rw [hml]; rfl) (Steps.refl _) (argsL := [(.ref en2)]) (rest := []) (lenOf pd_6 rfl) rfl (by show 2 * 0 + _ ≤ _; exact Nat.le_of_eq rfl) (hb hby at_283) (fun _ _ => ⟨rfl, e80, (by decide : 5 + 0 ≤ _), (by decide : 16 + 0 ≤ _)⟩)
      dsimp only [Pt.U, Pt.locs, Pt.cells, Pt.slots] at X81 l81 y81 z81 st81 hQ81
      subst l81 y81 z81
      obtain ⟨rfl, N81q, e81⟩ := hQ81
      have N81 := Fr.app N80 N81q
      refine RunsTo.of (T' := T81) (g' := (mkF m 286 #[.val (.int x0), .val (.int x1), .val (.int x2), .val (.int bits), .val (.int (3 : Int32)), .val (.int (1 : Int32)), .val (.ref o), .val (.ref en0), .val (.ref en1), .val (.ref en2), .val (.ref en1), .val (.int (2 : Int32)), .val (.ref en0), .val (.ref en2), .unset, .unset] [.null])) (fun _ kt => st81.trans kt) ?_
      refine RunsTo.of (T' := T81) (g' := (mkF m 301 #[.val (.int x0), .val (.int x1), .val (.int x2), .val (.int bits), .val (.int (3 : Int32)), .val (.int (1 : Int32)), .val (.ref o), .val (.ref en0), .val (.ref en1), .val (.ref en2), .val (.ref en1), .val (.int (2 : Int32)), .val (.ref en0), .val (.ref en2), .val (.int (1 : Int32)), .unset] [(.ref en1), .null, (.ref o)])) (fun tgt_ kt => ?_) ?_
      · refine XS.ifnonnullNo X81.here hx rfl (hb hby at_286) rfl ?_
        show Steps p.tables e below (T81.setTop (mkF m 289 #[.val (.int x0), .val (.int x1), .val (.int x2), .val (.int bits), .val (.int (3 : Int32)), .val (.int (1 : Int32)), .val (.ref o), .val (.ref en0), .val (.ref en1), .val (.ref en2), .val (.ref en1), .val (.int (2 : Int32)), .val (.ref en0), .val (.ref en2), .unset, .unset] [])) _
        refine XS.iconst X81.here hx rfl (hb hby at_289) ?_
        show Steps p.tables e below (T81.setTop (mkF m 290 #[.val (.int x0), .val (.int x1), .val (.int x2), .val (.int bits), .val (.int (3 : Int32)), .val (.int (1 : Int32)), .val (.ref o), .val (.ref en0), .val (.ref en1), .val (.ref en2), .val (.ref en1), .val (.int (2 : Int32)), .val (.ref en0), .val (.ref en2), .unset, .unset] [(.int (1 : Int32))])) _
        refine XS.goto X81.here hx rfl (pc0 := 290) (pc' := 294) rfl (hb hby at_290) (by decide) (by decide) ?_
        show Steps p.tables e below (T81.setTop (mkF m 294 #[.val (.int x0), .val (.int x1), .val (.int x2), .val (.int bits), .val (.int (3 : Int32)), .val (.int (1 : Int32)), .val (.ref o), .val (.ref en0), .val (.ref en1), .val (.ref en2), .val (.ref en1), .val (.int (2 : Int32)), .val (.ref en0), .val (.ref en2), .unset, .unset] [(.int (1 : Int32))])) _
        refine XS.istore X81.here hx rfl (hb hby at_294) rfl (l' := #[.val (.int x0), .val (.int x1), .val (.int x2), .val (.int bits), .val (.int (3 : Int32)), .val (.int (1 : Int32)), .val (.ref o), .val (.ref en0), .val (.ref en1), .val (.ref en2), .val (.ref en1), .val (.int (2 : Int32)), .val (.ref en0), .val (.ref en2), .val (.int (1 : Int32)), .unset]) rfl ?_
        show Steps p.tables e below (T81.setTop (mkF m 296 #[.val (.int x0), .val (.int x1), .val (.int x2), .val (.int bits), .val (.int (3 : Int32)), .val (.int (1 : Int32)), .val (.ref o), .val (.ref en0), .val (.ref en1), .val (.ref en2), .val (.ref en1), .val (.int (2 : Int32)), .val (.ref en0), .val (.ref en2), .val (.int (1 : Int32)), .unset] [])) _
        refine XS.aload X81.here hx rfl (hb hby at_296) rfl rfl ?_
        show Steps p.tables e below (T81.setTop (mkF m 298 #[.val (.int x0), .val (.int x1), .val (.int x2), .val (.int bits), .val (.int (3 : Int32)), .val (.int (1 : Int32)), .val (.ref o), .val (.ref en0), .val (.ref en1), .val (.ref en2), .val (.ref en1), .val (.int (2 : Int32)), .val (.ref en0), .val (.ref en2), .val (.int (1 : Int32)), .unset] [(.ref o)])) _
        refine XS.aconstNull X81.here hx rfl (hb hby at_298) ?_
        show Steps p.tables e below (T81.setTop (mkF m 299 #[.val (.int x0), .val (.int x1), .val (.int x2), .val (.int bits), .val (.int (3 : Int32)), .val (.int (1 : Int32)), .val (.ref o), .val (.ref en0), .val (.ref en1), .val (.ref en2), .val (.ref en1), .val (.int (2 : Int32)), .val (.ref en0), .val (.ref en2), .val (.int (1 : Int32)), .unset] [.null, (.ref o)])) _
        refine XS.aload X81.here hx rfl (hb hby at_299) rfl rfl ?_
        show Steps p.tables e below (T81.setTop (mkF m 301 #[.val (.int x0), .val (.int x1), .val (.int x2), .val (.int bits), .val (.int (3 : Int32)), .val (.int (1 : Int32)), .val (.ref o), .val (.ref en0), .val (.ref en1), .val (.ref en2), .val (.ref en1), .val (.int (2 : Int32)), .val (.ref en0), .val (.ref en2), .val (.int (1 : Int32)), .unset] [(.ref en1), .null, (.ref o)])) _
        exact kt
      obtain ⟨cq82, kq82, q82a, q82b, q82c⟩ := isOf hZ e81 E_o
      obtain ⟨_, _, ⟨T82, L82, k82, n82⟩, -, X82, ⟨Lc82, hQ82, l82, y82, z82⟩, st82⟩ := X81.virtualBack hx (y := (⟨"com/example/round_table/roundtable/engine/OrderList", "insertAfter", "(Lcom/example/round_table/roundtable/engine/OrderList$Entry;Lcom/example/round_table/roundtable/engine/OrderList$Entry;)V"⟩ : MethodName)) (z := (⟨"com/example/round_table/roundtable/engine/OrderList", "insertAfter", "(Lcom/example/round_table/roundtable/engine/OrderList$Entry;Lcom/example/round_table/roundtable/engine/OrderList$Entry;)V"⟩ : MethodName)) hown (mvT hZ (hw _ (List.mem_of_getElem? (i := 59) rfl))) (mvT hZ (hw _ (List.mem_of_getElem? (i := 38) rfl))) (notFace_of_selects (args := #[]) (mvT hZ (hw _ (List.mem_of_getElem? (i := 40) rfl)))) (mvT hZ (hw _ (List.mem_of_getElem? (i := 40) rfl))) (mvT hZ (hw _ (List.mem_of_getElem? (i := 39) rfl))) (by decide) (backOf (W := 0) (rm_insF l Z a0 hw [] o en1 hd en0 (.ref en2) bits eg lab_en0 lab_en1 (.ref en2) T76.heap n0 Z76 E_o g_o F_head_o F_last_o F_labelBits_o F_endGap_o E_hd g_hd F_label_hd F_previous_hd F_next_hd E_en0 g_en0 F_label_en0 F_previous_en0 F_next_en0 E_en1 g_en1 F_label_en1 F_previous_en1 F_next_en1 ne_o_hd ne_o_en1 ne_o_en0 ne_hd_en1 ne_hd_en0 ne_en0_en1 (by omega)) hZ (hw _ (List.mem_of_getElem? (i := 41) rfl)) (hw _ (List.mem_of_getElem? (i := 3) rfl)) (by decide) (by decide)) q82a q82c (g := (mkF m 301 #[.val (.int x0), .val (.int x1), .val (.int x2), .val (.int bits), .val (.int (3 : Int32)), .val (.int (1 : Int32)), .val (.ref o), .val (.ref en0), .val (.ref en1), .val (.ref en2), .val (.ref en1), .val (.int (2 : Int32)), .val (.ref en0), .val (.ref en2), .val (.int (1 : Int32)), .unset] [(.ref en1), .null, (.ref o)])) rfl (by rw [hml]; rfl) (Steps.refl _) (argsL := [.null, (.ref en1)]) (rest := []) (lenOf pd_3 rfl) rfl (by show 2 * 0 + _ ≤ _; exact Nat.le_of_eq rfl) (hb hby at_301) (fun _ _ => ⟨rfl, e81, (by decide : 5 + 0 ≤ _), (by decide : 16 + 0 ≤ _)⟩)
      dsimp only [Pt.U, Pt.locs, Pt.cells, Pt.slots] at X82 l82 y82 z82 st82 hQ82
      subst l82 y82 z82
      obtain ⟨rfl, N82q, K82, F_next_en1⟩ := hQ82
      have N82 := Fr.app N81 N82q
      have Z82 : n0 ≤ T82.heap.size := Nat.le_trans Z76 K82.1
      have E_o := E_o.keep K82
      have E_hd := E_hd.keep K82
      have E_en0 := E_en0.keep K82
      have E_en1 := E_en1.keep K82
      have E_en2 := E_en2.keep K82
      have F_label_en2 := F_label_en2.keep K82 (ninS (Ne.symm ne_o_en2) (ninS (Ne.symm ne_hd_en2) (ninS (Ne.symm ne_en0_en2) (ninS (Ne.symm ne_en1_en2) nin0))))
      have F_previous_en2 := F_previous_en2.keep K82 (ninS (Ne.symm ne_o_en2) (ninS (Ne.symm ne_hd_en2) (ninS (Ne.symm ne_en0_en2) (ninS (Ne.symm ne_en1_en2) nin0))))
      have F_next_en2 := F_next_en2.keep K82 (ninS (Ne.symm ne_o_en2) (ninS (Ne.symm ne_hd_en2) (ninS (Ne.symm ne_en0_en2) (ninS (Ne.symm ne_en1_en2) nin0))))
      refine RunsTo.of (T' := T82) (g' := (mkF m 304 #[.val (.int x0), .val (.int x1), .val (.int x2), .val (.int bits), .val (.int (3 : Int32)), .val (.int (1 : Int32)), .val (.ref o), .val (.ref en0), .val (.ref en1), .val (.ref en2), .val (.ref en1), .val (.int (2 : Int32)), .val (.ref en0), .val (.ref en2), .val (.int (1 : Int32)), .unset] [])) (fun _ kt => st82.trans kt) ?_
      refine RunsTo.of (T' := T82) (g' := (mkF m 326 #[.val (.int x0), .val (.int x1), .val (.int x2), .val (.int bits), .val (.int (3 : Int32)), .val (.int (1 : Int32)), .val (.ref o), .val (.ref en0), .val (.ref en1), .val (.ref en2), .val (.ref en1), .val (.int (2 : Int32)), .val (.ref en0), .val (.ref en2), .val (.int (1 : Int32)), .val (.ref en0)] [(.ref en1), (.ref o)])) (fun tgt_ kt => ?_) ?_
      · refine XS.iload X82.here hx rfl (hb hby at_304) rfl ?_
        show Steps p.tables e below (T82.setTop (mkF m 306 #[.val (.int x0), .val (.int x1), .val (.int x2), .val (.int bits), .val (.int (3 : Int32)), .val (.int (1 : Int32)), .val (.ref o), .val (.ref en0), .val (.ref en1), .val (.ref en2), .val (.ref en1), .val (.int (2 : Int32)), .val (.ref en0), .val (.ref en2), .val (.int (1 : Int32)), .unset] [(.int (2 : Int32))])) _
        refine XS.ifYes X82.here hx rfl (pc0 := 306) (pc' := 313) rfl (hb hby at_306) rfl ((if0 _ _).trans (feq (by decide)).2) (by decide) (by decide) ?_
        show Steps p.tables e below (T82.setTop (mkF m 313 #[.val (.int x0), .val (.int x1), .val (.int x2), .val (.int bits), .val (.int (3 : Int32)), .val (.int (1 : Int32)), .val (.ref o), .val (.ref en0), .val (.ref en1), .val (.ref en2), .val (.ref en1), .val (.int (2 : Int32)), .val (.ref en0), .val (.ref en2), .val (.int (1 : Int32)), .unset] [])) _
        refine XS.aload X82.here hx rfl (hb hby at_313) rfl rfl ?_
        show Steps p.tables e below (T82.setTop (mkF m 315 #[.val (.int x0), .val (.int x1), .val (.int x2), .val (.int bits), .val (.int (3 : Int32)), .val (.int (1 : Int32)), .val (.ref o), .val (.ref en0), .val (.ref en1), .val (.ref en2), .val (.ref en1), .val (.int (2 : Int32)), .val (.ref en0), .val (.ref en2), .val (.int (1 : Int32)), .unset] [(.ref en0)])) _
        refine XS.astore X82.here hx rfl (hb hby at_315) rfl rfl (l' := #[.val (.int x0), .val (.int x1), .val (.int x2), .val (.int bits), .val (.int (3 : Int32)), .val (.int (1 : Int32)), .val (.ref o), .val (.ref en0), .val (.ref en1), .val (.ref en2), .val (.ref en1), .val (.int (2 : Int32)), .val (.ref en0), .val (.ref en2), .val (.int (1 : Int32)), .val (.ref en0)]) rfl ?_
        show Steps p.tables e below (T82.setTop (mkF m 317 #[.val (.int x0), .val (.int x1), .val (.int x2), .val (.int bits), .val (.int (3 : Int32)), .val (.int (1 : Int32)), .val (.ref o), .val (.ref en0), .val (.ref en1), .val (.ref en2), .val (.ref en1), .val (.int (2 : Int32)), .val (.ref en0), .val (.ref en2), .val (.int (1 : Int32)), .val (.ref en0)] [])) _
        refine XS.iload X82.here hx rfl (hb hby at_317) rfl ?_
        show Steps p.tables e below (T82.setTop (mkF m 319 #[.val (.int x0), .val (.int x1), .val (.int x2), .val (.int bits), .val (.int (3 : Int32)), .val (.int (1 : Int32)), .val (.ref o), .val (.ref en0), .val (.ref en1), .val (.ref en2), .val (.ref en1), .val (.int (2 : Int32)), .val (.ref en0), .val (.ref en2), .val (.int (1 : Int32)), .val (.ref en0)] [(.int (1 : Int32))])) _
        refine XS.ifNo X82.here hx rfl (hb hby at_319) rfl ((if0 _ _).trans (feq (by decide)).1) ?_
        show Steps p.tables e below (T82.setTop (mkF m 322 #[.val (.int x0), .val (.int x1), .val (.int x2), .val (.int bits), .val (.int (3 : Int32)), .val (.int (1 : Int32)), .val (.ref o), .val (.ref en0), .val (.ref en1), .val (.ref en2), .val (.ref en1), .val (.int (2 : Int32)), .val (.ref en0), .val (.ref en2), .val (.int (1 : Int32)), .val (.ref en0)] [])) _
        refine XS.aload X82.here hx rfl (hb hby at_322) rfl rfl ?_
        show Steps p.tables e below (T82.setTop (mkF m 324 #[.val (.int x0), .val (.int x1), .val (.int x2), .val (.int bits), .val (.int (3 : Int32)), .val (.int (1 : Int32)), .val (.ref o), .val (.ref en0), .val (.ref en1), .val (.ref en2), .val (.ref en1), .val (.int (2 : Int32)), .val (.ref en0), .val (.ref en2), .val (.int (1 : Int32)), .val (.ref en0)] [(.ref o)])) _
        refine XS.aload X82.here hx rfl (hb hby at_324) rfl rfl ?_
        show Steps p.tables e below (T82.setTop (mkF m 326 #[.val (.int x0), .val (.int x1), .val (.int x2), .val (.int bits), .val (.int (3 : Int32)), .val (.int (1 : Int32)), .val (.ref o), .val (.ref en0), .val (.ref en1), .val (.ref en2), .val (.ref en1), .val (.int (2 : Int32)), .val (.ref en0), .val (.ref en2), .val (.int (1 : Int32)), .val (.ref en0)] [(.ref en1), (.ref o)])) _
        exact kt
      obtain ⟨cq83, kq83, q83a, q83b, q83c⟩ := isOf hZ rfl E_o
      obtain ⟨_, _, ⟨T83, L83, k83, n83⟩, -, X83, ⟨Lc83, hQ83, l83, y83, z83⟩, st83⟩ := X82.virtualBack hx (y := (⟨"com/example/round_table/roundtable/engine/OrderList", "next", "(Lcom/example/round_table/roundtable/engine/OrderList$Entry;)Lcom/example/round_table/roundtable/engine/OrderList$Entry;"⟩ : MethodName)) (z := (⟨"com/example/round_table/roundtable/engine/OrderList", "next", "(Lcom/example/round_table/roundtable/engine/OrderList$Entry;)Lcom/example/round_table/roundtable/engine/OrderList$Entry;"⟩ : MethodName)) hown (mvT hZ (hw _ (List.mem_of_getElem? (i := 60) rfl))) (mvT hZ (hw _ (List.mem_of_getElem? (i := 61) rfl))) (notFace_of_selects (args := #[]) (mvT hZ (hw _ (List.mem_of_getElem? (i := 63) rfl)))) (mvT hZ (hw _ (List.mem_of_getElem? (i := 63) rfl))) (mvT hZ (hw _ (List.mem_of_getElem? (i := 62) rfl))) (by decide) (backOf (W := 0) (rm9 l Z a0 hw [] o en1 (.ref en0) rfl T82.heap n0 Z82 F_next_en1) hZ (hw _ (List.mem_of_getElem? (i := 64) rfl)) (hw _ (List.mem_of_getElem? (i := 3) rfl)) (by decide) (by decide)) q83a q83c (g := (mkF m 326 #[.val (.int x0), .val (.int x1), .val (.int x2), .val (.int bits), .val (.int (3 : Int32)), .val (.int (1 : Int32)), .val (.ref o), .val (.ref en0), .val (.ref en1), .val (.ref en2), .val (.ref en1), .val (.int (2 : Int32)), .val (.ref en0), .val (.ref en2), .val (.int (1 : Int32)), .val (.ref en0)] [(.ref en1), (.ref o)])) rfl (by rw [hml]; rfl) (Steps.refl _) (argsL := [(.ref en1)]) (rest := []) (lenOf pd_6 rfl) rfl (by show 2 * 0 + _ ≤ _; exact Nat.le_of_eq rfl) (hb hby at_326) (fun _ _ => ⟨rfl, rfl, (by decide : 5 + 0 ≤ _), (by decide : 16 + 0 ≤ _)⟩)
      dsimp only [Pt.U, Pt.locs, Pt.cells, Pt.slots] at X83 l83 y83 z83 st83 hQ83
      subst l83 y83 z83
      obtain ⟨rfl, N83q, e83⟩ := hQ83
      have N83 := Fr.app N82 N83q
      refine RunsTo.of (T' := T83) (g' := (mkF m 329 #[.val (.int x0), .val (.int x1), .val (.int x2), .val (.int bits), .val (.int (3 : Int32)), .val (.int (1 : Int32)), .val (.ref o), .val (.ref en0), .val (.ref en1), .val (.ref en2), .val (.ref en1), .val (.int (2 : Int32)), .val (.ref en0), .val (.ref en2), .val (.int (1 : Int32)), .val (.ref en0)] [(.ref en0)])) (fun _ kt => st83.trans kt) ?_
      refine RunsTo.of (T' := T83) (g' := (mkF m 343 #[.val (.int x0), .val (.int x1), .val (.int x2), .val (.int bits), .val (.int (3 : Int32)), .val (.int (1 : Int32)), .val (.ref o), .val (.ref en0), .val (.ref en1), .val (.ref en2), .val (.ref en1), .val (.int (2 : Int32)), .val (.ref en0), .val (.ref en2), .val (.int (1 : Int32)), .val (.ref en0)] [(.int (1 : Int32))])) (fun tgt_ kt => ?_) ?_
      · refine XS.aload X83.here hx rfl (hb hby at_329) rfl rfl ?_
        show Steps p.tables e below (T83.setTop (mkF m 331 #[.val (.int x0), .val (.int x1), .val (.int x2), .val (.int bits), .val (.int (3 : Int32)), .val (.int (1 : Int32)), .val (.ref o), .val (.ref en0), .val (.ref en1), .val (.ref en2), .val (.ref en1), .val (.int (2 : Int32)), .val (.ref en0), .val (.ref en2), .val (.int (1 : Int32)), .val (.ref en0)] [(.ref en0), (.ref en0)])) _
        refine Jvm.RoadKit.acmp (g := (mkF m 331 #[.val (.int x0), .val (.int x1), .val (.int x2), .val (.int bits), .val (.int (3 : Int32)), .val (.int (1 : Int32)), .val (.ref o), .val (.ref en0), .val (.ref en1), .val (.ref en2), .val (.ref en1), .val (.int (2 : Int32)), .val (.ref en0), .val (.ref en2), .val (.int (1 : Int32)), .val (.ref en0)] [(.ref en0), (.ref en0)])) X83 hx rfl rfl rfl (pc0 := 331) (pc' := 334) (same := true) rfl (hb hby at_331) rfl (decide_eq_true (congrArg Value.ref rfl)) (by decide) (by decide) ?_
        show Steps p.tables e below (T83.setTop (mkF m 334 #[.val (.int x0), .val (.int x1), .val (.int x2), .val (.int bits), .val (.int (3 : Int32)), .val (.int (1 : Int32)), .val (.ref o), .val (.ref en0), .val (.ref en1), .val (.ref en2), .val (.ref en1), .val (.int (2 : Int32)), .val (.ref en0), .val (.ref en2), .val (.int (1 : Int32)), .val (.ref en0)] [])) _
        refine XS.iconst X83.here hx rfl (hb hby at_334) ?_
        show Steps p.tables e below (T83.setTop (mkF m 335 #[.val (.int x0), .val (.int x1), .val (.int x2), .val (.int bits), .val (.int (3 : Int32)), .val (.int (1 : Int32)), .val (.ref o), .val (.ref en0), .val (.ref en1), .val (.ref en2), .val (.ref en1), .val (.int (2 : Int32)), .val (.ref en0), .val (.ref en2), .val (.int (1 : Int32)), .val (.ref en0)] [(.int (1 : Int32))])) _
        refine XS.goto X83.here hx rfl (pc0 := 335) (pc' := 339) rfl (hb hby at_335) (by decide) (by decide) ?_
        show Steps p.tables e below (T83.setTop (mkF m 339 #[.val (.int x0), .val (.int x1), .val (.int x2), .val (.int bits), .val (.int (3 : Int32)), .val (.int (1 : Int32)), .val (.ref o), .val (.ref en0), .val (.ref en1), .val (.ref en2), .val (.ref en1), .val (.int (2 : Int32)), .val (.ref en0), .val (.ref en2), .val (.int (1 : Int32)), .val (.ref en0)] [(.int (1 : Int32))])) _
        refine XS.istore X83.here hx rfl (hb hby at_339) rfl (l' := #[.val (.int x0), .val (.int x1), .val (.int x2), .val (.int bits), .val (.int (3 : Int32)), .val (.int (1 : Int32)), .val (.ref o), .val (.ref en0), .val (.ref en1), .val (.ref en2), .val (.ref en1), .val (.int (2 : Int32)), .val (.ref en0), .val (.ref en2), .val (.int (1 : Int32)), .val (.ref en0)]) rfl ?_
        show Steps p.tables e below (T83.setTop (mkF m 341 #[.val (.int x0), .val (.int x1), .val (.int x2), .val (.int bits), .val (.int (3 : Int32)), .val (.int (1 : Int32)), .val (.ref o), .val (.ref en0), .val (.ref en1), .val (.ref en2), .val (.ref en1), .val (.int (2 : Int32)), .val (.ref en0), .val (.ref en2), .val (.int (1 : Int32)), .val (.ref en0)] [])) _
        refine XS.iload X83.here hx rfl (hb hby at_341) rfl ?_
        show Steps p.tables e below (T83.setTop (mkF m 343 #[.val (.int x0), .val (.int x1), .val (.int x2), .val (.int bits), .val (.int (3 : Int32)), .val (.int (1 : Int32)), .val (.ref o), .val (.ref en0), .val (.ref en1), .val (.ref en2), .val (.ref en1), .val (.int (2 : Int32)), .val (.ref en0), .val (.ref en2), .val (.int (1 : Int32)), .val (.ref en0)] [(.int (1 : Int32))])) _
        exact kt
      refine RunsTo.retN X83 hx (t := .boolean) Bd.returns (by simp) Bd.notSynchronized (hb hby at_343) ?_ (by decide) (by decide)
      rw [e83]
      exact ⟨rfl, N83⟩
    · obtain ⟨T84, h84, X84, e84, E84, A84, D84, -, st84⟩ := newO X0 hx hZ hown (hw _ (List.mem_of_getElem? (i := 1) rfl)) (hw _ (List.mem_of_getElem? (i := 2) rfl)) (hw _ (List.mem_of_getElem? (i := 3) rfl)) e0 (g := (mkF m 29 #[.val (.int x0), .val (.int x1), .val (.int x2), .val (.int bits), .val (.int (3 : Int32)), .val (.int (2 : Int32)), .unset, .unset, .unset, .unset, .unset, .unset, .unset, .unset, .unset, .unset] [])) rfl (hb hby at_29) (by decide) (by decide)
      obtain ⟨o, g84⟩ : ∃ z, z = h0.size := ⟨_, rfl⟩
      rw [← g84] at A84 D84 st84
      have Z84 : n0 ≤ h84.size := Nat.le_trans Z0 E84.1
      have g_o : n0 ≤ o := Nat.le_trans Z0 (Nat.le_of_eq g84.symm)
      have F_head_o : Fld Z h84 o "com/example/round_table/roundtable/engine/OrderList" "head" "Lcom/example/round_table/roundtable/engine/OrderList$Entry;" .null := D84 (Or.inr (hw _ (List.mem_of_getElem? (i := 18) rfl))) (ty := (.object "com/example/round_table/roundtable/engine/OrderList$Entry")) (by decide)
      have F_last_o : Fld Z h84 o "com/example/round_table/roundtable/engine/OrderList" "last" "Lcom/example/round_table/roundtable/engine/OrderList$Entry;" .null := D84 (Or.inl (hw _ (List.mem_of_getElem? (i := 20) rfl))) (ty := (.object "com/example/round_table/roundtable/engine/OrderList$Entry")) (by decide)
      have F_labelBits_o : Fld Z h84 o "com/example/round_table/roundtable/engine/OrderList" "labelBits" "I" (.int (0 : Int32)) := D84 (Or.inr (hw _ (List.mem_of_getElem? (i := 22) rfl))) (ty := .int) (by decide)
      have F_endGap_o : Fld Z h84 o "com/example/round_table/roundtable/engine/OrderList" "endGap" "J" (.long (0 : Int64)) := D84 (Or.inr (hw _ (List.mem_of_getElem? (i := 24) rfl))) (ty := .long) (by decide)
      have E_o : Exa Z h84 o "com/example/round_table/roundtable/engine/OrderList" := A84
      refine RunsTo.of (T' := T84) (g' := (mkF m 32 #[.val (.int x0), .val (.int x1), .val (.int x2), .val (.int bits), .val (.int (3 : Int32)), .val (.int (2 : Int32)), .unset, .unset, .unset, .unset, .unset, .unset, .unset, .unset, .unset, .unset] [(.ref o)])) st84 ?_
      have lt_o := E_o.lt
      refine RunsTo.of (T' := T84) (g' := (mkF m 34 #[.val (.int x0), .val (.int x1), .val (.int x2), .val (.int bits), .val (.int (3 : Int32)), .val (.int (2 : Int32)), .unset, .unset, .unset, .unset, .unset, .unset, .unset, .unset, .unset, .unset] [(.int bits), (.ref o), (.ref o)])) (fun tgt_ kt => ?_) ?_
      · refine XS.dup X84.here hx rfl (hb hby at_32) rfl rfl ?_
        show Steps p.tables e below (T84.setTop (mkF m 33 #[.val (.int x0), .val (.int x1), .val (.int x2), .val (.int bits), .val (.int (3 : Int32)), .val (.int (2 : Int32)), .unset, .unset, .unset, .unset, .unset, .unset, .unset, .unset, .unset, .unset] [(.ref o), (.ref o)])) _
        refine XS.iloadN X84.here hx rfl (hb hby at_33) rfl ?_
        show Steps p.tables e below (T84.setTop (mkF m 34 #[.val (.int x0), .val (.int x1), .val (.int x2), .val (.int bits), .val (.int (3 : Int32)), .val (.int (2 : Int32)), .unset, .unset, .unset, .unset, .unset, .unset, .unset, .unset, .unset, .unset] [(.int bits), (.ref o), (.ref o)])) _
        exact kt
      obtain ⟨_, _, ⟨T85, L85, k85, n85⟩, -, X85, ⟨Lc85, hQ85, l85, y85, z85⟩, st85⟩ := X84.specialBack hx (y := (⟨"com/example/round_table/roundtable/engine/OrderList", "<init>", "(I)V"⟩ : MethodName)) rfl hown (mvT hZ (hw _ (List.mem_of_getElem? (i := 4) rfl))) (mvT hZ (hw _ (List.mem_of_getElem? (i := 5) rfl))) (mvT hZ (hw _ (List.mem_of_getElem? (i := 6) rfl))) (by decide) (backOf (W := 1) (rm1 l Z a0 hw [] o bits h84 n0 Z84 E_o g_o F_head_o F_last_o F_labelBits_o F_endGap_o hbits) hZ (hw _ (List.mem_of_getElem? (i := 6) rfl)) (hw _ (List.mem_of_getElem? (i := 3) rfl)) (by decide) (by decide)) (g := (mkF m 34 #[.val (.int x0), .val (.int x1), .val (.int x2), .val (.int bits), .val (.int (3 : Int32)), .val (.int (2 : Int32)), .unset, .unset, .unset, .unset, .unset, .unset, .unset, .unset, .unset, .unset] [(.int bits), (.ref o), (.ref o)])) rfl (by rw [hml]; rfl) (Steps.refl _) (a := o) (argsL := [(.int bits)]) (rest := [(.ref o)]) (lenOf pd_4 rfl) rfl (by show 2 * 0 + _ ≤ _; exact Nat.le_of_eq rfl) (hb hby at_34) (fun _ _ => ⟨rfl, e84, (by decide : 1 + 1 ≤ _), (by decide : 4 + 3 ≤ _)⟩)
      dsimp only [Pt.U, Pt.locs, Pt.cells, Pt.slots] at X85 l85 y85 z85 st85 hQ85
      subst l85 y85 z85
      obtain ⟨hd, rfl, N85q, g_hd, sz_hd, K85, F_head_o, F_last_o, F_labelBits_o, F_endGap_o, E_hd, F_label_hd, F_previous_hd, F_next_hd⟩ := hQ85
      have N85 := Fr.app N0 N85q
      have Z85 : n0 ≤ T85.heap.size := Nat.le_trans Z84 K85.1
      have E_o := E_o.keep K85
      rw [← heg'] at F_endGap_o
      have ne_o_hd : o ≠ hd := Nat.ne_of_lt (Nat.lt_of_lt_of_le lt_o sz_hd)
      refine RunsTo.of (T' := T85) (g' := (mkF m 37 #[.val (.int x0), .val (.int x1), .val (.int x2), .val (.int bits), .val (.int (3 : Int32)), .val (.int (2 : Int32)), .unset, .unset, .unset, .unset, .unset, .unset, .unset, .unset, .unset, .unset] [(.ref o)])) (fun _ kt => st85.trans kt) ?_
      refine RunsTo.of (T' := T85) (g' := (mkF m 39 #[.val (.int x0), .val (.int x1), .val (.int x2), .val (.int bits), .val (.int (3 : Int32)), .val (.int (2 : Int32)), .val (.ref o), .unset, .unset, .unset, .unset, .unset, .unset, .unset, .unset, .unset] [])) (fun tgt_ kt => ?_) ?_
      · refine XS.astore X85.here hx rfl (hb hby at_37) rfl rfl (l' := #[.val (.int x0), .val (.int x1), .val (.int x2), .val (.int bits), .val (.int (3 : Int32)), .val (.int (2 : Int32)), .val (.ref o), .unset, .unset, .unset, .unset, .unset, .unset, .unset, .unset, .unset]) rfl ?_
        show Steps p.tables e below (T85.setTop (mkF m 39 #[.val (.int x0), .val (.int x1), .val (.int x2), .val (.int bits), .val (.int (3 : Int32)), .val (.int (2 : Int32)), .val (.ref o), .unset, .unset, .unset, .unset, .unset, .unset, .unset, .unset, .unset] [])) _
        exact kt
      obtain ⟨T86, h86, X86, e86, E86, A86, D86, -, st86⟩ := newO X85 hx hZ hown (hw _ (List.mem_of_getElem? (i := 25) rfl)) (hw _ (List.mem_of_getElem? (i := 11) rfl)) (hw _ (List.mem_of_getElem? (i := 12) rfl)) rfl (g := (mkF m 39 #[.val (.int x0), .val (.int x1), .val (.int x2), .val (.int bits), .val (.int (3 : Int32)), .val (.int (2 : Int32)), .val (.ref o), .unset, .unset, .unset, .unset, .unset, .unset, .unset, .unset, .unset] [])) rfl (hb hby at_39) (by decide) (by decide)
      obtain ⟨en0, g86⟩ : ∃ z, z = T85.heap.size := ⟨_, rfl⟩
      rw [← g86] at A86 D86 st86
      have Z86 : n0 ≤ h86.size := Nat.le_trans Z85 E86.1
      have g_en0 : n0 ≤ en0 := Nat.le_trans Z85 (Nat.le_of_eq g86.symm)
      have ne_o_en0 : o ≠ en0 := Nat.ne_of_lt (Nat.lt_of_lt_of_le E_o.lt (Nat.le_of_eq g86.symm))
      have ne_hd_en0 : hd ≠ en0 := Nat.ne_of_lt (Nat.lt_of_lt_of_le F_label_hd.lt (Nat.le_of_eq g86.symm))
      have E_o := E_o.ext E86
      have F_head_o := F_head_o.ext E86
      have F_last_o := F_last_o.ext E86
      have F_labelBits_o := F_labelBits_o.ext E86
      have F_endGap_o := F_endGap_o.ext E86
      have F_label_hd := F_label_hd.ext E86
      have F_previous_hd := F_previous_hd.ext E86
      have F_next_hd := F_next_hd.ext E86
      have E_hd := E_hd.ext E86
      have F_next_en0 : Fld Z h86 en0 "com/example/round_table/roundtable/engine/OrderList$Entry" "next" "Lcom/example/round_table/roundtable/engine/OrderList$Entry;" .null := D86 (Or.inl (hw _ (List.mem_of_getElem? (i := 43) rfl))) (ty := (.object "com/example/round_table/roundtable/engine/OrderList$Entry")) (by decide)
      have F_previous_en0 : Fld Z h86 en0 "com/example/round_table/roundtable/engine/OrderList$Entry" "previous" "Lcom/example/round_table/roundtable/engine/OrderList$Entry;" .null := D86 (Or.inl (hw _ (List.mem_of_getElem? (i := 45) rfl))) (ty := (.object "com/example/round_table/roundtable/engine/OrderList$Entry")) (by decide)
      have F_label_en0 : Fld Z h86 en0 "com/example/round_table/roundtable/engine/OrderList$Entry" "label" "J" (.long (0 : Int64)) := D86 (Or.inl (hw _ (List.mem_of_getElem? (i := 47) rfl))) (ty := .long) (by decide)
      have E_en0 : Exa Z h86 en0 "com/example/round_table/roundtable/engine/OrderList$Entry" := A86
      refine RunsTo.of (T' := T86) (g' := (mkF m 42 #[.val (.int x0), .val (.int x1), .val (.int x2), .val (.int bits), .val (.int (3 : Int32)), .val (.int (2 : Int32)), .val (.ref o), .unset, .unset, .unset, .unset, .unset, .unset, .unset, .unset, .unset] [(.ref en0)])) st86 ?_
      refine RunsTo.of (T' := T86) (g' := (mkF m 43 #[.val (.int x0), .val (.int x1), .val (.int x2), .val (.int bits), .val (.int (3 : Int32)), .val (.int (2 : Int32)), .val (.ref o), .unset, .unset, .unset, .unset, .unset, .unset, .unset, .unset, .unset] [(.ref en0), (.ref en0)])) (fun tgt_ kt => ?_) ?_
      · refine XS.dup X86.here hx rfl (hb hby at_42) rfl rfl ?_
        show Steps p.tables e below (T86.setTop (mkF m 43 #[.val (.int x0), .val (.int x1), .val (.int x2), .val (.int bits), .val (.int (3 : Int32)), .val (.int (2 : Int32)), .val (.ref o), .unset, .unset, .unset, .unset, .unset, .unset, .unset, .unset, .unset] [(.ref en0), (.ref en0)])) _
        exact kt
      obtain ⟨_, _, ⟨T87, L87, k87, n87⟩, -, X87, ⟨Lc87, hQ87, l87, y87, z87⟩, st87⟩ := X86.specialBack hx (y := (⟨"com/example/round_table/roundtable/engine/OrderList$Entry", "<init>", "()V"⟩ : MethodName)) rfl hown (mvT hZ (hw _ (List.mem_of_getElem? (i := 26) rfl))) (mvT hZ (hw _ (List.mem_of_getElem? (i := 14) rfl))) (mvT hZ (hw _ (List.mem_of_getElem? (i := 15) rfl))) (by decide) (backOf (W := 1) (rm3 l Z a0 hw [] en0 h86 n0 Z86 ) hZ (hw _ (List.mem_of_getElem? (i := 15) rfl)) (hw _ (List.mem_of_getElem? (i := 12) rfl)) (by decide) (by decide)) (g := (mkF m 43 #[.val (.int x0), .val (.int x1), .val (.int x2), .val (.int bits), .val (.int (3 : Int32)), .val (.int (2 : Int32)), .val (.ref o), .unset, .unset, .unset, .unset, .unset, .unset, .unset, .unset, .unset] [(.ref en0), (.ref en0)])) rfl (by rw [hml]; rfl) (Steps.refl _) (a := en0) (argsL := []) (rest := [(.ref en0)]) (lenOf pd_0 rfl) rfl (by show 2 * 0 + _ ≤ _; exact Nat.le_of_eq rfl) (hb hby at_43) (fun _ _ => ⟨rfl, e86, (by decide : 3 + 0 ≤ _), (by decide : 10 + 0 ≤ _)⟩)
      dsimp only [Pt.U, Pt.locs, Pt.cells, Pt.slots] at X87 l87 y87 z87 st87 hQ87
      subst l87 y87 z87
      obtain ⟨rfl, N87q, e87⟩ := hQ87
      have N87 := Fr.app N85 N87q
      refine RunsTo.of (T' := T87) (g' := (mkF m 46 #[.val (.int x0), .val (.int x1), .val (.int x2), .val (.int bits), .val (.int (3 : Int32)), .val (.int (2 : Int32)), .val (.ref o), .unset, .unset, .unset, .unset, .unset, .unset, .unset, .unset, .unset] [(.ref en0)])) (fun _ kt => st87.trans kt) ?_
      refine RunsTo.of (T' := T87) (g' := (mkF m 48 #[.val (.int x0), .val (.int x1), .val (.int x2), .val (.int bits), .val (.int (3 : Int32)), .val (.int (2 : Int32)), .val (.ref o), .val (.ref en0), .unset, .unset, .unset, .unset, .unset, .unset, .unset, .unset] [])) (fun tgt_ kt => ?_) ?_
      · refine XS.astore X87.here hx rfl (hb hby at_46) rfl rfl (l' := #[.val (.int x0), .val (.int x1), .val (.int x2), .val (.int bits), .val (.int (3 : Int32)), .val (.int (2 : Int32)), .val (.ref o), .val (.ref en0), .unset, .unset, .unset, .unset, .unset, .unset, .unset, .unset]) rfl ?_
        show Steps p.tables e below (T87.setTop (mkF m 48 #[.val (.int x0), .val (.int x1), .val (.int x2), .val (.int bits), .val (.int (3 : Int32)), .val (.int (2 : Int32)), .val (.ref o), .val (.ref en0), .unset, .unset, .unset, .unset, .unset, .unset, .unset, .unset] [])) _
        exact kt
      obtain ⟨T88, h88, X88, e88, E88, A88, D88, -, st88⟩ := newO X87 hx hZ hown (hw _ (List.mem_of_getElem? (i := 25) rfl)) (hw _ (List.mem_of_getElem? (i := 11) rfl)) (hw _ (List.mem_of_getElem? (i := 12) rfl)) e87 (g := (mkF m 48 #[.val (.int x0), .val (.int x1), .val (.int x2), .val (.int bits), .val (.int (3 : Int32)), .val (.int (2 : Int32)), .val (.ref o), .val (.ref en0), .unset, .unset, .unset, .unset, .unset, .unset, .unset, .unset] [])) rfl (hb hby at_48) (by decide) (by decide)
      obtain ⟨en1, g88⟩ : ∃ z, z = h86.size := ⟨_, rfl⟩
      rw [← g88] at A88 D88 st88
      have Z88 : n0 ≤ h88.size := Nat.le_trans Z86 E88.1
      have g_en1 : n0 ≤ en1 := Nat.le_trans Z86 (Nat.le_of_eq g88.symm)
      have ne_o_en1 : o ≠ en1 := Nat.ne_of_lt (Nat.lt_of_lt_of_le E_o.lt (Nat.le_of_eq g88.symm))
      have ne_hd_en1 : hd ≠ en1 := Nat.ne_of_lt (Nat.lt_of_lt_of_le F_label_hd.lt (Nat.le_of_eq g88.symm))
      have ne_en0_en1 : en0 ≠ en1 := Nat.ne_of_lt (Nat.lt_of_lt_of_le F_next_en0.lt (Nat.le_of_eq g88.symm))
      have E_o := E_o.ext E88
      have F_head_o := F_head_o.ext E88
      have F_last_o := F_last_o.ext E88
      have F_labelBits_o := F_labelBits_o.ext E88
      have F_endGap_o := F_endGap_o.ext E88
      have F_label_hd := F_label_hd.ext E88
      have F_previous_hd := F_previous_hd.ext E88
      have F_next_hd := F_next_hd.ext E88
      have E_hd := E_hd.ext E88
      have F_next_en0 := F_next_en0.ext E88
      have F_previous_en0 := F_previous_en0.ext E88
      have F_label_en0 := F_label_en0.ext E88
      have E_en0 := E_en0.ext E88
      have F_next_en1 : Fld Z h88 en1 "com/example/round_table/roundtable/engine/OrderList$Entry" "next" "Lcom/example/round_table/roundtable/engine/OrderList$Entry;" .null := D88 (Or.inl (hw _ (List.mem_of_getElem? (i := 43) rfl))) (ty := (.object "com/example/round_table/roundtable/engine/OrderList$Entry")) (by decide)
      have F_previous_en1 : Fld Z h88 en1 "com/example/round_table/roundtable/engine/OrderList$Entry" "previous" "Lcom/example/round_table/roundtable/engine/OrderList$Entry;" .null := D88 (Or.inl (hw _ (List.mem_of_getElem? (i := 45) rfl))) (ty := (.object "com/example/round_table/roundtable/engine/OrderList$Entry")) (by decide)
      have F_label_en1 : Fld Z h88 en1 "com/example/round_table/roundtable/engine/OrderList$Entry" "label" "J" (.long (0 : Int64)) := D88 (Or.inl (hw _ (List.mem_of_getElem? (i := 47) rfl))) (ty := .long) (by decide)
      have E_en1 : Exa Z h88 en1 "com/example/round_table/roundtable/engine/OrderList$Entry" := A88
      refine RunsTo.of (T' := T88) (g' := (mkF m 51 #[.val (.int x0), .val (.int x1), .val (.int x2), .val (.int bits), .val (.int (3 : Int32)), .val (.int (2 : Int32)), .val (.ref o), .val (.ref en0), .unset, .unset, .unset, .unset, .unset, .unset, .unset, .unset] [(.ref en1)])) st88 ?_
      refine RunsTo.of (T' := T88) (g' := (mkF m 52 #[.val (.int x0), .val (.int x1), .val (.int x2), .val (.int bits), .val (.int (3 : Int32)), .val (.int (2 : Int32)), .val (.ref o), .val (.ref en0), .unset, .unset, .unset, .unset, .unset, .unset, .unset, .unset] [(.ref en1), (.ref en1)])) (fun tgt_ kt => ?_) ?_
      · refine XS.dup X88.here hx rfl (hb hby at_51) rfl rfl ?_
        show Steps p.tables e below (T88.setTop (mkF m 52 #[.val (.int x0), .val (.int x1), .val (.int x2), .val (.int bits), .val (.int (3 : Int32)), .val (.int (2 : Int32)), .val (.ref o), .val (.ref en0), .unset, .unset, .unset, .unset, .unset, .unset, .unset, .unset] [(.ref en1), (.ref en1)])) _
        exact kt
      obtain ⟨_, _, ⟨T89, L89, k89, n89⟩, -, X89, ⟨Lc89, hQ89, l89, y89, z89⟩, st89⟩ := X88.specialBack hx (y := (⟨"com/example/round_table/roundtable/engine/OrderList$Entry", "<init>", "()V"⟩ : MethodName)) rfl hown (mvT hZ (hw _ (List.mem_of_getElem? (i := 26) rfl))) (mvT hZ (hw _ (List.mem_of_getElem? (i := 14) rfl))) (mvT hZ (hw _ (List.mem_of_getElem? (i := 15) rfl))) (by decide) (backOf (W := 1) (rm3 l Z a0 hw [] en1 h88 n0 Z88 ) hZ (hw _ (List.mem_of_getElem? (i := 15) rfl)) (hw _ (List.mem_of_getElem? (i := 12) rfl)) (by decide) (by decide)) (g := (mkF m 52 #[.val (.int x0), .val (.int x1), .val (.int x2), .val (.int bits), .val (.int (3 : Int32)), .val (.int (2 : Int32)), .val (.ref o), .val (.ref en0), .unset, .unset, .unset, .unset, .unset, .unset, .unset, .unset] [(.ref en1), (.ref en1)])) rfl (by rw [hml]; rfl) (Steps.refl _) (a := en1) (argsL := []) (rest := [(.ref en1)]) (lenOf pd_0 rfl) rfl (by show 2 * 0 + _ ≤ _; exact Nat.le_of_eq rfl) (hb hby at_52) (fun _ _ => ⟨rfl, e88, (by decide : 4 + 0 ≤ _), (by decide : 13 + 0 ≤ _)⟩)
      dsimp only [Pt.U, Pt.locs, Pt.cells, Pt.slots] at X89 l89 y89 z89 st89 hQ89
      subst l89 y89 z89
      obtain ⟨rfl, N89q, e89⟩ := hQ89
      have N89 := Fr.app N87 N89q
      refine RunsTo.of (T' := T89) (g' := (mkF m 55 #[.val (.int x0), .val (.int x1), .val (.int x2), .val (.int bits), .val (.int (3 : Int32)), .val (.int (2 : Int32)), .val (.ref o), .val (.ref en0), .unset, .unset, .unset, .unset, .unset, .unset, .unset, .unset] [(.ref en1)])) (fun _ kt => st89.trans kt) ?_
      refine RunsTo.of (T' := T89) (g' := (mkF m 57 #[.val (.int x0), .val (.int x1), .val (.int x2), .val (.int bits), .val (.int (3 : Int32)), .val (.int (2 : Int32)), .val (.ref o), .val (.ref en0), .val (.ref en1), .unset, .unset, .unset, .unset, .unset, .unset, .unset] [])) (fun tgt_ kt => ?_) ?_
      · refine XS.astore X89.here hx rfl (hb hby at_55) rfl rfl (l' := #[.val (.int x0), .val (.int x1), .val (.int x2), .val (.int bits), .val (.int (3 : Int32)), .val (.int (2 : Int32)), .val (.ref o), .val (.ref en0), .val (.ref en1), .unset, .unset, .unset, .unset, .unset, .unset, .unset]) rfl ?_
        show Steps p.tables e below (T89.setTop (mkF m 57 #[.val (.int x0), .val (.int x1), .val (.int x2), .val (.int bits), .val (.int (3 : Int32)), .val (.int (2 : Int32)), .val (.ref o), .val (.ref en0), .val (.ref en1), .unset, .unset, .unset, .unset, .unset, .unset, .unset] [])) _
        exact kt
      obtain ⟨T90, h90, X90, e90, E90, A90, D90, -, st90⟩ := newO X89 hx hZ hown (hw _ (List.mem_of_getElem? (i := 25) rfl)) (hw _ (List.mem_of_getElem? (i := 11) rfl)) (hw _ (List.mem_of_getElem? (i := 12) rfl)) e89 (g := (mkF m 57 #[.val (.int x0), .val (.int x1), .val (.int x2), .val (.int bits), .val (.int (3 : Int32)), .val (.int (2 : Int32)), .val (.ref o), .val (.ref en0), .val (.ref en1), .unset, .unset, .unset, .unset, .unset, .unset, .unset] [])) rfl (hb hby at_57) (by decide) (by decide)
      obtain ⟨en2, g90⟩ : ∃ z, z = h88.size := ⟨_, rfl⟩
      rw [← g90] at A90 D90 st90
      have Z90 : n0 ≤ h90.size := Nat.le_trans Z88 E90.1
      have g_en2 : n0 ≤ en2 := Nat.le_trans Z88 (Nat.le_of_eq g90.symm)
      have ne_o_en2 : o ≠ en2 := Nat.ne_of_lt (Nat.lt_of_lt_of_le E_o.lt (Nat.le_of_eq g90.symm))
      have ne_hd_en2 : hd ≠ en2 := Nat.ne_of_lt (Nat.lt_of_lt_of_le F_label_hd.lt (Nat.le_of_eq g90.symm))
      have ne_en0_en2 : en0 ≠ en2 := Nat.ne_of_lt (Nat.lt_of_lt_of_le F_next_en0.lt (Nat.le_of_eq g90.symm))
      have ne_en1_en2 : en1 ≠ en2 := Nat.ne_of_lt (Nat.lt_of_lt_of_le F_next_en1.lt (Nat.le_of_eq g90.symm))
      have E_o := E_o.ext E90
      have F_head_o := F_head_o.ext E90
      have F_last_o := F_last_o.ext E90
      have F_labelBits_o := F_labelBits_o.ext E90
      have F_endGap_o := F_endGap_o.ext E90
      have F_label_hd := F_label_hd.ext E90
      have F_previous_hd := F_previous_hd.ext E90
      have F_next_hd := F_next_hd.ext E90
      have E_hd := E_hd.ext E90
      have F_next_en0 := F_next_en0.ext E90
      have F_previous_en0 := F_previous_en0.ext E90
      have F_label_en0 := F_label_en0.ext E90
      have E_en0 := E_en0.ext E90
      have F_next_en1 := F_next_en1.ext E90
      have F_previous_en1 := F_previous_en1.ext E90
      have F_label_en1 := F_label_en1.ext E90
      have E_en1 := E_en1.ext E90
      have F_next_en2 : Fld Z h90 en2 "com/example/round_table/roundtable/engine/OrderList$Entry" "next" "Lcom/example/round_table/roundtable/engine/OrderList$Entry;" .null := D90 (Or.inl (hw _ (List.mem_of_getElem? (i := 43) rfl))) (ty := (.object "com/example/round_table/roundtable/engine/OrderList$Entry")) (by decide)
      have F_previous_en2 : Fld Z h90 en2 "com/example/round_table/roundtable/engine/OrderList$Entry" "previous" "Lcom/example/round_table/roundtable/engine/OrderList$Entry;" .null := D90 (Or.inl (hw _ (List.mem_of_getElem? (i := 45) rfl))) (ty := (.object "com/example/round_table/roundtable/engine/OrderList$Entry")) (by decide)
      have F_label_en2 : Fld Z h90 en2 "com/example/round_table/roundtable/engine/OrderList$Entry" "label" "J" (.long (0 : Int64)) := D90 (Or.inl (hw _ (List.mem_of_getElem? (i := 47) rfl))) (ty := .long) (by decide)
      have E_en2 : Exa Z h90 en2 "com/example/round_table/roundtable/engine/OrderList$Entry" := A90
      refine RunsTo.of (T' := T90) (g' := (mkF m 60 #[.val (.int x0), .val (.int x1), .val (.int x2), .val (.int bits), .val (.int (3 : Int32)), .val (.int (2 : Int32)), .val (.ref o), .val (.ref en0), .val (.ref en1), .unset, .unset, .unset, .unset, .unset, .unset, .unset] [(.ref en2)])) st90 ?_
      refine RunsTo.of (T' := T90) (g' := (mkF m 61 #[.val (.int x0), .val (.int x1), .val (.int x2), .val (.int bits), .val (.int (3 : Int32)), .val (.int (2 : Int32)), .val (.ref o), .val (.ref en0), .val (.ref en1), .unset, .unset, .unset, .unset, .unset, .unset, .unset] [(.ref en2), (.ref en2)])) (fun tgt_ kt => ?_) ?_
      · refine XS.dup X90.here hx rfl (hb hby at_60) rfl rfl ?_
        show Steps p.tables e below (T90.setTop (mkF m 61 #[.val (.int x0), .val (.int x1), .val (.int x2), .val (.int bits), .val (.int (3 : Int32)), .val (.int (2 : Int32)), .val (.ref o), .val (.ref en0), .val (.ref en1), .unset, .unset, .unset, .unset, .unset, .unset, .unset] [(.ref en2), (.ref en2)])) _
        exact kt
      obtain ⟨_, _, ⟨T91, L91, k91, n91⟩, -, X91, ⟨Lc91, hQ91, l91, y91, z91⟩, st91⟩ := X90.specialBack hx (y := (⟨"com/example/round_table/roundtable/engine/OrderList$Entry", "<init>", "()V"⟩ : MethodName)) rfl hown (mvT hZ (hw _ (List.mem_of_getElem? (i := 26) rfl))) (mvT hZ (hw _ (List.mem_of_getElem? (i := 14) rfl))) (mvT hZ (hw _ (List.mem_of_getElem? (i := 15) rfl))) (by decide) (backOf (W := 1) (rm3 l Z a0 hw [] en2 h90 n0 Z90 ) hZ (hw _ (List.mem_of_getElem? (i := 15) rfl)) (hw _ (List.mem_of_getElem? (i := 12) rfl)) (by decide) (by decide)) (g := (mkF m 61 #[.val (.int x0), .val (.int x1), .val (.int x2), .val (.int bits), .val (.int (3 : Int32)), .val (.int (2 : Int32)), .val (.ref o), .val (.ref en0), .val (.ref en1), .unset, .unset, .unset, .unset, .unset, .unset, .unset] [(.ref en2), (.ref en2)])) rfl (by rw [hml]; rfl) (Steps.refl _) (a := en2) (argsL := []) (rest := [(.ref en2)]) (lenOf pd_0 rfl) rfl (by show 2 * 0 + _ ≤ _; exact Nat.le_of_eq rfl) (hb hby at_61) (fun _ _ => ⟨rfl, e90, (by decide : 5 + 0 ≤ _), (by decide : 16 + 0 ≤ _)⟩)
      dsimp only [Pt.U, Pt.locs, Pt.cells, Pt.slots] at X91 l91 y91 z91 st91 hQ91
      subst l91 y91 z91
      obtain ⟨rfl, N91q, e91⟩ := hQ91
      have N91 := Fr.app N89 N91q
      refine RunsTo.of (T' := T91) (g' := (mkF m 64 #[.val (.int x0), .val (.int x1), .val (.int x2), .val (.int bits), .val (.int (3 : Int32)), .val (.int (2 : Int32)), .val (.ref o), .val (.ref en0), .val (.ref en1), .unset, .unset, .unset, .unset, .unset, .unset, .unset] [(.ref en2)])) (fun _ kt => st91.trans kt) ?_
      refine RunsTo.of (T' := T91) (g' := (mkF m 70 #[.val (.int x0), .val (.int x1), .val (.int x2), .val (.int bits), .val (.int (3 : Int32)), .val (.int (2 : Int32)), .val (.ref o), .val (.ref en0), .val (.ref en1), .val (.ref en2), .unset, .unset, .unset, .unset, .unset, .unset] [(.ref en0), (.ref o)])) (fun tgt_ kt => ?_) ?_
      · refine XS.astore X91.here hx rfl (hb hby at_64) rfl rfl (l' := #[.val (.int x0), .val (.int x1), .val (.int x2), .val (.int bits), .val (.int (3 : Int32)), .val (.int (2 : Int32)), .val (.ref o), .val (.ref en0), .val (.ref en1), .val (.ref en2), .unset, .unset, .unset, .unset, .unset, .unset]) rfl ?_
        show Steps p.tables e below (T91.setTop (mkF m 66 #[.val (.int x0), .val (.int x1), .val (.int x2), .val (.int bits), .val (.int (3 : Int32)), .val (.int (2 : Int32)), .val (.ref o), .val (.ref en0), .val (.ref en1), .val (.ref en2), .unset, .unset, .unset, .unset, .unset, .unset] [])) _
        refine XS.aload X91.here hx rfl (hb hby at_66) rfl rfl ?_
        show Steps p.tables e below (T91.setTop (mkF m 68 #[.val (.int x0), .val (.int x1), .val (.int x2), .val (.int bits), .val (.int (3 : Int32)), .val (.int (2 : Int32)), .val (.ref o), .val (.ref en0), .val (.ref en1), .val (.ref en2), .unset, .unset, .unset, .unset, .unset, .unset] [(.ref o)])) _
        refine XS.aload X91.here hx rfl (hb hby at_68) rfl rfl ?_
        show Steps p.tables e below (T91.setTop (mkF m 70 #[.val (.int x0), .val (.int x1), .val (.int x2), .val (.int bits), .val (.int (3 : Int32)), .val (.int (2 : Int32)), .val (.ref o), .val (.ref en0), .val (.ref en1), .val (.ref en2), .unset, .unset, .unset, .unset, .unset, .unset] [(.ref en0), (.ref o)])) _
        exact kt
      obtain ⟨cq92, kq92, q92a, q92b, q92c⟩ := isOf hZ e91 E_o
      obtain ⟨_, _, ⟨T92, L92, k92, n92⟩, -, X92, ⟨Lc92, hQ92, l92, y92, z92⟩, st92⟩ := X91.virtualBack hx (y := (⟨"com/example/round_table/roundtable/engine/OrderList", "append", "(Lcom/example/round_table/roundtable/engine/OrderList$Entry;)V"⟩ : MethodName)) (z := (⟨"com/example/round_table/roundtable/engine/OrderList", "append", "(Lcom/example/round_table/roundtable/engine/OrderList$Entry;)V"⟩ : MethodName)) hown (mvT hZ (hw _ (List.mem_of_getElem? (i := 27) rfl))) (mvT hZ (hw _ (List.mem_of_getElem? (i := 28) rfl))) (notFace_of_selects (args := #[]) (mvT hZ (hw _ (List.mem_of_getElem? (i := 30) rfl)))) (mvT hZ (hw _ (List.mem_of_getElem? (i := 30) rfl))) (mvT hZ (hw _ (List.mem_of_getElem? (i := 29) rfl))) (by decide) (backOf (W := 0) (rm_appE l Z a0 hw [] o en0 hd bits eg RR (0 : Int64) (0 : Int64) h90 n0 Z90 E_o g_o F_head_o F_last_o F_labelBits_o F_endGap_o E_hd g_hd F_label_hd F_previous_hd F_next_hd E_en0 g_en0 F_label_en0 F_previous_en0 F_next_en0 ne_o_hd ne_o_en0 ne_hd_en0 hRR hR heg (by omega) (by omega)) hZ (hw _ (List.mem_of_getElem? (i := 31) rfl)) (hw _ (List.mem_of_getElem? (i := 3) rfl)) (by decide) (by decide)) q92a q92c (g := (mkF m 70 #[.val (.int x0), .val (.int x1), .val (.int x2), .val (.int bits), .val (.int (3 : Int32)), .val (.int (2 : Int32)), .val (.ref o), .val (.ref en0), .val (.ref en1), .val (.ref en2), .unset, .unset, .unset, .unset, .unset, .unset] [(.ref en0), (.ref o)])) rfl (by rw [hml]; rfl) (Steps.refl _) (argsL := [(.ref en0)]) (rest := []) (lenOf pd_5 rfl) rfl (by show 2 * 0 + _ ≤ _; exact Nat.le_of_eq rfl) (hb hby at_70) (fun _ _ => ⟨rfl, e91, (by decide : 5 + 0 ≤ _), (by decide : 16 + 0 ≤ _)⟩)
      dsimp only [Pt.U, Pt.locs, Pt.cells, Pt.slots] at X92 l92 y92 z92 st92 hQ92
      subst l92 y92 z92
      obtain ⟨lab_en0, rfl, N92q, K92, F_head_o, F_last_o, F_labelBits_o, F_endGap_o, F_label_hd, F_previous_hd, F_next_hd, F_label_en0, F_previous_en0, F_next_en0, hb1_en0, hb2_en0, hb3_en0⟩ := hQ92
      have N92 := Fr.app N91 N92q
      have Z92 : n0 ≤ T92.heap.size := Nat.le_trans Z90 K92.1
      have E_o := E_o.keep K92
      have E_hd := E_hd.keep K92
      have E_en0 := E_en0.keep K92
      have F_next_en1 := F_next_en1.keep K92 (ninS (Ne.symm ne_o_en1) (ninS (Ne.symm ne_hd_en1) (ninS (Ne.symm ne_en0_en1) nin0)))
      have F_previous_en1 := F_previous_en1.keep K92 (ninS (Ne.symm ne_o_en1) (ninS (Ne.symm ne_hd_en1) (ninS (Ne.symm ne_en0_en1) nin0)))
      have F_label_en1 := F_label_en1.keep K92 (ninS (Ne.symm ne_o_en1) (ninS (Ne.symm ne_hd_en1) (ninS (Ne.symm ne_en0_en1) nin0)))
      have E_en1 := E_en1.keep K92
      have F_next_en2 := F_next_en2.keep K92 (ninS (Ne.symm ne_o_en2) (ninS (Ne.symm ne_hd_en2) (ninS (Ne.symm ne_en0_en2) nin0)))
      have F_previous_en2 := F_previous_en2.keep K92 (ninS (Ne.symm ne_o_en2) (ninS (Ne.symm ne_hd_en2) (ninS (Ne.symm ne_en0_en2) nin0)))
      have F_label_en2 := F_label_en2.keep K92 (ninS (Ne.symm ne_o_en2) (ninS (Ne.symm ne_hd_en2) (ninS (Ne.symm ne_en0_en2) nin0)))
      have E_en2 := E_en2.keep K92
      refine RunsTo.of (T' := T92) (g' := (mkF m 73 #[.val (.int x0), .val (.int x1), .val (.int x2), .val (.int bits), .val (.int (3 : Int32)), .val (.int (2 : Int32)), .val (.ref o), .val (.ref en0), .val (.ref en1), .val (.ref en2), .unset, .unset, .unset, .unset, .unset, .unset] [])) (fun _ kt => st92.trans kt) ?_
      refine RunsTo.of (T' := T92) (g' := (mkF m 83 #[.val (.int x0), .val (.int x1), .val (.int x2), .val (.int bits), .val (.int (3 : Int32)), .val (.int (2 : Int32)), .val (.ref o), .val (.ref en0), .val (.ref en1), .val (.ref en2), .unset, .unset, .unset, .unset, .unset, .unset] [(.ref en1), (.ref o)])) (fun tgt_ kt => ?_) ?_
      · refine XS.iload X92.here hx rfl (hb hby at_73) rfl ?_
        show Steps p.tables e below (T92.setTop (mkF m 75 #[.val (.int x0), .val (.int x1), .val (.int x2), .val (.int bits), .val (.int (3 : Int32)), .val (.int (2 : Int32)), .val (.ref o), .val (.ref en0), .val (.ref en1), .val (.ref en2), .unset, .unset, .unset, .unset, .unset, .unset] [(.int (3 : Int32))])) _
        refine XS.iconst X92.here hx rfl (hb hby at_75) ?_
        show Steps p.tables e below (T92.setTop (mkF m 76 #[.val (.int x0), .val (.int x1), .val (.int x2), .val (.int bits), .val (.int (3 : Int32)), .val (.int (2 : Int32)), .val (.ref o), .val (.ref en0), .val (.ref en1), .val (.ref en2), .unset, .unset, .unset, .unset, .unset, .unset] [(.int (2 : Int32)), (.int (3 : Int32))])) _
        refine XS.icmpNo X92.here hx rfl (hb hby at_76) rfl (flt (by decide)).1 ?_
        show Steps p.tables e below (T92.setTop (mkF m 79 #[.val (.int x0), .val (.int x1), .val (.int x2), .val (.int bits), .val (.int (3 : Int32)), .val (.int (2 : Int32)), .val (.ref o), .val (.ref en0), .val (.ref en1), .val (.ref en2), .unset, .unset, .unset, .unset, .unset, .unset] [])) _
        refine XS.aload X92.here hx rfl (hb hby at_79) rfl rfl ?_
        show Steps p.tables e below (T92.setTop (mkF m 81 #[.val (.int x0), .val (.int x1), .val (.int x2), .val (.int bits), .val (.int (3 : Int32)), .val (.int (2 : Int32)), .val (.ref o), .val (.ref en0), .val (.ref en1), .val (.ref en2), .unset, .unset, .unset, .unset, .unset, .unset] [(.ref o)])) _
        refine XS.aload X92.here hx rfl (hb hby at_81) rfl rfl ?_
        show Steps p.tables e below (T92.setTop (mkF m 83 #[.val (.int x0), .val (.int x1), .val (.int x2), .val (.int bits), .val (.int (3 : Int32)), .val (.int (2 : Int32)), .val (.ref o), .val (.ref en0), .val (.ref en1), .val (.ref en2), .unset, .unset, .unset, .unset, .unset, .unset] [(.ref en1), (.ref o)])) _
        exact kt
      obtain ⟨cq93, kq93, q93a, q93b, q93c⟩ := isOf hZ rfl E_o
      obtain ⟨_, _, ⟨T93, L93, k93, n93⟩, -, X93, ⟨Lc93, hQ93, l93, y93, z93⟩, st93⟩ := X92.virtualBack hx (y := (⟨"com/example/round_table/roundtable/engine/OrderList", "append", "(Lcom/example/round_table/roundtable/engine/OrderList$Entry;)V"⟩ : MethodName)) (z := (⟨"com/example/round_table/roundtable/engine/OrderList", "append", "(Lcom/example/round_table/roundtable/engine/OrderList$Entry;)V"⟩ : MethodName)) hown (mvT hZ (hw _ (List.mem_of_getElem? (i := 27) rfl))) (mvT hZ (hw _ (List.mem_of_getElem? (i := 28) rfl))) (notFace_of_selects (args := #[]) (mvT hZ (hw _ (List.mem_of_getElem? (i := 30) rfl)))) (mvT hZ (hw _ (List.mem_of_getElem? (i := 30) rfl))) (mvT hZ (hw _ (List.mem_of_getElem? (i := 29) rfl))) (by decide) (backOf (W := 0) (rm_appN l Z a0 hw [] o en1 hd en0 (.ref hd) bits eg RR lab_en0 (0 : Int64) T92.heap n0 Z92 E_o g_o F_head_o F_last_o F_labelBits_o F_endGap_o E_en0 g_en0 F_label_en0 F_previous_en0 F_next_en0 E_en1 g_en1 F_label_en1 F_previous_en1 F_next_en1 ne_o_en0 ne_o_en1 ne_en0_en1 (Ne.symm ne_hd_en0) hRR hR heg (by omega) (by omega)) hZ (hw _ (List.mem_of_getElem? (i := 31) rfl)) (hw _ (List.mem_of_getElem? (i := 3) rfl)) (by decide) (by decide)) q93a q93c (g := (mkF m 83 #[.val (.int x0), .val (.int x1), .val (.int x2), .val (.int bits), .val (.int (3 : Int32)), .val (.int (2 : Int32)), .val (.ref o), .val (.ref en0), .val (.ref en1), .val (.ref en2), .unset, .unset, .unset, .unset, .unset, .unset] [(.ref en1), (.ref o)])) rfl (by rw [hml]; rfl) (Steps.refl _) (argsL := [(.ref en1)]) (rest := []) (lenOf pd_5 rfl) rfl (by show 2 * 0 + _ ≤ _; exact Nat.le_of_eq rfl) (hb hby at_83) (fun _ _ => ⟨rfl, rfl, (by decide : 5 + 0 ≤ _), (by decide : 16 + 0 ≤ _)⟩)
      dsimp only [Pt.U, Pt.locs, Pt.cells, Pt.slots] at X93 l93 y93 z93 st93 hQ93
      subst l93 y93 z93
      obtain ⟨lab_en1, rfl, N93q, K93, F_head_o, F_last_o, F_labelBits_o, F_endGap_o, F_label_en0, F_previous_en0, F_next_en0, F_label_en1, F_previous_en1, F_next_en1, hb1_en1, hb2_en1, hb3_en1⟩ := hQ93
      have N93 := Fr.app N92 N93q
      have Z93 : n0 ≤ T93.heap.size := Nat.le_trans Z92 K93.1
      have E_o := E_o.keep K93
      have E_hd := E_hd.keep K93
      have E_en0 := E_en0.keep K93
      have E_en1 := E_en1.keep K93
      have F_next_en2 := F_next_en2.keep K93 (ninS (Ne.symm ne_o_en2) (ninS (Ne.symm ne_en0_en2) (ninS (Ne.symm ne_en1_en2) nin0)))
      have F_previous_en2 := F_previous_en2.keep K93 (ninS (Ne.symm ne_o_en2) (ninS (Ne.symm ne_en0_en2) (ninS (Ne.symm ne_en1_en2) nin0)))
      have F_label_en2 := F_label_en2.keep K93 (ninS (Ne.symm ne_o_en2) (ninS (Ne.symm ne_en0_en2) (ninS (Ne.symm ne_en1_en2) nin0)))
      have E_en2 := E_en2.keep K93
      have F_label_hd := F_label_hd.keep K93 (ninS (Ne.symm ne_o_hd) (ninS ne_hd_en0 (ninS ne_hd_en1 nin0)))
      have F_previous_hd := F_previous_hd.keep K93 (ninS (Ne.symm ne_o_hd) (ninS ne_hd_en0 (ninS ne_hd_en1 nin0)))
      have F_next_hd := F_next_hd.keep K93 (ninS (Ne.symm ne_o_hd) (ninS ne_hd_en0 (ninS ne_hd_en1 nin0)))
      refine RunsTo.of (T' := T93) (g' := (mkF m 86 #[.val (.int x0), .val (.int x1), .val (.int x2), .val (.int bits), .val (.int (3 : Int32)), .val (.int (2 : Int32)), .val (.ref o), .val (.ref en0), .val (.ref en1), .val (.ref en2), .unset, .unset, .unset, .unset, .unset, .unset] [])) (fun _ kt => st93.trans kt) ?_
      refine RunsTo.of (T' := T93) (g' := (mkF m 96 #[.val (.int x0), .val (.int x1), .val (.int x2), .val (.int bits), .val (.int (3 : Int32)), .val (.int (2 : Int32)), .val (.ref o), .val (.ref en0), .val (.ref en1), .val (.ref en2), .unset, .unset, .unset, .unset, .unset, .unset] [(.ref en2), (.ref o)])) (fun tgt_ kt => ?_) ?_
      · refine XS.iload X93.here hx rfl (hb hby at_86) rfl ?_
        show Steps p.tables e below (T93.setTop (mkF m 88 #[.val (.int x0), .val (.int x1), .val (.int x2), .val (.int bits), .val (.int (3 : Int32)), .val (.int (2 : Int32)), .val (.ref o), .val (.ref en0), .val (.ref en1), .val (.ref en2), .unset, .unset, .unset, .unset, .unset, .unset] [(.int (3 : Int32))])) _
        refine XS.iconst X93.here hx rfl (hb hby at_88) ?_
        show Steps p.tables e below (T93.setTop (mkF m 89 #[.val (.int x0), .val (.int x1), .val (.int x2), .val (.int bits), .val (.int (3 : Int32)), .val (.int (2 : Int32)), .val (.ref o), .val (.ref en0), .val (.ref en1), .val (.ref en2), .unset, .unset, .unset, .unset, .unset, .unset] [(.int (3 : Int32)), (.int (3 : Int32))])) _
        refine XS.icmpNo X93.here hx rfl (hb hby at_89) rfl (flt (by decide)).1 ?_
        show Steps p.tables e below (T93.setTop (mkF m 92 #[.val (.int x0), .val (.int x1), .val (.int x2), .val (.int bits), .val (.int (3 : Int32)), .val (.int (2 : Int32)), .val (.ref o), .val (.ref en0), .val (.ref en1), .val (.ref en2), .unset, .unset, .unset, .unset, .unset, .unset] [])) _
        refine XS.aload X93.here hx rfl (hb hby at_92) rfl rfl ?_
        show Steps p.tables e below (T93.setTop (mkF m 94 #[.val (.int x0), .val (.int x1), .val (.int x2), .val (.int bits), .val (.int (3 : Int32)), .val (.int (2 : Int32)), .val (.ref o), .val (.ref en0), .val (.ref en1), .val (.ref en2), .unset, .unset, .unset, .unset, .unset, .unset] [(.ref o)])) _
        refine XS.aload X93.here hx rfl (hb hby at_94) rfl rfl ?_
        show Steps p.tables e below (T93.setTop (mkF m 96 #[.val (.int x0), .val (.int x1), .val (.int x2), .val (.int bits), .val (.int (3 : Int32)), .val (.int (2 : Int32)), .val (.ref o), .val (.ref en0), .val (.ref en1), .val (.ref en2), .unset, .unset, .unset, .unset, .unset, .unset] [(.ref en2), (.ref o)])) _
        exact kt
      obtain ⟨cq94, kq94, q94a, q94b, q94c⟩ := isOf hZ rfl E_o
      obtain ⟨_, _, ⟨T94, L94, k94, n94⟩, -, X94, ⟨Lc94, hQ94, l94, y94, z94⟩, st94⟩ := X93.virtualBack hx (y := (⟨"com/example/round_table/roundtable/engine/OrderList", "append", "(Lcom/example/round_table/roundtable/engine/OrderList$Entry;)V"⟩ : MethodName)) (z := (⟨"com/example/round_table/roundtable/engine/OrderList", "append", "(Lcom/example/round_table/roundtable/engine/OrderList$Entry;)V"⟩ : MethodName)) hown (mvT hZ (hw _ (List.mem_of_getElem? (i := 27) rfl))) (mvT hZ (hw _ (List.mem_of_getElem? (i := 28) rfl))) (notFace_of_selects (args := #[]) (mvT hZ (hw _ (List.mem_of_getElem? (i := 30) rfl)))) (mvT hZ (hw _ (List.mem_of_getElem? (i := 30) rfl))) (mvT hZ (hw _ (List.mem_of_getElem? (i := 29) rfl))) (by decide) (backOf (W := 0) (rm_appN l Z a0 hw [] o en2 hd en1 (.ref en0) bits eg RR lab_en1 (0 : Int64) T93.heap n0 Z93 E_o g_o F_head_o F_last_o F_labelBits_o F_endGap_o E_en1 g_en1 F_label_en1 F_previous_en1 F_next_en1 E_en2 g_en2 F_label_en2 F_previous_en2 F_next_en2 ne_o_en1 ne_o_en2 ne_en1_en2 (Ne.symm ne_hd_en1) hRR hR heg (by omega) (by omega)) hZ (hw _ (List.mem_of_getElem? (i := 31) rfl)) (hw _ (List.mem_of_getElem? (i := 3) rfl)) (by decide) (by decide)) q94a q94c (g := (mkF m 96 #[.val (.int x0), .val (.int x1), .val (.int x2), .val (.int bits), .val (.int (3 : Int32)), .val (.int (2 : Int32)), .val (.ref o), .val (.ref en0), .val (.ref en1), .val (.ref en2), .unset, .unset, .unset, .unset, .unset, .unset] [(.ref en2), (.ref o)])) rfl (by rw [hml]; rfl) (Steps.refl _) (argsL := [(.ref en2)]) (rest := []) (lenOf pd_5 rfl) rfl (by show 2 * 0 + _ ≤ _; exact Nat.le_of_eq rfl) (hb hby at_96) (fun _ _ => ⟨rfl, rfl, (by decide : 5 + 0 ≤ _), (by decide : 16 + 0 ≤ _)⟩)
      dsimp only [Pt.U, Pt.locs, Pt.cells, Pt.slots] at X94 l94 y94 z94 st94 hQ94
      subst l94 y94 z94
      obtain ⟨lab_en2, rfl, N94q, K94, F_head_o, F_last_o, F_labelBits_o, F_endGap_o, F_label_en1, F_previous_en1, F_next_en1, F_label_en2, F_previous_en2, F_next_en2, hb1_en2, hb2_en2, hb3_en2⟩ := hQ94
      have N94 := Fr.app N93 N94q
      have Z94 : n0 ≤ T94.heap.size := Nat.le_trans Z93 K94.1
      have E_o := E_o.keep K94
      have E_hd := E_hd.keep K94
      have E_en0 := E_en0.keep K94
      have E_en1 := E_en1.keep K94
      have E_en2 := E_en2.keep K94
      have F_label_hd := F_label_hd.keep K94 (ninS (Ne.symm ne_o_hd) (ninS ne_hd_en1 (ninS ne_hd_en2 nin0)))
      have F_previous_hd := F_previous_hd.keep K94 (ninS (Ne.symm ne_o_hd) (ninS ne_hd_en1 (ninS ne_hd_en2 nin0)))
      have F_next_hd := F_next_hd.keep K94 (ninS (Ne.symm ne_o_hd) (ninS ne_hd_en1 (ninS ne_hd_en2 nin0)))
      have F_label_en0 := F_label_en0.keep K94 (ninS (Ne.symm ne_o_en0) (ninS ne_en0_en1 (ninS ne_en0_en2 nin0)))
      have F_previous_en0 := F_previous_en0.keep K94 (ninS (Ne.symm ne_o_en0) (ninS ne_en0_en1 (ninS ne_en0_en2 nin0)))
      have F_next_en0 := F_next_en0.keep K94 (ninS (Ne.symm ne_o_en0) (ninS ne_en0_en1 (ninS ne_en0_en2 nin0)))
      refine RunsTo.of (T' := T94) (g' := (mkF m 99 #[.val (.int x0), .val (.int x1), .val (.int x2), .val (.int bits), .val (.int (3 : Int32)), .val (.int (2 : Int32)), .val (.ref o), .val (.ref en0), .val (.ref en1), .val (.ref en2), .unset, .unset, .unset, .unset, .unset, .unset] [])) (fun _ kt => st94.trans kt) ?_
      refine RunsTo.of (T' := T94) (g' := (mkF m 128 #[.val (.int x0), .val (.int x1), .val (.int x2), .val (.int bits), .val (.int (3 : Int32)), .val (.int (2 : Int32)), .val (.ref o), .val (.ref en0), .val (.ref en1), .val (.ref en2), .val (.ref en2), .unset, .unset, .unset, .unset, .unset] [(.ref en2), (.ref o)])) (fun tgt_ kt => ?_) ?_
      · refine XS.iload X94.here hx rfl (hb hby at_99) rfl ?_
        show Steps p.tables e below (T94.setTop (mkF m 101 #[.val (.int x0), .val (.int x1), .val (.int x2), .val (.int bits), .val (.int (3 : Int32)), .val (.int (2 : Int32)), .val (.ref o), .val (.ref en0), .val (.ref en1), .val (.ref en2), .unset, .unset, .unset, .unset, .unset, .unset] [(.int (2 : Int32))])) _
        refine XS.ifYes X94.here hx rfl (pc0 := 101) (pc' := 109) rfl (hb hby at_101) rfl ((if0 _ _).trans (feq (by decide)).2) (by decide) (by decide) ?_
        show Steps p.tables e below (T94.setTop (mkF m 109 #[.val (.int x0), .val (.int x1), .val (.int x2), .val (.int bits), .val (.int (3 : Int32)), .val (.int (2 : Int32)), .val (.ref o), .val (.ref en0), .val (.ref en1), .val (.ref en2), .unset, .unset, .unset, .unset, .unset, .unset] [])) _
        refine XS.iload X94.here hx rfl (hb hby at_109) rfl ?_
        show Steps p.tables e below (T94.setTop (mkF m 111 #[.val (.int x0), .val (.int x1), .val (.int x2), .val (.int bits), .val (.int (3 : Int32)), .val (.int (2 : Int32)), .val (.ref o), .val (.ref en0), .val (.ref en1), .val (.ref en2), .unset, .unset, .unset, .unset, .unset, .unset] [(.int (2 : Int32))])) _
        refine XS.iconst X94.here hx rfl (hb hby at_111) ?_
        show Steps p.tables e below (T94.setTop (mkF m 112 #[.val (.int x0), .val (.int x1), .val (.int x2), .val (.int bits), .val (.int (3 : Int32)), .val (.int (2 : Int32)), .val (.ref o), .val (.ref en0), .val (.ref en1), .val (.ref en2), .unset, .unset, .unset, .unset, .unset, .unset] [(.int (1 : Int32)), (.int (2 : Int32))])) _
        refine XS.icmpYes X94.here hx rfl (pc0 := 112) (pc' := 120) rfl (hb hby at_112) rfl (feq (by decide)).2 (by decide) (by decide) ?_
        show Steps p.tables e below (T94.setTop (mkF m 120 #[.val (.int x0), .val (.int x1), .val (.int x2), .val (.int bits), .val (.int (3 : Int32)), .val (.int (2 : Int32)), .val (.ref o), .val (.ref en0), .val (.ref en1), .val (.ref en2), .unset, .unset, .unset, .unset, .unset, .unset] [])) _
        refine XS.aload X94.here hx rfl (hb hby at_120) rfl rfl ?_
        show Steps p.tables e below (T94.setTop (mkF m 122 #[.val (.int x0), .val (.int x1), .val (.int x2), .val (.int bits), .val (.int (3 : Int32)), .val (.int (2 : Int32)), .val (.ref o), .val (.ref en0), .val (.ref en1), .val (.ref en2), .unset, .unset, .unset, .unset, .unset, .unset] [(.ref en2)])) _
        refine XS.astore X94.here hx rfl (hb hby at_122) rfl rfl (l' := #[.val (.int x0), .val (.int x1), .val (.int x2), .val (.int bits), .val (.int (3 : Int32)), .val (.int (2 : Int32)), .val (.ref o), .val (.ref en0), .val (.ref en1), .val (.ref en2), .val (.ref en2), .unset, .unset, .unset, .unset, .unset]) rfl ?_
        show Steps p.tables e below (T94.setTop (mkF m 124 #[.val (.int x0), .val (.int x1), .val (.int x2), .val (.int bits), .val (.int (3 : Int32)), .val (.int (2 : Int32)), .val (.ref o), .val (.ref en0), .val (.ref en1), .val (.ref en2), .val (.ref en2), .unset, .unset, .unset, .unset, .unset] [])) _
        refine XS.aload X94.here hx rfl (hb hby at_124) rfl rfl ?_
        show Steps p.tables e below (T94.setTop (mkF m 126 #[.val (.int x0), .val (.int x1), .val (.int x2), .val (.int bits), .val (.int (3 : Int32)), .val (.int (2 : Int32)), .val (.ref o), .val (.ref en0), .val (.ref en1), .val (.ref en2), .val (.ref en2), .unset, .unset, .unset, .unset, .unset] [(.ref o)])) _
        refine XS.aload X94.here hx rfl (hb hby at_126) rfl rfl ?_
        show Steps p.tables e below (T94.setTop (mkF m 128 #[.val (.int x0), .val (.int x1), .val (.int x2), .val (.int bits), .val (.int (3 : Int32)), .val (.int (2 : Int32)), .val (.ref o), .val (.ref en0), .val (.ref en1), .val (.ref en2), .val (.ref en2), .unset, .unset, .unset, .unset, .unset] [(.ref en2), (.ref o)])) _
        exact kt
      obtain ⟨cq95, kq95, q95a, q95b, q95c⟩ := isOf hZ rfl E_o
      obtain ⟨_, _, ⟨T95, L95, k95, n95⟩, -, X95, ⟨Lc95, hQ95, l95, y95, z95⟩, st95⟩ := X94.virtualBack hx (y := (⟨"com/example/round_table/roundtable/engine/OrderList", "remove", "(Lcom/example/round_table/roundtable/engine/OrderList$Entry;)V"⟩ : MethodName)) (z := (⟨"com/example/round_table/roundtable/engine/OrderList", "remove", "(Lcom/example/round_table/roundtable/engine/OrderList$Entry;)V"⟩ : MethodName)) hown (mvT hZ (hw _ (List.mem_of_getElem? (i := 53) rfl))) (mvT hZ (hw _ (List.mem_of_getElem? (i := 54) rfl))) (notFace_of_selects (args := #[]) (mvT hZ (hw _ (List.mem_of_getElem? (i := 56) rfl)))) (mvT hZ (hw _ (List.mem_of_getElem? (i := 56) rfl))) (mvT hZ (hw _ (List.mem_of_getElem? (i := 55) rfl))) (by decide) (backOf (W := 0) (rm_remE l Z a0 hw [] o en2 hd en1 (.ref en2) (.ref en0) bits eg lab_en1 lab_en2 T94.heap n0 Z94 E_o g_o F_head_o F_last_o F_labelBits_o F_endGap_o E_en1 g_en1 F_label_en1 F_previous_en1 F_next_en1 E_en2 g_en2 F_label_en2 F_previous_en2 F_next_en2 ne_o_en1 ne_o_en2 ne_en1_en2) hZ (hw _ (List.mem_of_getElem? (i := 57) rfl)) (hw _ (List.mem_of_getElem? (i := 3) rfl)) (by decide) (by decide)) q95a q95c (g := (mkF m 128 #[.val (.int x0), .val (.int x1), .val (.int x2), .val (.int bits), .val (.int (3 : Int32)), .val (.int (2 : Int32)), .val (.ref o), .val (.ref en0), .val (.ref en1), .val (.ref en2), .val (.ref en2), .unset, .unset, .unset, .unset, .unset] [(.ref en2), (.ref o)])) rfl (by rw [hml]; rfl) (Steps.refl _) (argsL := [(.ref en2)]) (rest := []) (lenOf pd_5 rfl) rfl (by show 2 * 0 + _ ≤ _; exact Nat.le_of_eq rfl) (hb hby at_128) (fun _ _ => ⟨rfl, rfl, (by decide : 5 + 0 ≤ _), (by decide : 16 + 0 ≤ _)⟩)
      dsimp only [Pt.U, Pt.locs, Pt.cells, Pt.slots] at X95 l95 y95 z95 st95 hQ95
      subst l95 y95 z95
      obtain ⟨rfl, N95q, K95, F_head_o, F_last_o, F_labelBits_o, F_endGap_o, F_label_en1, F_previous_en1, F_next_en1, F_label_en2, F_previous_en2, F_next_en2⟩ := hQ95
      have N95 := Fr.app N94 N95q
      have Z95 : n0 ≤ T95.heap.size := Nat.le_trans Z94 K95.1
      have E_o := E_o.keep K95
      have E_hd := E_hd.keep K95
      have E_en0 := E_en0.keep K95
      have E_en1 := E_en1.keep K95
      have E_en2 := E_en2.keep K95
      have F_label_hd := F_label_hd.keep K95 (ninS (Ne.symm ne_o_hd) (ninS ne_hd_en1 (ninS ne_hd_en2 nin0)))
      have F_previous_hd := F_previous_hd.keep K95 (ninS (Ne.symm ne_o_hd) (ninS ne_hd_en1 (ninS ne_hd_en2 nin0)))
      have F_next_hd := F_next_hd.keep K95 (ninS (Ne.symm ne_o_hd) (ninS ne_hd_en1 (ninS ne_hd_en2 nin0)))
      have F_label_en0 := F_label_en0.keep K95 (ninS (Ne.symm ne_o_en0) (ninS ne_en0_en1 (ninS ne_en0_en2 nin0)))
      have F_previous_en0 := F_previous_en0.keep K95 (ninS (Ne.symm ne_o_en0) (ninS ne_en0_en1 (ninS ne_en0_en2 nin0)))
      have F_next_en0 := F_next_en0.keep K95 (ninS (Ne.symm ne_o_en0) (ninS ne_en0_en1 (ninS ne_en0_en2 nin0)))
      refine RunsTo.of (T' := T95) (g' := (mkF m 131 #[.val (.int x0), .val (.int x1), .val (.int x2), .val (.int bits), .val (.int (3 : Int32)), .val (.int (2 : Int32)), .val (.ref o), .val (.ref en0), .val (.ref en1), .val (.ref en2), .val (.ref en2), .unset, .unset, .unset, .unset, .unset] [])) (fun _ kt => st95.trans kt) ?_
      refine RunsTo.of (T' := T95) (g' := (mkF m 137 #[.val (.int x0), .val (.int x1), .val (.int x2), .val (.int bits), .val (.int (3 : Int32)), .val (.int (2 : Int32)), .val (.ref o), .val (.ref en0), .val (.ref en1), .val (.ref en2), .val (.ref en2), .val (.int ((3 : Int32) - (1 : Int32))), .unset, .unset, .unset, .unset] [])) (fun tgt_ kt => ?_) ?_
      · refine XS.iload X95.here hx rfl (hb hby at_131) rfl ?_
        show Steps p.tables e below (T95.setTop (mkF m 133 #[.val (.int x0), .val (.int x1), .val (.int x2), .val (.int bits), .val (.int (3 : Int32)), .val (.int (2 : Int32)), .val (.ref o), .val (.ref en0), .val (.ref en1), .val (.ref en2), .val (.ref en2), .unset, .unset, .unset, .unset, .unset] [(.int (3 : Int32))])) _
        refine XS.iconst X95.here hx rfl (hb hby at_133) ?_
        show Steps p.tables e below (T95.setTop (mkF m 134 #[.val (.int x0), .val (.int x1), .val (.int x2), .val (.int bits), .val (.int (3 : Int32)), .val (.int (2 : Int32)), .val (.ref o), .val (.ref en0), .val (.ref en1), .val (.ref en2), .val (.ref en2), .unset, .unset, .unset, .unset, .unset] [(.int (1 : Int32)), (.int (3 : Int32))])) _
        refine XS.isub X95.here hx rfl (hb hby at_134) rfl ?_
        show Steps p.tables e below (T95.setTop (mkF m 135 #[.val (.int x0), .val (.int x1), .val (.int x2), .val (.int bits), .val (.int (3 : Int32)), .val (.int (2 : Int32)), .val (.ref o), .val (.ref en0), .val (.ref en1), .val (.ref en2), .val (.ref en2), .unset, .unset, .unset, .unset, .unset] [(.int ((3 : Int32) - (1 : Int32)))])) _
        refine XS.istore X95.here hx rfl (hb hby at_135) rfl (l' := #[.val (.int x0), .val (.int x1), .val (.int x2), .val (.int bits), .val (.int (3 : Int32)), .val (.int (2 : Int32)), .val (.ref o), .val (.ref en0), .val (.ref en1), .val (.ref en2), .val (.ref en2), .val (.int ((3 : Int32) - (1 : Int32))), .unset, .unset, .unset, .unset]) rfl ?_
        show Steps p.tables e below (T95.setTop (mkF m 137 #[.val (.int x0), .val (.int x1), .val (.int x2), .val (.int bits), .val (.int (3 : Int32)), .val (.int (2 : Int32)), .val (.ref o), .val (.ref en0), .val (.ref en1), .val (.ref en2), .val (.ref en2), .val (.int ((3 : Int32) - (1 : Int32))), .unset, .unset, .unset, .unset] [])) _
        exact kt
      have hm : (3 : Int32) - (1 : Int32) = (2 : Int32) := by decide
      rw [hm]
      refine RunsTo.of (T' := T95) (g' := (mkF m 237 #[.val (.int x0), .val (.int x1), .val (.int x2), .val (.int bits), .val (.int (3 : Int32)), .val (.int (2 : Int32)), .val (.ref o), .val (.ref en0), .val (.ref en1), .val (.ref en2), .val (.ref en2), .val (.int (2 : Int32)), .val (.ref en0), .val (.ref en1), .unset, .unset] [(.ref o)])) (fun tgt_ kt => ?_) ?_
      · refine XS.iload X95.here hx rfl (hb hby at_137) rfl ?_
        show Steps p.tables e below (T95.setTop (mkF m 139 #[.val (.int x0), .val (.int x1), .val (.int x2), .val (.int bits), .val (.int (3 : Int32)), .val (.int (2 : Int32)), .val (.ref o), .val (.ref en0), .val (.ref en1), .val (.ref en2), .val (.ref en2), .val (.int (2 : Int32)), .unset, .unset, .unset, .unset] [(.int (2 : Int32))])) _
        refine XS.ifYes X95.here hx rfl (pc0 := 139) (pc' := 147) rfl (hb hby at_139) rfl ((if0 _ _).trans (feq (by decide)).2) (by decide) (by decide) ?_
        show Steps p.tables e below (T95.setTop (mkF m 147 #[.val (.int x0), .val (.int x1), .val (.int x2), .val (.int bits), .val (.int (3 : Int32)), .val (.int (2 : Int32)), .val (.ref o), .val (.ref en0), .val (.ref en1), .val (.ref en2), .val (.ref en2), .val (.int (2 : Int32)), .unset, .unset, .unset, .unset] [])) _
        refine XS.aload X95.here hx rfl (hb hby at_147) rfl rfl ?_
        show Steps p.tables e below (T95.setTop (mkF m 149 #[.val (.int x0), .val (.int x1), .val (.int x2), .val (.int bits), .val (.int (3 : Int32)), .val (.int (2 : Int32)), .val (.ref o), .val (.ref en0), .val (.ref en1), .val (.ref en2), .val (.ref en2), .val (.int (2 : Int32)), .unset, .unset, .unset, .unset] [(.ref en0)])) _
        refine XS.astore X95.here hx rfl (hb hby at_149) rfl rfl (l' := #[.val (.int x0), .val (.int x1), .val (.int x2), .val (.int bits), .val (.int (3 : Int32)), .val (.int (2 : Int32)), .val (.ref o), .val (.ref en0), .val (.ref en1), .val (.ref en2), .val (.ref en2), .val (.int (2 : Int32)), .val (.ref en0), .unset, .unset, .unset]) rfl ?_
        show Steps p.tables e below (T95.setTop (mkF m 151 #[.val (.int x0), .val (.int x1), .val (.int x2), .val (.int bits), .val (.int (3 : Int32)), .val (.int (2 : Int32)), .val (.ref o), .val (.ref en0), .val (.ref en1), .val (.ref en2), .val (.ref en2), .val (.int (2 : Int32)), .val (.ref en0), .unset, .unset, .unset] [])) _
        refine XS.iload X95.here hx rfl (hb hby at_151) rfl ?_
        show Steps p.tables e below (T95.setTop (mkF m 153 #[.val (.int x0), .val (.int x1), .val (.int x2), .val (.int bits), .val (.int (3 : Int32)), .val (.int (2 : Int32)), .val (.ref o), .val (.ref en0), .val (.ref en1), .val (.ref en2), .val (.ref en2), .val (.int (2 : Int32)), .val (.ref en0), .unset, .unset, .unset] [(.int (2 : Int32))])) _
        refine XS.iconst X95.here hx rfl (hb hby at_153) ?_
        show Steps p.tables e below (T95.setTop (mkF m 154 #[.val (.int x0), .val (.int x1), .val (.int x2), .val (.int bits), .val (.int (3 : Int32)), .val (.int (2 : Int32)), .val (.ref o), .val (.ref en0), .val (.ref en1), .val (.ref en2), .val (.ref en2), .val (.int (2 : Int32)), .val (.ref en0), .unset, .unset, .unset] [(.int (2 : Int32)), (.int (2 : Int32))])) _
        refine XS.icmpNo X95.here hx rfl (hb hby at_154) rfl (teq rfl).2 ?_
        show Steps p.tables e below (T95.setTop (mkF m 157 #[.val (.int x0), .val (.int x1), .val (.int x2), .val (.int bits), .val (.int (3 : Int32)), .val (.int (2 : Int32)), .val (.ref o), .val (.ref en0), .val (.ref en1), .val (.ref en2), .val (.ref en2), .val (.int (2 : Int32)), .val (.ref en0), .unset, .unset, .unset] [])) _
        refine XS.aload X95.here hx rfl (hb hby at_157) rfl rfl ?_
        show Steps p.tables e below (T95.setTop (mkF m 159 #[.val (.int x0), .val (.int x1), .val (.int x2), .val (.int bits), .val (.int (3 : Int32)), .val (.int (2 : Int32)), .val (.ref o), .val (.ref en0), .val (.ref en1), .val (.ref en2), .val (.ref en2), .val (.int (2 : Int32)), .val (.ref en0), .unset, .unset, .unset] [(.ref en1)])) _
        refine XS.goto X95.here hx rfl (pc0 := 159) (pc' := 164) rfl (hb hby at_159) (by decide) (by decide) ?_
        show Steps p.tables e below (T95.setTop (mkF m 164 #[.val (.int x0), .val (.int x1), .val (.int x2), .val (.int bits), .val (.int (3 : Int32)), .val (.int (2 : Int32)), .val (.ref o), .val (.ref en0), .val (.ref en1), .val (.ref en2), .val (.ref en2), .val (.int (2 : Int32)), .val (.ref en0), .unset, .unset, .unset] [(.ref en1)])) _
        refine XS.astore X95.here hx rfl (hb hby at_164) rfl rfl (l' := #[.val (.int x0), .val (.int x1), .val (.int x2), .val (.int bits), .val (.int (3 : Int32)), .val (.int (2 : Int32)), .val (.ref o), .val (.ref en0), .val (.ref en1), .val (.ref en2), .val (.ref en2), .val (.int (2 : Int32)), .val (.ref en0), .val (.ref en1), .unset, .unset]) rfl ?_
        show Steps p.tables e below (T95.setTop (mkF m 166 #[.val (.int x0), .val (.int x1), .val (.int x2), .val (.int bits), .val (.int (3 : Int32)), .val (.int (2 : Int32)), .val (.ref o), .val (.ref en0), .val (.ref en1), .val (.ref en2), .val (.ref en2), .val (.int (2 : Int32)), .val (.ref en0), .val (.ref en1), .unset, .unset] [])) _
        refine XS.iload X95.here hx rfl (hb hby at_166) rfl ?_
        show Steps p.tables e below (T95.setTop (mkF m 168 #[.val (.int x0), .val (.int x1), .val (.int x2), .val (.int bits), .val (.int (3 : Int32)), .val (.int (2 : Int32)), .val (.ref o), .val (.ref en0), .val (.ref en1), .val (.ref en2), .val (.ref en2), .val (.int (2 : Int32)), .val (.ref en0), .val (.ref en1), .unset, .unset] [(.int (2 : Int32))])) _
        refine XS.ifYes X95.here hx rfl (pc0 := 168) (pc' := 189) rfl (hb hby at_168) rfl ((if0 _ _).trans (feq (by decide)).2) (by decide) (by decide) ?_
        show Steps p.tables e below (T95.setTop (mkF m 189 #[.val (.int x0), .val (.int x1), .val (.int x2), .val (.int bits), .val (.int (3 : Int32)), .val (.int (2 : Int32)), .val (.ref o), .val (.ref en0), .val (.ref en1), .val (.ref en2), .val (.ref en2), .val (.int (2 : Int32)), .val (.ref en0), .val (.ref en1), .unset, .unset] [])) _
        refine XS.iload X95.here hx rfl (hb hby at_189) rfl ?_
        show Steps p.tables e below (T95.setTop (mkF m 191 #[.val (.int x0), .val (.int x1), .val (.int x2), .val (.int bits), .val (.int (3 : Int32)), .val (.int (2 : Int32)), .val (.ref o), .val (.ref en0), .val (.ref en1), .val (.ref en2), .val (.ref en2), .val (.int (2 : Int32)), .val (.ref en0), .val (.ref en1), .unset, .unset] [(.int (2 : Int32))])) _
        refine XS.iconst X95.here hx rfl (hb hby at_191) ?_
        show Steps p.tables e below (T95.setTop (mkF m 192 #[.val (.int x0), .val (.int x1), .val (.int x2), .val (.int bits), .val (.int (3 : Int32)), .val (.int (2 : Int32)), .val (.ref o), .val (.ref en0), .val (.ref en1), .val (.ref en2), .val (.ref en2), .val (.int (2 : Int32)), .val (.ref en0), .val (.ref en1), .unset, .unset] [(.int (1 : Int32)), (.int (2 : Int32))])) _
        refine XS.icmpYes X95.here hx rfl (pc0 := 192) (pc' := 235) rfl (hb hby at_192) rfl (feq (by decide)).2 (by decide) (by decide) ?_
        show Steps p.tables e below (T95.setTop (mkF m 235 #[.val (.int x0), .val (.int x1), .val (.int x2), .val (.int bits), .val (.int (3 : Int32)), .val (.int (2 : Int32)), .val (.ref o), .val (.ref en0), .val (.ref en1), .val (.ref en2), .val (.ref en2), .val (.int (2 : Int32)), .val (.ref en0), .val (.ref en1), .unset, .unset] [])) _
        refine XS.aload X95.here hx rfl (hb hby at_235) rfl rfl ?_
        show Steps p.tables e below (T95.setTop (mkF m 237 #[.val (.int x0), .val (.int x1), .val (.int x2), .val (.int bits), .val (.int (3 : Int32)), .val (.int (2 : Int32)), .val (.ref o), .val (.ref en0), .val (.ref en1), .val (.ref en2), .val (.ref en2), .val (.int (2 : Int32)), .val (.ref en0), .val (.ref en1), .unset, .unset] [(.ref o)])) _
        exact kt
      obtain ⟨cq96, kq96, q96a, q96b, q96c⟩ := isOf hZ rfl E_o
      obtain ⟨_, _, ⟨T96, L96, k96, n96⟩, -, X96, ⟨Lc96, hQ96, l96, y96, z96⟩, st96⟩ := X95.virtualBack hx (y := (⟨"com/example/round_table/roundtable/engine/OrderList", "last", "()Lcom/example/round_table/roundtable/engine/OrderList$Entry;"⟩ : MethodName)) (z := (⟨"com/example/round_table/roundtable/engine/OrderList", "last", "()Lcom/example/round_table/roundtable/engine/OrderList$Entry;"⟩ : MethodName)) hown (mvT hZ (hw _ (List.mem_of_getElem? (i := 58) rfl))) (mvT hZ (hw _ (List.mem_of_getElem? (i := 33) rfl))) (notFace_of_selects (args := #[]) (mvT hZ (hw _ (List.mem_of_getElem? (i := 35) rfl)))) (mvT hZ (hw _ (List.mem_of_getElem? (i := 35) rfl))) (mvT hZ (hw _ (List.mem_of_getElem? (i := 34) rfl))) (by decide) (backOf (W := 0) (rm_lastN l Z a0 hw [] o hd en1 T95.heap n0 Z95 F_head_o F_last_o (Ne.symm ne_hd_en1)) hZ (hw _ (List.mem_of_getElem? (i := 36) rfl)) (hw _ (List.mem_of_getElem? (i := 3) rfl)) (by decide) (by decide)) q96a q96c (g := (mkF m 237 #[.val (.int x0), .val (.int x1), .val (.int x2), .val (.int bits), .val (.int (3 : Int32)), .val (.int (2 : Int32)), .val (.ref o), .val (.ref en0), .val (.ref en1), .val (.ref en2), .val (.ref en2), .val (.int (2 : Int32)), .val (.ref en0), .val (.ref en1), .unset, .unset] [(.ref o)])) rfl (by rw [hml]; rfl) (Steps.refl _) (argsL := []) (rest := []) (lenOf pd_2 rfl) rfl (by show 2 * 0 + _ ≤ _; exact Nat.le_of_eq rfl) (hb hby at_237) (fun _ _ => ⟨rfl, rfl, (by decide : 5 + 0 ≤ _), (by decide : 16 + 0 ≤ _)⟩)
      dsimp only [Pt.U, Pt.locs, Pt.cells, Pt.slots] at X96 l96 y96 z96 st96 hQ96
      subst l96 y96 z96
      obtain ⟨rfl, N96q, e96⟩ := hQ96
      have N96 := Fr.app N95 N96q
      refine RunsTo.of (T' := T96) (g' := (mkF m 240 #[.val (.int x0), .val (.int x1), .val (.int x2), .val (.int bits), .val (.int (3 : Int32)), .val (.int (2 : Int32)), .val (.ref o), .val (.ref en0), .val (.ref en1), .val (.ref en2), .val (.ref en2), .val (.int (2 : Int32)), .val (.ref en0), .val (.ref en1), .unset, .unset] [(.ref en1)])) (fun _ kt => st96.trans kt) ?_
      refine RunsTo.of (T' := T96) (g' := (mkF m 249 #[.val (.int x0), .val (.int x1), .val (.int x2), .val (.int bits), .val (.int (3 : Int32)), .val (.int (2 : Int32)), .val (.ref o), .val (.ref en0), .val (.ref en1), .val (.ref en2), .val (.ref en2), .val (.int (2 : Int32)), .val (.ref en0), .val (.ref en1), .unset, .unset] [(.ref en0), (.ref o)])) (fun tgt_ kt => ?_) ?_
      · refine XS.aload X96.here hx rfl (hb hby at_240) rfl rfl ?_
        show Steps p.tables e below (T96.setTop (mkF m 242 #[.val (.int x0), .val (.int x1), .val (.int x2), .val (.int bits), .val (.int (3 : Int32)), .val (.int (2 : Int32)), .val (.ref o), .val (.ref en0), .val (.ref en1), .val (.ref en2), .val (.ref en2), .val (.int (2 : Int32)), .val (.ref en0), .val (.ref en1), .unset, .unset] [(.ref en1), (.ref en1)])) _
        refine Jvm.RoadKit.acmp (g := (mkF m 242 #[.val (.int x0), .val (.int x1), .val (.int x2), .val (.int bits), .val (.int (3 : Int32)), .val (.int (2 : Int32)), .val (.ref o), .val (.ref en0), .val (.ref en1), .val (.ref en2), .val (.ref en2), .val (.int (2 : Int32)), .val (.ref en0), .val (.ref en1), .unset, .unset] [(.ref en1), (.ref en1)])) X96 hx rfl rfl rfl (pc0 := 242) (pc' := 245) (same := true) rfl (hb hby at_242) rfl (decide_eq_true (congrArg Value.ref rfl)) (by decide) (by decide) ?_
        show Steps p.tables e below (T96.setTop (mkF m 245 #[.val (.int x0), .val (.int x1), .val (.int x2), .val (.int bits), .val (.int (3 : Int32)), .val (.int (2 : Int32)), .val (.ref o), .val (.ref en0), .val (.ref en1), .val (.ref en2), .val (.ref en2), .val (.int (2 : Int32)), .val (.ref en0), .val (.ref en1), .unset, .unset] [])) _
        refine XS.aload X96.here hx rfl (hb hby at_245) rfl rfl ?_
        show Steps p.tables e below (T96.setTop (mkF m 247 #[.val (.int x0), .val (.int x1), .val (.int x2), .val (.int bits), .val (.int (3 : Int32)), .val (.int (2 : Int32)), .val (.ref o), .val (.ref en0), .val (.ref en1), .val (.ref en2), .val (.ref en2), .val (.int (2 : Int32)), .val (.ref en0), .val (.ref en1), .unset, .unset] [(.ref o)])) _
        refine XS.aload X96.here hx rfl (hb hby at_247) rfl rfl ?_
        show Steps p.tables e below (T96.setTop (mkF m 249 #[.val (.int x0), .val (.int x1), .val (.int x2), .val (.int bits), .val (.int (3 : Int32)), .val (.int (2 : Int32)), .val (.ref o), .val (.ref en0), .val (.ref en1), .val (.ref en2), .val (.ref en2), .val (.int (2 : Int32)), .val (.ref en0), .val (.ref en1), .unset, .unset] [(.ref en0), (.ref o)])) _
        exact kt
      obtain ⟨cq97, kq97, q97a, q97b, q97c⟩ := isOf hZ e96 E_o
      obtain ⟨_, _, ⟨T97, L97, k97, n97⟩, -, X97, ⟨Lc97, hQ97, l97, y97, z97⟩, st97⟩ := X96.virtualBack hx (y := (⟨"com/example/round_table/roundtable/engine/OrderList", "previous", "(Lcom/example/round_table/roundtable/engine/OrderList$Entry;)Lcom/example/round_table/roundtable/engine/OrderList$Entry;"⟩ : MethodName)) (z := (⟨"com/example/round_table/roundtable/engine/OrderList", "previous", "(Lcom/example/round_table/roundtable/engine/OrderList$Entry;)Lcom/example/round_table/roundtable/engine/OrderList$Entry;"⟩ : MethodName)) hown (mvT hZ (hw _ (List.mem_of_getElem? (i := 65) rfl))) (mvT hZ (hw _ (List.mem_of_getElem? (i := 66) rfl))) (notFace_of_selects (args := #[]) (mvT hZ (hw _ (List.mem_of_getElem? (i := 68) rfl)))) (mvT hZ (hw _ (List.mem_of_getElem? (i := 68) rfl))) (mvT hZ (hw _ (List.mem_of_getElem? (i := 67) rfl))) (by decide) (backOf (W := 0) (rm_prevE l Z a0 hw [] o en0 hd T95.heap n0 Z95 F_head_o F_previous_en0) hZ (hw _ (List.mem_of_getElem? (i := 69) rfl)) (hw _ (List.mem_of_getElem? (i := 3) rfl)) (by decide) (by decide)) q97a q97c (g := (mkF m 249 #[.val (.int x0), .val (.int x1), .val (.int x2), .val (.int bits), .val (.int (3 : Int32)), .val (.int (2 : Int32)), .val (.ref o), .val (.ref en0), .val (.ref en1), .val (.ref en2), .val (.ref en2), .val (.int (2 : Int32)), .val (.ref en0), .val (.ref en1), .unset, .unset] [(.ref en0), (.ref o)])) rfl (by rw [hml]; rfl) (Steps.refl _) (argsL := [(.ref en0)]) (rest := []) (lenOf pd_6 rfl) rfl (by show 2 * 0 + _ ≤ _; exact Nat.le_of_eq rfl) (hb hby at_249) (fun _ _ => ⟨rfl, e96, (by decide : 5 + 0 ≤ _), (by decide : 16 + 0 ≤ _)⟩)
      dsimp only [Pt.U, Pt.locs, Pt.cells, Pt.slots] at X97 l97 y97 z97 st97 hQ97
      subst l97 y97 z97
      obtain ⟨rfl, N97q, e97⟩ := hQ97
      have N97 := Fr.app N96 N97q
      refine RunsTo.of (T' := T97) (g' := (mkF m 252 #[.val (.int x0), .val (.int x1), .val (.int x2), .val (.int bits), .val (.int (3 : Int32)), .val (.int (2 : Int32)), .val (.ref o), .val (.ref en0), .val (.ref en1), .val (.ref en2), .val (.ref en2), .val (.int (2 : Int32)), .val (.ref en0), .val (.ref en1), .unset, .unset] [.null])) (fun _ kt => st97.trans kt) ?_
      refine RunsTo.of (T' := T97) (g' := (mkF m 259 #[.val (.int x0), .val (.int x1), .val (.int x2), .val (.int bits), .val (.int (3 : Int32)), .val (.int (2 : Int32)), .val (.ref o), .val (.ref en0), .val (.ref en1), .val (.ref en2), .val (.ref en2), .val (.int (2 : Int32)), .val (.ref en0), .val (.ref en1), .unset, .unset] [(.ref en0), (.ref o)])) (fun tgt_ kt => ?_) ?_
      · refine XS.ifnonnullNo X97.here hx rfl (hb hby at_252) rfl ?_
        show Steps p.tables e below (T97.setTop (mkF m 255 #[.val (.int x0), .val (.int x1), .val (.int x2), .val (.int bits), .val (.int (3 : Int32)), .val (.int (2 : Int32)), .val (.ref o), .val (.ref en0), .val (.ref en1), .val (.ref en2), .val (.ref en2), .val (.int (2 : Int32)), .val (.ref en0), .val (.ref en1), .unset, .unset] [])) _
        refine XS.aload X97.here hx rfl (hb hby at_255) rfl rfl ?_
        show Steps p.tables e below (T97.setTop (mkF m 257 #[.val (.int x0), .val (.int x1), .val (.int x2), .val (.int bits), .val (.int (3 : Int32)), .val (.int (2 : Int32)), .val (.ref o), .val (.ref en0), .val (.ref en1), .val (.ref en2), .val (.ref en2), .val (.int (2 : Int32)), .val (.ref en0), .val (.ref en1), .unset, .unset] [(.ref o)])) _
        refine XS.aload X97.here hx rfl (hb hby at_257) rfl rfl ?_
        show Steps p.tables e below (T97.setTop (mkF m 259 #[.val (.int x0), .val (.int x1), .val (.int x2), .val (.int bits), .val (.int (3 : Int32)), .val (.int (2 : Int32)), .val (.ref o), .val (.ref en0), .val (.ref en1), .val (.ref en2), .val (.ref en2), .val (.int (2 : Int32)), .val (.ref en0), .val (.ref en1), .unset, .unset] [(.ref en0), (.ref o)])) _
        exact kt
      obtain ⟨cq98, kq98, q98a, q98b, q98c⟩ := isOf hZ e97 E_o
      obtain ⟨_, _, ⟨T98, L98, k98, n98⟩, -, X98, ⟨Lc98, hQ98, l98, y98, z98⟩, st98⟩ := X97.virtualBack hx (y := (⟨"com/example/round_table/roundtable/engine/OrderList", "next", "(Lcom/example/round_table/roundtable/engine/OrderList$Entry;)Lcom/example/round_table/roundtable/engine/OrderList$Entry;"⟩ : MethodName)) (z := (⟨"com/example/round_table/roundtable/engine/OrderList", "next", "(Lcom/example/round_table/roundtable/engine/OrderList$Entry;)Lcom/example/round_table/roundtable/engine/OrderList$Entry;"⟩ : MethodName)) hown (mvT hZ (hw _ (List.mem_of_getElem? (i := 60) rfl))) (mvT hZ (hw _ (List.mem_of_getElem? (i := 61) rfl))) (notFace_of_selects (args := #[]) (mvT hZ (hw _ (List.mem_of_getElem? (i := 63) rfl)))) (mvT hZ (hw _ (List.mem_of_getElem? (i := 63) rfl))) (mvT hZ (hw _ (List.mem_of_getElem? (i := 62) rfl))) (by decide) (backOf (W := 0) (rm9 l Z a0 hw [] o en0 (.ref en1) rfl T95.heap n0 Z95 F_next_en0) hZ (hw _ (List.mem_of_getElem? (i := 64) rfl)) (hw _ (List.mem_of_getElem? (i := 3) rfl)) (by decide) (by decide)) q98a q98c (g := (mkF m 259 #[.val (.int x0), .val (.int x1), .val (.int x2), .val (.int bits), .val (.int (3 : Int32)), .val (.int (2 : Int32)), .val (.ref o), .val (.ref en0), .val (.ref en1), .val (.ref en2), .val (.ref en2), .val (.int (2 : Int32)), .val (.ref en0), .val (.ref en1), .unset, .unset] [(.ref en0), (.ref o)])) rfl (by rw [hml]; rfl) (Steps.refl _) (argsL := [(.ref en0)]) (rest := []) (lenOf pd_6 rfl) rfl (by show 2 * 0 + _ ≤ _; exact Nat.le_of_eq rfl) (hb hby at_259) (fun _ _ => ⟨rfl, e97, (by decide : 5 + 0 ≤ _), (by decide : 16 + 0 ≤ _)⟩)
      dsimp only [Pt.U, Pt.locs, Pt.cells, Pt.slots] at X98 l98 y98 z98 st98 hQ98
      subst l98 y98 z98
      obtain ⟨rfl, N98q, e98⟩ := hQ98
      have N98 := Fr.app N97 N98q
      refine RunsTo.of (T' := T98) (g' := (mkF m 262 #[.val (.int x0), .val (.int x1), .val (.int x2), .val (.int bits), .val (.int (3 : Int32)), .val (.int (2 : Int32)), .val (.ref o), .val (.ref en0), .val (.ref en1), .val (.ref en2), .val (.ref en2), .val (.int (2 : Int32)), .val (.ref en0), .val (.ref en1), .unset, .unset] [(.ref en1)])) (fun _ kt => st98.trans kt) ?_
      refine RunsTo.of (T' := T98) (g' := (mkF m 271 #[.val (.int x0), .val (.int x1), .val (.int x2), .val (.int bits), .val (.int (3 : Int32)), .val (.int (2 : Int32)), .val (.ref o), .val (.ref en0), .val (.ref en1), .val (.ref en2), .val (.ref en2), .val (.int (2 : Int32)), .val (.ref en0), .val (.ref en1), .unset, .unset] [(.ref en1), (.ref o)])) (fun tgt_ kt => ?_) ?_
      · refine XS.aload X98.here hx rfl (hb hby at_262) rfl rfl ?_
        show Steps p.tables e below (T98.setTop (mkF m 264 #[.val (.int x0), .val (.int x1), .val (.int x2), .val (.int bits), .val (.int (3 : Int32)), .val (.int (2 : Int32)), .val (.ref o), .val (.ref en0), .val (.ref en1), .val (.ref en2), .val (.ref en2), .val (.int (2 : Int32)), .val (.ref en0), .val (.ref en1), .unset, .unset] [(.ref en1), (.ref en1)])) _
        refine Jvm.RoadKit.acmp (g := (mkF m 264 #[.val (.int x0), .val (.int x1), .val (.int x2), .val (.int bits), .val (.int (3 : Int32)), .val (.int (2 : Int32)), .val (.ref o), .val (.ref en0), .val (.ref en1), .val (.ref en2), .val (.ref en2), .val (.int (2 : Int32)), .val (.ref en0), .val (.ref en1), .unset, .unset] [(.ref en1), (.ref en1)])) X98 hx rfl rfl rfl (pc0 := 264) (pc' := 267) (same := true) rfl (hb hby at_264) rfl (decide_eq_true (congrArg Value.ref rfl)) (by decide) (by decide) ?_
        show Steps p.tables e below (T98.setTop (mkF m 267 #[.val (.int x0), .val (.int x1), .val (.int x2), .val (.int bits), .val (.int (3 : Int32)), .val (.int (2 : Int32)), .val (.ref o), .val (.ref en0), .val (.ref en1), .val (.ref en2), .val (.ref en2), .val (.int (2 : Int32)), .val (.ref en0), .val (.ref en1), .unset, .unset] [])) _
        refine XS.aload X98.here hx rfl (hb hby at_267) rfl rfl ?_
        show Steps p.tables e below (T98.setTop (mkF m 269 #[.val (.int x0), .val (.int x1), .val (.int x2), .val (.int bits), .val (.int (3 : Int32)), .val (.int (2 : Int32)), .val (.ref o), .val (.ref en0), .val (.ref en1), .val (.ref en2), .val (.ref en2), .val (.int (2 : Int32)), .val (.ref en0), .val (.ref en1), .unset, .unset] [(.ref o)])) _
        refine XS.aload X98.here hx rfl (hb hby at_269) rfl rfl ?_
        show Steps p.tables e below (T98.setTop (mkF m 271 #[.val (.int x0), .val (.int x1), .val (.int x2), .val (.int bits), .val (.int (3 : Int32)), .val (.int (2 : Int32)), .val (.ref o), .val (.ref en0), .val (.ref en1), .val (.ref en2), .val (.ref en2), .val (.int (2 : Int32)), .val (.ref en0), .val (.ref en1), .unset, .unset] [(.ref en1), (.ref o)])) _
        exact kt
      obtain ⟨cq99, kq99, q99a, q99b, q99c⟩ := isOf hZ e98 E_o
      obtain ⟨_, _, ⟨T99, L99, k99, n99⟩, -, X99, ⟨Lc99, hQ99, l99, y99, z99⟩, st99⟩ := X98.virtualBack hx (y := (⟨"com/example/round_table/roundtable/engine/OrderList", "previous", "(Lcom/example/round_table/roundtable/engine/OrderList$Entry;)Lcom/example/round_table/roundtable/engine/OrderList$Entry;"⟩ : MethodName)) (z := (⟨"com/example/round_table/roundtable/engine/OrderList", "previous", "(Lcom/example/round_table/roundtable/engine/OrderList$Entry;)Lcom/example/round_table/roundtable/engine/OrderList$Entry;"⟩ : MethodName)) hown (mvT hZ (hw _ (List.mem_of_getElem? (i := 65) rfl))) (mvT hZ (hw _ (List.mem_of_getElem? (i := 66) rfl))) (notFace_of_selects (args := #[]) (mvT hZ (hw _ (List.mem_of_getElem? (i := 68) rfl)))) (mvT hZ (hw _ (List.mem_of_getElem? (i := 68) rfl))) (mvT hZ (hw _ (List.mem_of_getElem? (i := 67) rfl))) (by decide) (backOf (W := 0) (rm_prevN l Z a0 hw [] o en1 hd en0 T95.heap n0 Z95 F_head_o F_previous_en1 (Ne.symm ne_hd_en0)) hZ (hw _ (List.mem_of_getElem? (i := 69) rfl)) (hw _ (List.mem_of_getElem? (i := 3) rfl)) (by decide) (by decide)) q99a q99c (g := (mkF m 271 #[.val (.int x0), .val (.int x1), .val (.int x2), .val (.int bits), .val (.int (3 : Int32)), .val (.int (2 : Int32)), .val (.ref o), .val (.ref en0), .val (.ref en1), .val (.ref en2), .val (.ref en2), .val (.int (2 : Int32)), .val (.ref en0), .val (.ref en1), .unset, .unset] [(.ref en1), (.ref o)])) rfl (by rw [hml]; rfl) (Steps.refl _) (argsL := [(.ref en1)]) (rest := []) (lenOf pd_6 rfl) rfl (by show 2 * 0 + _ ≤ _; exact Nat.le_of_eq rfl) (hb hby at_271) (fun _ _ => ⟨rfl, e98, (by decide : 5 + 0 ≤ _), (by decide : 16 + 0 ≤ _)⟩)
      dsimp only [Pt.U, Pt.locs, Pt.cells, Pt.slots] at X99 l99 y99 z99 st99 hQ99
      subst l99 y99 z99
      obtain ⟨rfl, N99q, e99⟩ := hQ99
      have N99 := Fr.app N98 N99q
      refine RunsTo.of (T' := T99) (g' := (mkF m 274 #[.val (.int x0), .val (.int x1), .val (.int x2), .val (.int bits), .val (.int (3 : Int32)), .val (.int (2 : Int32)), .val (.ref o), .val (.ref en0), .val (.ref en1), .val (.ref en2), .val (.ref en2), .val (.int (2 : Int32)), .val (.ref en0), .val (.ref en1), .unset, .unset] [(.ref en0)])) (fun _ kt => st99.trans kt) ?_
      refine RunsTo.of (T' := T99) (g' := (mkF m 283 #[.val (.int x0), .val (.int x1), .val (.int x2), .val (.int bits), .val (.int (3 : Int32)), .val (.int (2 : Int32)), .val (.ref o), .val (.ref en0), .val (.ref en1), .val (.ref en2), .val (.ref en2), .val (.int (2 : Int32)), .val (.ref en0), .val (.ref en1), .unset, .unset] [(.ref en1), (.ref o)])) (fun tgt_ kt => ?_) ?_
      · refine XS.aload X99.here hx rfl (hb hby at_274) rfl rfl ?_
        show Steps p.tables e below (T99.setTop (mkF m 276 #[.val (.int x0), .val (.int x1), .val (.int x2), .val (.int bits), .val (.int (3 : Int32)), .val (.int (2 : Int32)), .val (.ref o), .val (.ref en0), .val (.ref en1), .val (.ref en2), .val (.ref en2), .val (.int (2 : Int32)), .val (.ref en0), .val (.ref en1), .unset, .unset] [(.ref en0), (.ref en0)])) _
        refine Jvm.RoadKit.acmp (g := (mkF m 276 #[.val (.int x0), .val (.int x1), .val (.int x2), .val (.int bits), .val (.int (3 : Int32)), .val (.int (2 : Int32)), .val (.ref o), .val (.ref en0), .val (.ref en1), .val (.ref en2), .val (.ref en2), .val (.int (2 : Int32)), .val (.ref en0), .val (.ref en1), .unset, .unset] [(.ref en0), (.ref en0)])) X99 hx rfl rfl rfl (pc0 := 276) (pc' := 279) (same := true) rfl (hb hby at_276) rfl (decide_eq_true (congrArg Value.ref rfl)) (by decide) (by decide) ?_
        show Steps p.tables e below (T99.setTop (mkF m 279 #[.val (.int x0), .val (.int x1), .val (.int x2), .val (.int bits), .val (.int (3 : Int32)), .val (.int (2 : Int32)), .val (.ref o), .val (.ref en0), .val (.ref en1), .val (.ref en2), .val (.ref en2), .val (.int (2 : Int32)), .val (.ref en0), .val (.ref en1), .unset, .unset] [])) _
        refine XS.aload X99.here hx rfl (hb hby at_279) rfl rfl ?_
        show Steps p.tables e below (T99.setTop (mkF m 281 #[.val (.int x0), .val (.int x1), .val (.int x2), .val (.int bits), .val (.int (3 : Int32)), .val (.int (2 : Int32)), .val (.ref o), .val (.ref en0), .val (.ref en1), .val (.ref en2), .val (.ref en2), .val (.int (2 : Int32)), .val (.ref en0), .val (.ref en1), .unset, .unset] [(.ref o)])) _
        refine XS.aload X99.here hx rfl (hb hby at_281) rfl rfl ?_
        show Steps p.tables e below (T99.setTop (mkF m 283 #[.val (.int x0), .val (.int x1), .val (.int x2), .val (.int bits), .val (.int (3 : Int32)), .val (.int (2 : Int32)), .val (.ref o), .val (.ref en0), .val (.ref en1), .val (.ref en2), .val (.ref en2), .val (.int (2 : Int32)), .val (.ref en0), .val (.ref en1), .unset, .unset] [(.ref en1), (.ref o)])) _
        exact kt
      obtain ⟨cq100, kq100, q100a, q100b, q100c⟩ := isOf hZ e99 E_o
      obtain ⟨_, _, ⟨T100, L100, k100, n100⟩, -, X100, ⟨Lc100, hQ100, l100, y100, z100⟩, st100⟩ := X99.virtualBack hx (y := (⟨"com/example/round_table/roundtable/engine/OrderList", "next", "(Lcom/example/round_table/roundtable/engine/OrderList$Entry;)Lcom/example/round_table/roundtable/engine/OrderList$Entry;"⟩ : MethodName)) (z := (⟨"com/example/round_table/roundtable/engine/OrderList", "next", "(Lcom/example/round_table/roundtable/engine/OrderList$Entry;)Lcom/example/round_table/roundtable/engine/OrderList$Entry;"⟩ : MethodName)) hown (mvT hZ (hw _ (List.mem_of_getElem? (i := 60) rfl))) (mvT hZ (hw _ (List.mem_of_getElem? (i := 61) rfl))) (notFace_of_selects (args := #[]) (mvT hZ (hw _ (List.mem_of_getElem? (i := 63) rfl)))) (mvT hZ (hw _ (List.mem_of_getElem? (i := 63) rfl))) (mvT hZ (hw _ (List.mem_of_getElem? (i := 62) rfl))) (by decide) (backOf (W := 0) (rm9 l Z a0 hw [] o en1 .null rfl T95.heap n0 Z95 F_next_en1) hZ (hw _ (List.mem_of_getElem? (i := 64) rfl)) (hw _ (List.mem_of_getElem? (i := 3) rfl)) (by decide) (by decide)) q100a q100c (g := (mkF m 283 #[.val (.int x0), .val (.int x1), .val (.int x2), .val (.int bits), .val (.int (3 : Int32)), .val (.int (2 : Int32)), .val (.ref o), .val (.ref en0), .val (.ref en1), .val (.ref en2), .val (.ref en2), .val (.int (2 : Int32)), .val (.ref en0), .val (.ref en1), .unset, .unset] [(.ref en1), (.ref o)])) rfl (by rw [hml]; rfl) (Steps.refl _) (argsL := [(.ref en1)]) (rest := []) (lenOf pd_6 rfl) rfl (by show 2 * 0 + _ ≤ _; exact Nat.le_of_eq rfl) (hb hby at_283) (fun _ _ => ⟨rfl, e99, (by decide : 5 + 0 ≤ _), (by decide : 16 + 0 ≤ _)⟩)
      dsimp only [Pt.U, Pt.locs, Pt.cells, Pt.slots] at X100 l100 y100 z100 st100 hQ100
      subst l100 y100 z100
      obtain ⟨rfl, N100q, e100⟩ := hQ100
      have N100 := Fr.app N99 N100q
      refine RunsTo.of (T' := T100) (g' := (mkF m 286 #[.val (.int x0), .val (.int x1), .val (.int x2), .val (.int bits), .val (.int (3 : Int32)), .val (.int (2 : Int32)), .val (.ref o), .val (.ref en0), .val (.ref en1), .val (.ref en2), .val (.ref en2), .val (.int (2 : Int32)), .val (.ref en0), .val (.ref en1), .unset, .unset] [.null])) (fun _ kt => st100.trans kt) ?_
      refine RunsTo.of (T' := T100) (g' := (mkF m 301 #[.val (.int x0), .val (.int x1), .val (.int x2), .val (.int bits), .val (.int (3 : Int32)), .val (.int (2 : Int32)), .val (.ref o), .val (.ref en0), .val (.ref en1), .val (.ref en2), .val (.ref en2), .val (.int (2 : Int32)), .val (.ref en0), .val (.ref en1), .val (.int (1 : Int32)), .unset] [(.ref en2), .null, (.ref o)])) (fun tgt_ kt => ?_) ?_
      · refine XS.ifnonnullNo X100.here hx rfl (hb hby at_286) rfl ?_
        show Steps p.tables e below (T100.setTop (mkF m 289 #[.val (.int x0), .val (.int x1), .val (.int x2), .val (.int bits), .val (.int (3 : Int32)), .val (.int (2 : Int32)), .val (.ref o), .val (.ref en0), .val (.ref en1), .val (.ref en2), .val (.ref en2), .val (.int (2 : Int32)), .val (.ref en0), .val (.ref en1), .unset, .unset] [])) _
        refine XS.iconst X100.here hx rfl (hb hby at_289) ?_
        show Steps p.tables e below (T100.setTop (mkF m 290 #[.val (.int x0), .val (.int x1), .val (.int x2), .val (.int bits), .val (.int (3 : Int32)), .val (.int (2 : Int32)), .val (.ref o), .val (.ref en0), .val (.ref en1), .val (.ref en2), .val (.ref en2), .val (.int (2 : Int32)), .val (.ref en0), .val (.ref en1), .unset, .unset] [(.int (1 : Int32))])) _
        refine XS.goto X100.here hx rfl (pc0 := 290) (pc' := 294) rfl (hb hby at_290) (by decide) (by decide) ?_
        show Steps p.tables e below (T100.setTop (mkF m 294 #[.val (.int x0), .val (.int x1), .val (.int x2), .val (.int bits), .val (.int (3 : Int32)), .val (.int (2 : Int32)), .val (.ref o), .val (.ref en0), .val (.ref en1), .val (.ref en2), .val (.ref en2), .val (.int (2 : Int32)), .val (.ref en0), .val (.ref en1), .unset, .unset] [(.int (1 : Int32))])) _
        refine XS.istore X100.here hx rfl (hb hby at_294) rfl (l' := #[.val (.int x0), .val (.int x1), .val (.int x2), .val (.int bits), .val (.int (3 : Int32)), .val (.int (2 : Int32)), .val (.ref o), .val (.ref en0), .val (.ref en1), .val (.ref en2), .val (.ref en2), .val (.int (2 : Int32)), .val (.ref en0), .val (.ref en1), .val (.int (1 : Int32)), .unset]) rfl ?_
        show Steps p.tables e below (T100.setTop (mkF m 296 #[.val (.int x0), .val (.int x1), .val (.int x2), .val (.int bits), .val (.int (3 : Int32)), .val (.int (2 : Int32)), .val (.ref o), .val (.ref en0), .val (.ref en1), .val (.ref en2), .val (.ref en2), .val (.int (2 : Int32)), .val (.ref en0), .val (.ref en1), .val (.int (1 : Int32)), .unset] [])) _
        refine XS.aload X100.here hx rfl (hb hby at_296) rfl rfl ?_
        show Steps p.tables e below (T100.setTop (mkF m 298 #[.val (.int x0), .val (.int x1), .val (.int x2), .val (.int bits), .val (.int (3 : Int32)), .val (.int (2 : Int32)), .val (.ref o), .val (.ref en0), .val (.ref en1), .val (.ref en2), .val (.ref en2), .val (.int (2 : Int32)), .val (.ref en0), .val (.ref en1), .val (.int (1 : Int32)), .unset] [(.ref o)])) _
        refine XS.aconstNull X100.here hx rfl (hb hby at_298) ?_
        show Steps p.tables e below (T100.setTop (mkF m 299 #[.val (.int x0), .val (.int x1), .val (.int x2), .val (.int bits), .val (.int (3 : Int32)), .val (.int (2 : Int32)), .val (.ref o), .val (.ref en0), .val (.ref en1), .val (.ref en2), .val (.ref en2), .val (.int (2 : Int32)), .val (.ref en0), .val (.ref en1), .val (.int (1 : Int32)), .unset] [.null, (.ref o)])) _
        refine XS.aload X100.here hx rfl (hb hby at_299) rfl rfl ?_
        show Steps p.tables e below (T100.setTop (mkF m 301 #[.val (.int x0), .val (.int x1), .val (.int x2), .val (.int bits), .val (.int (3 : Int32)), .val (.int (2 : Int32)), .val (.ref o), .val (.ref en0), .val (.ref en1), .val (.ref en2), .val (.ref en2), .val (.int (2 : Int32)), .val (.ref en0), .val (.ref en1), .val (.int (1 : Int32)), .unset] [(.ref en2), .null, (.ref o)])) _
        exact kt
      obtain ⟨cq101, kq101, q101a, q101b, q101c⟩ := isOf hZ e100 E_o
      obtain ⟨_, _, ⟨T101, L101, k101, n101⟩, -, X101, ⟨Lc101, hQ101, l101, y101, z101⟩, st101⟩ := X100.virtualBack hx (y := (⟨"com/example/round_table/roundtable/engine/OrderList", "insertAfter", "(Lcom/example/round_table/roundtable/engine/OrderList$Entry;Lcom/example/round_table/roundtable/engine/OrderList$Entry;)V"⟩ : MethodName)) (z := (⟨"com/example/round_table/roundtable/engine/OrderList", "insertAfter", "(Lcom/example/round_table/roundtable/engine/OrderList$Entry;Lcom/example/round_table/roundtable/engine/OrderList$Entry;)V"⟩ : MethodName)) hown (mvT hZ (hw _ (List.mem_of_getElem? (i := 59) rfl))) (mvT hZ (hw _ (List.mem_of_getElem? (i := 38) rfl))) (notFace_of_selects (args := #[]) (mvT hZ (hw _ (List.mem_of_getElem? (i := 40) rfl)))) (mvT hZ (hw _ (List.mem_of_getElem? (i := 40) rfl))) (mvT hZ (hw _ (List.mem_of_getElem? (i := 39) rfl))) (by decide) (backOf (W := 0) (rm_insF l Z a0 hw [] o en2 hd en0 (.ref en1) bits eg lab_en0 lab_en2 (.ref en1) T95.heap n0 Z95 E_o g_o F_head_o F_last_o F_labelBits_o F_endGap_o E_hd g_hd F_label_hd F_previous_hd F_next_hd E_en0 g_en0 F_label_en0 F_previous_en0 F_next_en0 E_en2 g_en2 F_label_en2 F_previous_en2 F_next_en2 ne_o_hd ne_o_en2 ne_o_en0 ne_hd_en2 ne_hd_en0 ne_en0_en2 (by omega)) hZ (hw _ (List.mem_of_getElem? (i := 41) rfl)) (hw _ (List.mem_of_getElem? (i := 3) rfl)) (by decide) (by decide)) q101a q101c (g := (mkF m 301 #[.val (.int x0), .val (.int x1), .val (.int x2), .val (.int bits), .val (.int (3 : Int32)), .val (.int (2 : Int32)), .val (.ref o), .val (.ref en0), .val (.ref en1), .val (.ref en2), .val (.ref en2), .val (.int (2 : Int32)), .val (.ref en0), .val (.ref en1), .val (.int (1 : Int32)), .unset] [(.ref en2), .null, (.ref o)])) rfl (by rw [hml]; rfl) (Steps.refl _) (argsL := [.null, (.ref en2)]) (rest := []) (lenOf pd_3 rfl) rfl (by show 2 * 0 + _ ≤ _; exact Nat.le_of_eq rfl) (hb hby at_301) (fun _ _ => ⟨rfl, e100, (by decide : 5 + 0 ≤ _), (by decide : 16 + 0 ≤ _)⟩)
      dsimp only [Pt.U, Pt.locs, Pt.cells, Pt.slots] at X101 l101 y101 z101 st101 hQ101
      subst l101 y101 z101
      obtain ⟨rfl, N101q, K101, F_next_en2⟩ := hQ101
      have N101 := Fr.app N100 N101q
      have Z101 : n0 ≤ T101.heap.size := Nat.le_trans Z95 K101.1
      have E_o := E_o.keep K101
      have E_hd := E_hd.keep K101
      have E_en0 := E_en0.keep K101
      have E_en1 := E_en1.keep K101
      have E_en2 := E_en2.keep K101
      have F_label_en1 := F_label_en1.keep K101 (ninS (Ne.symm ne_o_en1) (ninS (Ne.symm ne_hd_en1) (ninS (Ne.symm ne_en0_en1) (ninS ne_en1_en2 nin0))))
      have F_previous_en1 := F_previous_en1.keep K101 (ninS (Ne.symm ne_o_en1) (ninS (Ne.symm ne_hd_en1) (ninS (Ne.symm ne_en0_en1) (ninS ne_en1_en2 nin0))))
      have F_next_en1 := F_next_en1.keep K101 (ninS (Ne.symm ne_o_en1) (ninS (Ne.symm ne_hd_en1) (ninS (Ne.symm ne_en0_en1) (ninS ne_en1_en2 nin0))))
      refine RunsTo.of (T' := T101) (g' := (mkF m 304 #[.val (.int x0), .val (.int x1), .val (.int x2), .val (.int bits), .val (.int (3 : Int32)), .val (.int (2 : Int32)), .val (.ref o), .val (.ref en0), .val (.ref en1), .val (.ref en2), .val (.ref en2), .val (.int (2 : Int32)), .val (.ref en0), .val (.ref en1), .val (.int (1 : Int32)), .unset] [])) (fun _ kt => st101.trans kt) ?_
      refine RunsTo.of (T' := T101) (g' := (mkF m 326 #[.val (.int x0), .val (.int x1), .val (.int x2), .val (.int bits), .val (.int (3 : Int32)), .val (.int (2 : Int32)), .val (.ref o), .val (.ref en0), .val (.ref en1), .val (.ref en2), .val (.ref en2), .val (.int (2 : Int32)), .val (.ref en0), .val (.ref en1), .val (.int (1 : Int32)), .val (.ref en0)] [(.ref en2), (.ref o)])) (fun tgt_ kt => ?_) ?_
      · refine XS.iload X101.here hx rfl (hb hby at_304) rfl ?_
        show Steps p.tables e below (T101.setTop (mkF m 306 #[.val (.int x0), .val (.int x1), .val (.int x2), .val (.int bits), .val (.int (3 : Int32)), .val (.int (2 : Int32)), .val (.ref o), .val (.ref en0), .val (.ref en1), .val (.ref en2), .val (.ref en2), .val (.int (2 : Int32)), .val (.ref en0), .val (.ref en1), .val (.int (1 : Int32)), .unset] [(.int (2 : Int32))])) _
        refine XS.ifYes X101.here hx rfl (pc0 := 306) (pc' := 313) rfl (hb hby at_306) rfl ((if0 _ _).trans (feq (by decide)).2) (by decide) (by decide) ?_
        show Steps p.tables e below (T101.setTop (mkF m 313 #[.val (.int x0), .val (.int x1), .val (.int x2), .val (.int bits), .val (.int (3 : Int32)), .val (.int (2 : Int32)), .val (.ref o), .val (.ref en0), .val (.ref en1), .val (.ref en2), .val (.ref en2), .val (.int (2 : Int32)), .val (.ref en0), .val (.ref en1), .val (.int (1 : Int32)), .unset] [])) _
        refine XS.aload X101.here hx rfl (hb hby at_313) rfl rfl ?_
        show Steps p.tables e below (T101.setTop (mkF m 315 #[.val (.int x0), .val (.int x1), .val (.int x2), .val (.int bits), .val (.int (3 : Int32)), .val (.int (2 : Int32)), .val (.ref o), .val (.ref en0), .val (.ref en1), .val (.ref en2), .val (.ref en2), .val (.int (2 : Int32)), .val (.ref en0), .val (.ref en1), .val (.int (1 : Int32)), .unset] [(.ref en0)])) _
        refine XS.astore X101.here hx rfl (hb hby at_315) rfl rfl (l' := #[.val (.int x0), .val (.int x1), .val (.int x2), .val (.int bits), .val (.int (3 : Int32)), .val (.int (2 : Int32)), .val (.ref o), .val (.ref en0), .val (.ref en1), .val (.ref en2), .val (.ref en2), .val (.int (2 : Int32)), .val (.ref en0), .val (.ref en1), .val (.int (1 : Int32)), .val (.ref en0)]) rfl ?_
        show Steps p.tables e below (T101.setTop (mkF m 317 #[.val (.int x0), .val (.int x1), .val (.int x2), .val (.int bits), .val (.int (3 : Int32)), .val (.int (2 : Int32)), .val (.ref o), .val (.ref en0), .val (.ref en1), .val (.ref en2), .val (.ref en2), .val (.int (2 : Int32)), .val (.ref en0), .val (.ref en1), .val (.int (1 : Int32)), .val (.ref en0)] [])) _
        refine XS.iload X101.here hx rfl (hb hby at_317) rfl ?_
        show Steps p.tables e below (T101.setTop (mkF m 319 #[.val (.int x0), .val (.int x1), .val (.int x2), .val (.int bits), .val (.int (3 : Int32)), .val (.int (2 : Int32)), .val (.ref o), .val (.ref en0), .val (.ref en1), .val (.ref en2), .val (.ref en2), .val (.int (2 : Int32)), .val (.ref en0), .val (.ref en1), .val (.int (1 : Int32)), .val (.ref en0)] [(.int (1 : Int32))])) _
        refine XS.ifNo X101.here hx rfl (hb hby at_319) rfl ((if0 _ _).trans (feq (by decide)).1) ?_
        show Steps p.tables e below (T101.setTop (mkF m 322 #[.val (.int x0), .val (.int x1), .val (.int x2), .val (.int bits), .val (.int (3 : Int32)), .val (.int (2 : Int32)), .val (.ref o), .val (.ref en0), .val (.ref en1), .val (.ref en2), .val (.ref en2), .val (.int (2 : Int32)), .val (.ref en0), .val (.ref en1), .val (.int (1 : Int32)), .val (.ref en0)] [])) _
        refine XS.aload X101.here hx rfl (hb hby at_322) rfl rfl ?_
        show Steps p.tables e below (T101.setTop (mkF m 324 #[.val (.int x0), .val (.int x1), .val (.int x2), .val (.int bits), .val (.int (3 : Int32)), .val (.int (2 : Int32)), .val (.ref o), .val (.ref en0), .val (.ref en1), .val (.ref en2), .val (.ref en2), .val (.int (2 : Int32)), .val (.ref en0), .val (.ref en1), .val (.int (1 : Int32)), .val (.ref en0)] [(.ref o)])) _
        refine XS.aload X101.here hx rfl (hb hby at_324) rfl rfl ?_
        show Steps p.tables e below (T101.setTop (mkF m 326 #[.val (.int x0), .val (.int x1), .val (.int x2), .val (.int bits), .val (.int (3 : Int32)), .val (.int (2 : Int32)), .val (.ref o), .val (.ref en0), .val (.ref en1), .val (.ref en2), .val (.ref en2), .val (.int (2 : Int32)), .val (.ref en0), .val (.ref en1), .val (.int (1 : Int32)), .val (.ref en0)] [(.ref en2), (.ref o)])) _
        exact kt
      obtain ⟨cq102, kq102, q102a, q102b, q102c⟩ := isOf hZ rfl E_o
      obtain ⟨_, _, ⟨T102, L102, k102, n102⟩, -, X102, ⟨Lc102, hQ102, l102, y102, z102⟩, st102⟩ := X101.virtualBack hx (y := (⟨"com/example/round_table/roundtable/engine/OrderList", "next", "(Lcom/example/round_table/roundtable/engine/OrderList$Entry;)Lcom/example/round_table/roundtable/engine/OrderList$Entry;"⟩ : MethodName)) (z := (⟨"com/example/round_table/roundtable/engine/OrderList", "next", "(Lcom/example/round_table/roundtable/engine/OrderList$Entry;)Lcom/example/round_table/roundtable/engine/OrderList$Entry;"⟩ : MethodName)) hown (mvT hZ (hw _ (List.mem_of_getElem? (i := 60) rfl))) (mvT hZ (hw _ (List.mem_of_getElem? (i := 61) rfl))) (notFace_of_selects (args := #[]) (mvT hZ (hw _ (List.mem_of_getElem? (i := 63) rfl)))) (mvT hZ (hw _ (List.mem_of_getElem? (i := 63) rfl))) (mvT hZ (hw _ (List.mem_of_getElem? (i := 62) rfl))) (by decide) (backOf (W := 0) (rm9 l Z a0 hw [] o en2 (.ref en0) rfl T101.heap n0 Z101 F_next_en2) hZ (hw _ (List.mem_of_getElem? (i := 64) rfl)) (hw _ (List.mem_of_getElem? (i := 3) rfl)) (by decide) (by decide)) q102a q102c (g := (mkF m 326 #[.val (.int x0), .val (.int x1), .val (.int x2), .val (.int bits), .val (.int (3 : Int32)), .val (.int (2 : Int32)), .val (.ref o), .val (.ref en0), .val (.ref en1), .val (.ref en2), .val (.ref en2), .val (.int (2 : Int32)), .val (.ref en0), .val (.ref en1), .val (.int (1 : Int32)), .val (.ref en0)] [(.ref en2), (.ref o)])) rfl (by rw [hml]; rfl) (Steps.refl _) (argsL := [(.ref en2)]) (rest := []) (lenOf pd_6 rfl) rfl (by show 2 * 0 + _ ≤ _; exact Nat.le_of_eq rfl) (hb hby at_326) (fun _ _ => ⟨rfl, rfl, (by decide : 5 + 0 ≤ _), (by decide : 16 + 0 ≤ _)⟩)
      dsimp only [Pt.U, Pt.locs, Pt.cells, Pt.slots] at X102 l102 y102 z102 st102 hQ102
      subst l102 y102 z102
      obtain ⟨rfl, N102q, e102⟩ := hQ102
      have N102 := Fr.app N101 N102q
      refine RunsTo.of (T' := T102) (g' := (mkF m 329 #[.val (.int x0), .val (.int x1), .val (.int x2), .val (.int bits), .val (.int (3 : Int32)), .val (.int (2 : Int32)), .val (.ref o), .val (.ref en0), .val (.ref en1), .val (.ref en2), .val (.ref en2), .val (.int (2 : Int32)), .val (.ref en0), .val (.ref en1), .val (.int (1 : Int32)), .val (.ref en0)] [(.ref en0)])) (fun _ kt => st102.trans kt) ?_
      refine RunsTo.of (T' := T102) (g' := (mkF m 343 #[.val (.int x0), .val (.int x1), .val (.int x2), .val (.int bits), .val (.int (3 : Int32)), .val (.int (2 : Int32)), .val (.ref o), .val (.ref en0), .val (.ref en1), .val (.ref en2), .val (.ref en2), .val (.int (2 : Int32)), .val (.ref en0), .val (.ref en1), .val (.int (1 : Int32)), .val (.ref en0)] [(.int (1 : Int32))])) (fun tgt_ kt => ?_) ?_
      · refine XS.aload X102.here hx rfl (hb hby at_329) rfl rfl ?_
        show Steps p.tables e below (T102.setTop (mkF m 331 #[.val (.int x0), .val (.int x1), .val (.int x2), .val (.int bits), .val (.int (3 : Int32)), .val (.int (2 : Int32)), .val (.ref o), .val (.ref en0), .val (.ref en1), .val (.ref en2), .val (.ref en2), .val (.int (2 : Int32)), .val (.ref en0), .val (.ref en1), .val (.int (1 : Int32)), .val (.ref en0)] [(.ref en0), (.ref en0)])) _
        refine Jvm.RoadKit.acmp (g := (mkF m 331 #[.val (.int x0), .val (.int x1), .val (.int x2), .val (.int bits), .val (.int (3 : Int32)), .val (.int (2 : Int32)), .val (.ref o), .val (.ref en0), .val (.ref en1), .val (.ref en2), .val (.ref en2), .val (.int (2 : Int32)), .val (.ref en0), .val (.ref en1), .val (.int (1 : Int32)), .val (.ref en0)] [(.ref en0), (.ref en0)])) X102 hx rfl rfl rfl (pc0 := 331) (pc' := 334) (same := true) rfl (hb hby at_331) rfl (decide_eq_true (congrArg Value.ref rfl)) (by decide) (by decide) ?_
        show Steps p.tables e below (T102.setTop (mkF m 334 #[.val (.int x0), .val (.int x1), .val (.int x2), .val (.int bits), .val (.int (3 : Int32)), .val (.int (2 : Int32)), .val (.ref o), .val (.ref en0), .val (.ref en1), .val (.ref en2), .val (.ref en2), .val (.int (2 : Int32)), .val (.ref en0), .val (.ref en1), .val (.int (1 : Int32)), .val (.ref en0)] [])) _
        refine XS.iconst X102.here hx rfl (hb hby at_334) ?_
        show Steps p.tables e below (T102.setTop (mkF m 335 #[.val (.int x0), .val (.int x1), .val (.int x2), .val (.int bits), .val (.int (3 : Int32)), .val (.int (2 : Int32)), .val (.ref o), .val (.ref en0), .val (.ref en1), .val (.ref en2), .val (.ref en2), .val (.int (2 : Int32)), .val (.ref en0), .val (.ref en1), .val (.int (1 : Int32)), .val (.ref en0)] [(.int (1 : Int32))])) _
        refine XS.goto X102.here hx rfl (pc0 := 335) (pc' := 339) rfl (hb hby at_335) (by decide) (by decide) ?_
        show Steps p.tables e below (T102.setTop (mkF m 339 #[.val (.int x0), .val (.int x1), .val (.int x2), .val (.int bits), .val (.int (3 : Int32)), .val (.int (2 : Int32)), .val (.ref o), .val (.ref en0), .val (.ref en1), .val (.ref en2), .val (.ref en2), .val (.int (2 : Int32)), .val (.ref en0), .val (.ref en1), .val (.int (1 : Int32)), .val (.ref en0)] [(.int (1 : Int32))])) _
        refine XS.istore X102.here hx rfl (hb hby at_339) rfl (l' := #[.val (.int x0), .val (.int x1), .val (.int x2), .val (.int bits), .val (.int (3 : Int32)), .val (.int (2 : Int32)), .val (.ref o), .val (.ref en0), .val (.ref en1), .val (.ref en2), .val (.ref en2), .val (.int (2 : Int32)), .val (.ref en0), .val (.ref en1), .val (.int (1 : Int32)), .val (.ref en0)]) rfl ?_
        show Steps p.tables e below (T102.setTop (mkF m 341 #[.val (.int x0), .val (.int x1), .val (.int x2), .val (.int bits), .val (.int (3 : Int32)), .val (.int (2 : Int32)), .val (.ref o), .val (.ref en0), .val (.ref en1), .val (.ref en2), .val (.ref en2), .val (.int (2 : Int32)), .val (.ref en0), .val (.ref en1), .val (.int (1 : Int32)), .val (.ref en0)] [])) _
        refine XS.iload X102.here hx rfl (hb hby at_341) rfl ?_
        show Steps p.tables e below (T102.setTop (mkF m 343 #[.val (.int x0), .val (.int x1), .val (.int x2), .val (.int bits), .val (.int (3 : Int32)), .val (.int (2 : Int32)), .val (.ref o), .val (.ref en0), .val (.ref en1), .val (.ref en2), .val (.ref en2), .val (.int (2 : Int32)), .val (.ref en0), .val (.ref en1), .val (.int (1 : Int32)), .val (.ref en0)] [(.int (1 : Int32))])) _
        exact kt
      refine RunsTo.retN X102 hx (t := .boolean) Bd.returns (by simp) Bd.notSynchronized (hb hby at_343) ?_ (by decide) (by decide)
      rw [e102]
      exact ⟨rfl, N102⟩
set_option maxRecDepth 65536 in
set_option maxHeartbeats 40000000 in
theorem comes_1 {Post : Tables → Env → Array Value → State → Outcome → State → Prop} (hpost : ∀ tb e args s v u, (limb_1_1.after args s (.returned v) u = true ∧ limb_1_2.after args s (.returned v) u = true ∧ True) → FrameEnd s (.returned v) u (Jvm.fieldLocs frame_1_writes args s ++ Jvm.arrayLocs frame_1_arrays args s ++ Jvm.staticLocs frame_1_statics s) 24 128 → Post tb e args s (.returned v) u) :
    ArmFor flags0 classFile x code maxLocals ret World_1 tables_1 room_1 Calls_1 rest_1 Pre_1 Post := by
  intro l hfl _ _ p e ha hc hk s m args below hf hA hF happ hP
  obtain ⟨hcalls, hrest, hpre⟩ := hP
  obtain ⟨-, -, -, hnamed, -, -, -, hat⟩ := (Spec.applies_iff hf).mp happ
  obtain ⟨hg, hn⟩ := and_e (Cond.before_iff.mp (show (Jvm.Cond.and given_1 narrow_1).before args s = true from hpre))
  obtain ⟨hcnt, hg0⟩ := and_e hg
  obtain ⟨ha0, hg1⟩ := and_e hg0
  obtain ⟨ha1, hg2⟩ := and_e hg1
  have ha2 := hg2
  obtain ⟨w0, w1, w2, rfl⟩ : ∃ w0 w1 w2 : Value, args = #[w0, w1, w2] := by
    have hs : args.size = 3 := by simpa [Cond.value, given_1] using hcnt
    obtain ⟨L⟩ := args
    match L, hs with
    | [w0, w1, w2], _ => exact ⟨w0, w1, w2, rfl⟩
  have hw := fun d (hd : d ∈ tables_1) => atoms_spec (ws := Jvm.Cond.code x code maxLocals ret :: tables_1) hat d (List.mem_cons_of_mem _ hd)
  have hfit : Fit s := fun {y c} hc i hi => by
    obtain ⟨ha, rfl⟩ := Array.getElem?_eq_some_iff.mp hc
    have q := List.all_eq_true.mp ((Array.all_eq_true_iff_forall_mem.mp hF) _ (Array.getElem_mem ha)) i (List.mem_range.mpr hi)
    simpa [Array.getElem?_eq_getElem hi] using q
  obtain ⟨i0, ei0⟩ := is_v ha0
  obtain rfl : w0 = (.int i0) := Option.some.inj ei0
  obtain ⟨i1, ei1⟩ := is_v ha1
  obtain rfl : w1 = (.int i1) := Option.some.inj ei1
  obtain ⟨i2, ei2⟩ := is_v ha2
  obtain rfl : w2 = (.int i2) := Option.some.inj ei2
  obtain ⟨n, o, h1, h2, h3, _, L, rfl, ⟨rfl, N⟩, hq⟩ := rm0 l s _ hw tables_1 i0 i1 i2 s.heap s.heap.size (Nat.le_refl _)  p e ha hc hk s m _ below hf ((Spec.applies_iff_loose hf).mp happ).1 ⟨rfl, State.Warmed39.refl s, rfl⟩ trivial
  refine ⟨n, _, h1, h2, h3, hpost _ _ _ _ _ _ ⟨Cond.after_iff.mpr rfl, Cond.after_iff.mpr (eq_i res_at (Term.int_eval (1)) rfl), trivial⟩ ⟨hq.1, hq.2.1, (hq.2.2.sift fun y hy => Or.inr (N y hy)).mono (by decide) (by decide)⟩⟩
theorem main_1_1 : Claimed_1_1 := comes_1 fun _ _ _ _ _ _ h hF => ⟨h.1, hF⟩
theorem main_1_2 : Claimed_1_2 := comes_1 fun _ _ _ _ _ _ h hF => ⟨h.2.1, hF⟩
end Jvm.Pilot.@@N@@
namespace Jvm.Pilot.@@N@@
open Jvm Jvm.ClassFile Sem Op Lib Jvm.Free Jvm.Stand Jvm.Pilot.@@N@@.Jvm.D
/-! MADE BY PROGRAM (witnessworld.py) out of the Statement's table words and the real class files: 11 classes; the members and pool entries that the words name. The judged class is class 1, her method 1. -/
namespace start1
open Jvm.ClassFile
def u (s : String) : CpInfo := .utf8 (stringToUtf16 s)
/-- a pool by its gaps: so many unusable entries, then the entry; so many at the end -/
def gap : Nat → List CpInfo → List CpInfo
  | 0, r => r
  | n + 1, r => .unusable :: gap n r
def poolList (es : List (Nat × CpInfo)) (last : Nat) : List CpInfo := es.foldr (fun e r => gap e.1 (e.2 :: r)) (gap last [])
def pool (es : List (Nat × CpInfo)) (last : Nat) : Array CpInfo := ⟨poolList es last⟩
def fileOf (pool : Array CpInfo) (this : Nat) (attrs : Array Attribute := #[]) (ms : Array MethodInfo := #[]) (fl : Nat := 33) (sup : Nat := 0) (ifs : Array Nat := #[]) (fds : Array FieldInfo := #[]) : ClassFile where
  minorVersion := 0
  majorVersion := 65
  constantPool := pool
  accessFlags := fl
  thisClass := this
  superClass := sup
  interfaces := ifs
  fields := fds
  methods := ms
  attributes := attrs
def plain (name : String) (sup : Option ClassId) : Class where
  name := name
  kind := .ordinary
  loader := none
  accessFlags := 33
  super := sup
  interfaces := #[]
  cf := none
  fields := #[]
  methods := #[]
  instanceTypes := #[]
  staticTypes := #[]
  resolved := #[]
  callSites := []
  init := .initialized
  statics := none
  mirror := none

def pool0 : Array CpInfo := pool [(5, u "<init>"), (0, u "()V"), (1, .class_ 10), (1, u "java/lang/Object")] 113

def k0c0 : Code := { maxStack := 0, maxLocals := 1, code := object_method_1_code, exceptionTable := #[], attributes := #[] }
def k0m0 : Method := { name := "<init>", desc := "()V", sig := { parameters := [], returnType := none }, accessFlags := 1, code := some k0c0 }
/-- java/lang/Object -/
def k0 : Class := { plain "java/lang/Object" none with
  accessFlags := 33
  interfaces := #[]
  cf := some (fileOf pool0 8 #[] #[{ accessFlags := 1, nameIndex := 5, descriptorIndex := 6, attributes := #[] }] 33 0 #[] #[])
  fields := #[]
  methods := #[k0m0]
  instanceTypes := #[]
  staticTypes := #[]
  resolved := Array.replicate 124 none
  statics := none }

def pool1 : Array CpInfo := pool [(2, .class_ 4), (0, .nameAndType 5 6), (0, u "java/lang/Object"), (0, u "<init>"), (0, u "()V"), (0, .integer 2147483647), (0, .class_ 9), (0, u "com/example/round_table/roundtable/engine/OrderList"), (0, .methodref 8 11), (0, .nameAndType 5 12), (0, u "(I)V"), (0, .class_ 14), (0, u "com/example/round_table/roundtable/engine/OrderList$Entry"), (0, .methodref 13 3), (0, .methodref 8 17), (0, .nameAndType 18 19), (0, u "append"), (0, u "(Lcom/example/round_table/roundtable/engine/OrderList$Entry;)V"), (0, .methodref 8 21), (0, .nameAndType 22 19), (0, u "remove"), (0, .methodref 8 24), (0, .nameAndType 25 26), (0, u "last"), (0, u "()Lcom/example/round_table/roundtable/engine/OrderList$Entry;"), (0, .methodref 8 28), (0, .nameAndType 29 30), (0, u "previous"), (0, u "(Lcom/example/round_table/roundtable/engine/OrderList$Entry;)Lcom/example/round_table/roundtable/engine/OrderList$Entry;"), (0, .methodref 8 32), (0, .nameAndType 33 30), (0, u "next"), (0, .methodref 8 35), (0, .nameAndType 36 37), (0, u "insertAfter"), (0, u "(Lcom/example/round_table/roundtable/engine/OrderList$Entry;Lcom/example/round_table/roundtable/engine/OrderList$Entry;)V"), (0, .class_ 39), (0, u "com/example/round_table/roundtable/engine/OrderListRemovePinLaw"), (2, u "law"), (0, u "(III)Z")] 5

def k1m0 : Method := { name := "<init>", desc := "()V", sig := { parameters := [], returnType := none }, accessFlags := 1, code := none }
def k1c1 : Code := { maxStack := 3, maxLocals := 16, code := code, exceptionTable := #[], attributes := #[] }
def k1m1 : Method := { name := "law", desc := "(III)Z", sig := { parameters := [.int, .int, .int], returnType := some .boolean }, accessFlags := 9, code := some k1c1 }
/-- com/example/round_table/roundtable/engine/OrderListRemovePinLaw -/
def k1 : Class := { plain "com/example/round_table/roundtable/engine/OrderListRemovePinLaw" (some 0) with
  accessFlags := 49
  interfaces := #[]
  cf := some (fileOf pool1 38 #[] #[{ accessFlags := 1, nameIndex := 5, descriptorIndex := 6, attributes := #[] }, { accessFlags := 9, nameIndex := 42, descriptorIndex := 43, attributes := #[] }] 49 2 #[] #[])
  fields := #[]
  methods := #[k1m0, k1m1]
  instanceTypes := #[]
  staticTypes := #[]
  resolved := Array.replicate 49 none
  statics := none }

def pool2 : Array CpInfo := pool [(1, .methodref 2 3), (0, .class_ 4), (0, .nameAndType 5 6), (0, u "java/lang/Object"), (0, u "<init>"), (0, u "()V"), (0, .class_ 8), (0, u "com/example/round_table/roundtable/engine/OrderList$Entry"), (0, .methodref 7 3), (0, .fieldref 11 12), (0, .class_ 13), (0, .nameAndType 14 15), (0, u "com/example/round_table/roundtable/engine/OrderList"), (0, u "head"), (0, u "Lcom/example/round_table/roundtable/engine/OrderList$Entry;"), (0, .fieldref 11 17), (0, .nameAndType 18 15), (0, u "last"), (9, .fieldref 11 29), (0, .nameAndType 30 31), (0, u "labelBits"), (0, u "I"), (0, .fieldref 11 33), (0, .nameAndType 34 35), (0, u "endGap"), (0, u "J"), (3, .class_ 41), (1, u "java/lang/Math"), (2, .fieldref 7 45), (0, .nameAndType 46 15), (0, u "previous"), (0, .fieldref 7 48), (0, .nameAndType 49 15), (0, u "next"), (0, .methodref 11 51), (0, .nameAndType 18 52), (0, u "()Lcom/example/round_table/roundtable/engine/OrderList$Entry;"), (0, .methodref 11 54), (0, .nameAndType 55 56), (0, u "insertAfter"), (0, u "(Lcom/example/round_table/roundtable/engine/OrderList$Entry;Lcom/example/round_table/roundtable/engine/OrderList$Entry;)V"), (0, .fieldref 7 58), (0, .nameAndType 59 35), (0, u "label"), (0, .long 2), (1, .methodref 39 63), (0, .nameAndType 64 65), (0, u "min"), (0, u "(JJ)J"), (3, u "(Lcom/example/round_table/roundtable/engine/OrderList$Entry;)V"), (2, u "SPARSE"), (0, u "[J"), (8, u "SPARSE_GROWTH"), (0, u "D"), (1, u "MOST_LABEL_BITS"), (1, u "(I)V"), (4, u "(Lcom/example/round_table/roundtable/engine/OrderList$Entry;)Lcom/example/round_table/roundtable/engine/OrderList$Entry;"), (0, u "append"), (0, u "remove")] 22

def k2c0 : Code := { maxStack := 5, maxLocals := 2, code := prog_60_method_1_code, exceptionTable := #[], attributes := #[] }
def k2m0 : Method := { name := "<init>", desc := "(I)V", sig := { parameters := [.int], returnType := none }, accessFlags := 0, code := some k2c0 }
def k2c1 : Code := { maxStack := 2, maxLocals := 1, code := prog_60_method_3_code, exceptionTable := #[], attributes := #[] }
def k2m1 : Method := { name := "last", desc := "()Lcom/example/round_table/roundtable/engine/OrderList$Entry;", sig := { parameters := [], returnType := some (.object "com/example/round_table/roundtable/engine/OrderList$Entry") }, accessFlags := 0, code := some k2c1 }
def k2c2 : Code := { maxStack := 2, maxLocals := 2, code := prog_60_method_4_code, exceptionTable := #[], attributes := #[] }
def k2m2 : Method := { name := "previous", desc := "(Lcom/example/round_table/roundtable/engine/OrderList$Entry;)Lcom/example/round_table/roundtable/engine/OrderList$Entry;", sig := { parameters := [(.object "com/example/round_table/roundtable/engine/OrderList$Entry")], returnType := some (.object "com/example/round_table/roundtable/engine/OrderList$Entry") }, accessFlags := 0, code := some k2c2 }
def k2c3 : Code := { maxStack := 1, maxLocals := 2, code := prog_60_method_5_code, exceptionTable := #[], attributes := #[] }
def k2m3 : Method := { name := "next", desc := "(Lcom/example/round_table/roundtable/engine/OrderList$Entry;)Lcom/example/round_table/roundtable/engine/OrderList$Entry;", sig := { parameters := [(.object "com/example/round_table/roundtable/engine/OrderList$Entry")], returnType := some (.object "com/example/round_table/roundtable/engine/OrderList$Entry") }, accessFlags := 0, code := some k2c3 }
def k2c4 : Code := { maxStack := 3, maxLocals := 2, code := prog_60_method_6_code, exceptionTable := #[], attributes := #[] }
def k2m4 : Method := { name := "append", desc := "(Lcom/example/round_table/roundtable/engine/OrderList$Entry;)V", sig := { parameters := [(.object "com/example/round_table/roundtable/engine/OrderList$Entry")], returnType := none }, accessFlags := 0, code := some k2c4 }
def k2c5 : Code := { maxStack := 9, maxLocals := 7, code := prog_60_method_7_code, exceptionTable := #[], attributes := #[] }
def k2m5 : Method := { name := "insertAfter", desc := "(Lcom/example/round_table/roundtable/engine/OrderList$Entry;Lcom/example/round_table/roundtable/engine/OrderList$Entry;)V", sig := { parameters := [(.object "com/example/round_table/roundtable/engine/OrderList$Entry"), (.object "com/example/round_table/roundtable/engine/OrderList$Entry")], returnType := none }, accessFlags := 0, code := some k2c5 }
def k2c6 : Code := { maxStack := 2, maxLocals := 2, code := prog_60_method_8_code, exceptionTable := #[], attributes := #[] }
def k2m6 : Method := { name := "remove", desc := "(Lcom/example/round_table/roundtable/engine/OrderList$Entry;)V", sig := { parameters := [(.object "com/example/round_table/roundtable/engine/OrderList$Entry")], returnType := none }, accessFlags := 0, code := some k2c6 }
/-- com/example/round_table/roundtable/engine/OrderList -/
def k2 : Class := { plain "com/example/round_table/roundtable/engine/OrderList" (some 0) with
  accessFlags := 32
  interfaces := #[]
  cf := some (fileOf pool2 11 #[.nestMembers #[7]] #[{ accessFlags := 0, nameIndex := 5, descriptorIndex := 87, attributes := #[] }, { accessFlags := 0, nameIndex := 18, descriptorIndex := 52, attributes := #[] }, { accessFlags := 0, nameIndex := 46, descriptorIndex := 92, attributes := #[] }, { accessFlags := 0, nameIndex := 49, descriptorIndex := 92, attributes := #[] }, { accessFlags := 0, nameIndex := 93, descriptorIndex := 69, attributes := #[] }, { accessFlags := 0, nameIndex := 55, descriptorIndex := 56, attributes := #[] }, { accessFlags := 0, nameIndex := 94, descriptorIndex := 69, attributes := #[] }] 32 2 #[] #[{ accessFlags := 26, nameIndex := 82, descriptorIndex := 83, attributes := #[] }, { accessFlags := 26, nameIndex := 85, descriptorIndex := 31, attributes := #[] }, { accessFlags := 26, nameIndex := 72, descriptorIndex := 73, attributes := #[] }, { accessFlags := 18, nameIndex := 30, descriptorIndex := 31, attributes := #[] }, { accessFlags := 18, nameIndex := 34, descriptorIndex := 35, attributes := #[] }, { accessFlags := 18, nameIndex := 14, descriptorIndex := 15, attributes := #[] }, { accessFlags := 2, nameIndex := 18, descriptorIndex := 15, attributes := #[] }])
  fields := #[{ name := "SPARSE_GROWTH", type := .double, accessFlags := 26, slot := 0, constantValue := 0 }, { name := "MOST_LABEL_BITS", type := .int, accessFlags := 26, slot := 1, constantValue := 0 }, { name := "SPARSE", type := (.array .long), accessFlags := 26, slot := 2, constantValue := 0 }, { name := "labelBits", type := .int, accessFlags := 18, slot := 0, constantValue := 0 }, { name := "endGap", type := .long, accessFlags := 18, slot := 1, constantValue := 0 }, { name := "head", type := (.object "com/example/round_table/roundtable/engine/OrderList$Entry"), accessFlags := 18, slot := 2, constantValue := 0 }, { name := "last", type := (.object "com/example/round_table/roundtable/engine/OrderList$Entry"), accessFlags := 2, slot := 3, constantValue := 0 }]
  methods := #[k2m0, k2m1, k2m2, k2m3, k2m4, k2m5, k2m6]
  instanceTypes := #[.int, .long, (.object "com/example/round_table/roundtable/engine/OrderList$Entry"), (.object "com/example/round_table/roundtable/engine/OrderList$Entry")]
  staticTypes := #[.double, .int, (.array .long)]
  resolved := ⟨List.replicate 44 none ++ (some (.field 3 1) :: (List.replicate 2 none ++ (some (.field 3 2) :: (List.replicate 9 none ++ (some (.field 3 0) :: List.replicate 59 none)))))⟩
  statics := none }

def pool3 : Array CpInfo := pool [(1, .methodref 2 3), (0, .class_ 4), (0, .nameAndType 5 6), (0, u "java/lang/Object"), (0, u "<init>"), (0, u "()V"), (1, .class_ 10), (1, u "com/example/round_table/roundtable/engine/OrderList$Entry"), (0, u "label"), (0, u "J"), (0, u "previous"), (0, u "Lcom/example/round_table/roundtable/engine/OrderList$Entry;"), (0, u "next"), (6, .class_ 23), (0, u "com/example/round_table/roundtable/engine/OrderList")] 2

def k3c0 : Code := { maxStack := 1, maxLocals := 1, code := prog_61_method_1_code, exceptionTable := #[], attributes := #[] }
def k3m0 : Method := { name := "<init>", desc := "()V", sig := { parameters := [], returnType := none }, accessFlags := 0, code := some k3c0 }
/-- com/example/round_table/roundtable/engine/OrderList$Entry -/
def k3 : Class := { plain "com/example/round_table/roundtable/engine/OrderList$Entry" (some 0) with
  accessFlags := 32
  interfaces := #[]
  cf := some (fileOf pool3 8 #[.nestHost 22] #[{ accessFlags := 0, nameIndex := 5, descriptorIndex := 6, attributes := #[] }] 32 2 #[] #[{ accessFlags := 2, nameIndex := 11, descriptorIndex := 12, attributes := #[] }, { accessFlags := 2, nameIndex := 13, descriptorIndex := 14, attributes := #[] }, { accessFlags := 2, nameIndex := 15, descriptorIndex := 14, attributes := #[] }])
  fields := #[{ name := "label", type := .long, accessFlags := 2, slot := 0, constantValue := 0 }, { name := "previous", type := (.object "com/example/round_table/roundtable/engine/OrderList$Entry"), accessFlags := 2, slot := 1, constantValue := 0 }, { name := "next", type := (.object "com/example/round_table/roundtable/engine/OrderList$Entry"), accessFlags := 2, slot := 2, constantValue := 0 }]
  methods := #[k3m0]
  instanceTypes := #[.long, (.object "com/example/round_table/roundtable/engine/OrderList$Entry"), (.object "com/example/round_table/roundtable/engine/OrderList$Entry")]
  staticTypes := #[]
  resolved := Array.replicate 26 none
  statics := none }

def pool4 : Array CpInfo := pool [(1, .class_ 2), (0, u "java/lang/Math"), (1, .class_ 6), (1, u "java/lang/Object"), (0, u "<init>"), (0, u "()V"), (89, .class_ 100), (1, u "java/lang/Math$RandomNumberGeneratorHolder"), (20, u "(JJ)J"), (50, u "negativeZeroFloatBits"), (0, u "J"), (2, u "negativeZeroDoubleBits"), (24, u "min"), (43, u "$assertionsDisabled"), (0, u "Z"), (91, u "twoToTheDoubleScaleDown"), (0, u "D"), (4, u "twoToTheDoubleScaleUp"), (9, u "E"), (3, u "PI"), (2, u "TAU"), (2, u "DEGREES_TO_RADIANS"), (0, u "RADIANS_TO_DEGREES")] 94

def k4m0 : Method := { name := "<init>", desc := "()V", sig := { parameters := [], returnType := none }, accessFlags := 2, code := none }
def k4c1 : Code := { maxStack := 4, maxLocals := 4, code := jdk_29_method_70_code, exceptionTable := #[], attributes := #[] }
def k4m1 : Method := { name := "min", desc := "(JJ)J", sig := { parameters := [.long, .long], returnType := some .long }, accessFlags := 9, code := some k4c1 }
/-- java/lang/Math -/
def k4 : Class := { plain "java/lang/Math" (some 0) with
  accessFlags := 49
  interfaces := #[]
  cf := some (fileOf pool4 1 #[.nestMembers #[98]] #[{ accessFlags := 2, nameIndex := 7, descriptorIndex := 8, attributes := #[] }, { accessFlags := 9, nameIndex := 201, descriptorIndex := 121, attributes := #[] }] 49 4 #[] #[{ accessFlags := 25, nameIndex := 354, descriptorIndex := 339, attributes := #[] }, { accessFlags := 25, nameIndex := 358, descriptorIndex := 339, attributes := #[] }, { accessFlags := 25, nameIndex := 361, descriptorIndex := 339, attributes := #[] }, { accessFlags := 26, nameIndex := 364, descriptorIndex := 339, attributes := #[] }, { accessFlags := 26, nameIndex := 365, descriptorIndex := 339, attributes := #[] }, { accessFlags := 26, nameIndex := 172, descriptorIndex := 173, attributes := #[] }, { accessFlags := 26, nameIndex := 176, descriptorIndex := 173, attributes := #[] }, { accessFlags := 8, nameIndex := 344, descriptorIndex := 339, attributes := #[] }, { accessFlags := 8, nameIndex := 338, descriptorIndex := 339, attributes := #[] }, { accessFlags := 4120, nameIndex := 245, descriptorIndex := 246, attributes := #[] }])
  fields := #[{ name := "E", type := .double, accessFlags := 25, slot := 0, constantValue := 0 }, { name := "PI", type := .double, accessFlags := 25, slot := 1, constantValue := 0 }, { name := "TAU", type := .double, accessFlags := 25, slot := 2, constantValue := 0 }, { name := "DEGREES_TO_RADIANS", type := .double, accessFlags := 26, slot := 3, constantValue := 0 }, { name := "RADIANS_TO_DEGREES", type := .double, accessFlags := 26, slot := 4, constantValue := 0 }, { name := "negativeZeroFloatBits", type := .long, accessFlags := 26, slot := 5, constantValue := 0 }, { name := "negativeZeroDoubleBits", type := .long, accessFlags := 26, slot := 6, constantValue := 0 }, { name := "twoToTheDoubleScaleUp", type := .double, accessFlags := 8, slot := 7, constantValue := 0 }, { name := "twoToTheDoubleScaleDown", type := .double, accessFlags := 8, slot := 8, constantValue := 0 }, { name := "$assertionsDisabled", type := .boolean, accessFlags := 4120, slot := 9, constantValue := 0 }]
  methods := #[k4m0, k4m1]
  instanceTypes := #[]
  staticTypes := #[.double, .double, .double, .double, .double, .long, .long, .double, .double, .boolean]
  resolved := Array.replicate 460 none
  statics := none }

def pool5 : Array CpInfo := pool [(1, u "java/lang/Cloneable"), (0, .class_ 1), (0, u "java/lang/Object"), (0, .class_ 3)] 3

/-- java/lang/Cloneable -/
def k5 : Class := { plain "java/lang/Cloneable" (some 0) with
  accessFlags := 1537
  interfaces := #[]
  cf := some (fileOf pool5 2 #[] #[] 1537 4 #[] #[])
  fields := #[]
  methods := #[]
  instanceTypes := #[]
  staticTypes := #[]
  resolved := Array.replicate 8 none
  statics := none }

def pool6 : Array CpInfo := pool [(1, u "java/io/Serializable"), (0, .class_ 1), (0, u "java/lang/Object"), (0, .class_ 3)] 3

/-- java/io/Serializable -/
def k6 : Class := { plain "java/io/Serializable" (some 0) with
  accessFlags := 1537
  interfaces := #[]
  cf := some (fileOf pool6 2 #[] #[] 1537 4 #[] #[])
  fields := #[]
  methods := #[]
  instanceTypes := #[]
  staticTypes := #[]
  resolved := Array.replicate 8 none
  statics := none }

/-- the primitive byte -/
def k7 : Class := { plain "byte" none with kind := .primitive 'B', accessFlags := 0x411 }
/-- [B -/
def k8 : Class := { plain "[B" (some 0) with kind := .array 7 .byte, interfaces := #[5, 6], accessFlags := 1041 }

/-- the primitive int -/
def k9 : Class := { plain "int" none with kind := .primitive 'I', accessFlags := 0x411 }
/-- [I -/
def k10 : Class := { plain "[I" (some 0) with kind := .array 9 .int, interfaces := #[5, 6], accessFlags := 1041 }

def heap : Heap := #[]
def classes : Array Class := #[k0, k1, k2, k3, k4, k5, k6, k7, k8, k9, k10]
def interned : List (Array UInt16 × Addr) := []
def slotsUsed : Nat := 0
def theMethod : MethodId := ⟨1, 1⟩
def args0 : Array Value := #[.int 2, .int 77, .int 5]
def aboutOver (below : List Frame) : State where
  vm := { classes := classes, interned := interned.toArray }
  heap := heap
  slotsUsed := slotsUsed
  threads := #[{ frames := .invoking theMethod args0 :: below }]
def below0 : List Frame := [.native { method := ⟨0, 0⟩, args := #[] }]
def about1 : State := aboutOver below0
def p0 : Program := .bare "" "" ""
def e0 : Env := launch0.env 0 0 0
theorem w_frames : about1.frames = Frame.invoking theMethod args0 :: below0 := rfl
set_option maxRecDepth 65536 in
theorem w_args : argsFit about1.vm theMethod args0 = true := by decide +kernel
set_option maxRecDepth 65536 in
theorem w_heap : heapFits about1 = true := by decide +kernel
set_option maxRecDepth 65536 in
theorem w_runnable : about1.curStatus? = some .runnable := by decide +kernel
set_option maxRecDepth 65536 in
theorem w_alone : about1.alone = true := by decide +kernel
set_option maxRecDepth 65536 in
theorem w_named : about1.methodNamed? x = some theMethod := by decide +kernel
set_option maxRecDepth 65536 in
theorem w_hears : about1.hears theMethod below0 = true := by decide +kernel
set_option maxRecDepth 65536 in
theorem w_ripe : about1.ripe theMethod args0 below0 = true := by decide +kernel
theorem w_running : about1.status = .running := rfl
set_option maxRecDepth 65536 in
theorem w_room : about1.hasRoom e0.platform room_1 = true :=
  launch0.hasRoom_least _ room_1 (by decide +kernel) (by decide +kernel) (by decide +kernel) (by decide +kernel) (by decide +kernel) (by decide +kernel)
theorem allAtoms_all (ts : List Jvm.Cond) (a : Array Jvm.Value) (st : Jvm.State) : (allAtoms ts).before a st = ts.all (fun c => c.before a st) := by
  induction ts with
  | nil => rfl
  | cons c t ih =>
    show (Jvm.Cond.and c (allAtoms t)).before a st = _
    rw [Jvm.Cond.before_and, ih, List.all_cons]
def words1 : List Jvm.Cond := Jvm.Cond.code x code maxLocals ret :: tables_1
/-- a 'code' word, met by the world's own term for the bytes: nothing is compared byte by byte -/
theorem code_word {y : MethodName} {bytes : ByteArray} {mx : Nat} {rt : Option FieldType} {a : Array Value} {s : State} {m : MethodId} {meth : Method} {c : Code} (h1 : s.methodNamed? y = some m) (h2 : s.vm.method? m = some meth) (h3 : meth.code = some c) (h4 : c.code = bytes)
    (h5 : (c.maxLocals == mx && c.exceptionTable.isEmpty && decide (c.maxStack ≤ mostOperands) && decide (meth.sig.returnType = rt) && !meth.locks && decide (parseMethodDescriptor y.desc = some meth.sig)) = true) : (Jvm.Cond.code y bytes mx rt).before a s = true := by
  simp only [Bool.and_eq_true, beq_iff_eq, Bool.not_eq_true', decide_eq_true_eq] at h5
  obtain ⟨⟨⟨⟨⟨g1, g2⟩, g3⟩, g4⟩, g5⟩, g6⟩ := h5
  simp [Cond.before, Cond.holds, Cond.value, h1, h2, h3, h4, g1, g2, g3, g4, g5, g6]
def isCode : Jvm.Cond → Bool
  | .code _ _ _ _ => true
  | _ => false
theorem all_split {L : List Jvm.Cond} {P : Jvm.Cond → Bool} (h1 : L.all (fun c => isCode c || P c) = true) (h2 : ∀ c ∈ L.filter isCode, P c = true) : L.all P = true := by
  refine List.all_eq_true.mpr fun c hc => ?_
  have h := List.all_eq_true.mp h1 c hc
  rcases Bool.eq_false_or_eq_true (isCode c) with hi | hi
  · exact h2 c (List.mem_filter.mpr ⟨hc, hi⟩)
  · simpa [hi] using h
set_option maxRecDepth 65536 in
theorem w_c0 : (Jvm.Cond.code x code maxLocals ret).before args0 about1 = true := code_word (m := ⟨1, 1⟩) (meth := k1m1) (c := k1c1) (by decide +kernel) rfl rfl rfl (by decide +kernel)
set_option maxRecDepth 65536 in
theorem w_c1 : (Jvm.Cond.code ({ cls := "com/example/round_table/roundtable/engine/OrderList", name := "<init>", desc := "(I)V" } : Jvm.MethodName) prog_60_method_1_code (2 : Nat) (Option.none : Option Jvm.ClassFile.FieldType)).before args0 about1 = true := code_word (m := ⟨2, 0⟩) (meth := k2m0) (c := k2c0) (by decide +kernel) rfl rfl rfl (by decide +kernel)
set_option maxRecDepth 65536 in
theorem w_c2 : (Jvm.Cond.code ({ cls := "java/lang/Object", name := "<init>", desc := "()V" } : Jvm.MethodName) object_method_1_code (1 : Nat) (Option.none : Option Jvm.ClassFile.FieldType)).before args0 about1 = true := code_word (m := ⟨0, 0⟩) (meth := k0m0) (c := k0c0) (by decide +kernel) rfl rfl rfl (by decide +kernel)
set_option maxRecDepth 65536 in
theorem w_c3 : (Jvm.Cond.code ({ cls := "com/example/round_table/roundtable/engine/OrderList$Entry", name := "<init>", desc := "()V" } : Jvm.MethodName) prog_61_method_1_code (1 : Nat) (Option.none : Option Jvm.ClassFile.FieldType)).before args0 about1 = true := code_word (m := ⟨3, 0⟩) (meth := k3m0) (c := k3c0) (by decide +kernel) rfl rfl rfl (by decide +kernel)
set_option maxRecDepth 65536 in
theorem w_c4 : (Jvm.Cond.code ({ cls := "com/example/round_table/roundtable/engine/OrderList", name := "append", desc := "(Lcom/example/round_table/roundtable/engine/OrderList$Entry;)V" } : Jvm.MethodName) prog_60_method_6_code (2 : Nat) (Option.none : Option Jvm.ClassFile.FieldType)).before args0 about1 = true := code_word (m := ⟨2, 4⟩) (meth := k2m4) (c := k2c4) (by decide +kernel) rfl rfl rfl (by decide +kernel)
set_option maxRecDepth 65536 in
theorem w_c5 : (Jvm.Cond.code ({ cls := "com/example/round_table/roundtable/engine/OrderList", name := "last", desc := "()Lcom/example/round_table/roundtable/engine/OrderList$Entry;" } : Jvm.MethodName) prog_60_method_3_code (1 : Nat) (Option.some (Jvm.ClassFile.FieldType.object "com/example/round_table/roundtable/engine/OrderList$Entry"))).before args0 about1 = true := code_word (m := ⟨2, 1⟩) (meth := k2m1) (c := k2c1) (by decide +kernel) rfl rfl rfl (by decide +kernel)
set_option maxRecDepth 65536 in
theorem w_c6 : (Jvm.Cond.code ({ cls := "com/example/round_table/roundtable/engine/OrderList", name := "insertAfter", desc := "(Lcom/example/round_table/roundtable/engine/OrderList$Entry;Lcom/example/round_table/roundtable/engine/OrderList$Entry;)V" } : Jvm.MethodName) prog_60_method_7_code (7 : Nat) (Option.none : Option Jvm.ClassFile.FieldType)).before args0 about1 = true := code_word (m := ⟨2, 5⟩) (meth := k2m5) (c := k2c5) (by decide +kernel) rfl rfl rfl (by decide +kernel)
set_option maxRecDepth 65536 in
theorem w_c7 : (Jvm.Cond.code ({ cls := "java/lang/Math", name := "min", desc := "(JJ)J" } : Jvm.MethodName) jdk_29_method_70_code (4 : Nat) (Option.some Jvm.ClassFile.FieldType.long)).before args0 about1 = true := code_word (m := ⟨4, 1⟩) (meth := k4m1) (c := k4c1) (by decide +kernel) rfl rfl rfl (by decide +kernel)
set_option maxRecDepth 65536 in
theorem w_c8 : (Jvm.Cond.code ({ cls := "com/example/round_table/roundtable/engine/OrderList", name := "remove", desc := "(Lcom/example/round_table/roundtable/engine/OrderList$Entry;)V" } : Jvm.MethodName) prog_60_method_8_code (2 : Nat) (Option.none : Option Jvm.ClassFile.FieldType)).before args0 about1 = true := code_word (m := ⟨2, 6⟩) (meth := k2m6) (c := k2c6) (by decide +kernel) rfl rfl rfl (by decide +kernel)
set_option maxRecDepth 65536 in
theorem w_c9 : (Jvm.Cond.code ({ cls := "com/example/round_table/roundtable/engine/OrderList", name := "next", desc := "(Lcom/example/round_table/roundtable/engine/OrderList$Entry;)Lcom/example/round_table/roundtable/engine/OrderList$Entry;" } : Jvm.MethodName) prog_60_method_5_code (2 : Nat) (Option.some (Jvm.ClassFile.FieldType.object "com/example/round_table/roundtable/engine/OrderList$Entry"))).before args0 about1 = true := code_word (m := ⟨2, 3⟩) (meth := k2m3) (c := k2c3) (by decide +kernel) rfl rfl rfl (by decide +kernel)
set_option maxRecDepth 65536 in
theorem w_c10 : (Jvm.Cond.code ({ cls := "com/example/round_table/roundtable/engine/OrderList", name := "previous", desc := "(Lcom/example/round_table/roundtable/engine/OrderList$Entry;)Lcom/example/round_table/roundtable/engine/OrderList$Entry;" } : Jvm.MethodName) prog_60_method_4_code (2 : Nat) (Option.some (Jvm.ClassFile.FieldType.object "com/example/round_table/roundtable/engine/OrderList$Entry"))).before args0 about1 = true := code_word (m := ⟨2, 2⟩) (meth := k2m2) (c := k2c2) (by decide +kernel) rfl rfl rfl (by decide +kernel)
def codes1 : List Jvm.Cond := [Jvm.Cond.code x code maxLocals ret, Jvm.Cond.code ({ cls := "com/example/round_table/roundtable/engine/OrderList", name := "<init>", desc := "(I)V" } : Jvm.MethodName) prog_60_method_1_code (2 : Nat) (Option.none : Option Jvm.ClassFile.FieldType), Jvm.Cond.code ({ cls := "java/lang/Object", name := "<init>", desc := "()V" } : Jvm.MethodName) object_method_1_code (1 : Nat) (Option.none : Option Jvm.ClassFile.FieldType), Jvm.Cond.code ({ cls := "com/example/round_table/roundtable/engine/OrderList$Entry", name := "<init>", desc := "()V" } : Jvm.MethodName) prog_61_method_1_code (1 : Nat) (Option.none : Option Jvm.ClassFile.FieldType), Jvm.Cond.code ({ cls := "com/example/round_table/roundtable/engine/OrderList", name := "append", desc := "(Lcom/example/round_table/roundtable/engine/OrderList$Entry;)V" } : Jvm.MethodName) prog_60_method_6_code (2 : Nat) (Option.none : Option Jvm.ClassFile.FieldType), Jvm.Cond.code ({ cls := "com/example/round_table/roundtable/engine/OrderList", name := "last", desc := "()Lcom/example/round_table/roundtable/engine/OrderList$Entry;" } : Jvm.MethodName) prog_60_method_3_code (1 : Nat) (Option.some (Jvm.ClassFile.FieldType.object "com/example/round_table/roundtable/engine/OrderList$Entry")), Jvm.Cond.code ({ cls := "com/example/round_table/roundtable/engine/OrderList", name := "insertAfter", desc := "(Lcom/example/round_table/roundtable/engine/OrderList$Entry;Lcom/example/round_table/roundtable/engine/OrderList$Entry;)V" } : Jvm.MethodName) prog_60_method_7_code (7 : Nat) (Option.none : Option Jvm.ClassFile.FieldType), Jvm.Cond.code ({ cls := "java/lang/Math", name := "min", desc := "(JJ)J" } : Jvm.MethodName) jdk_29_method_70_code (4 : Nat) (Option.some Jvm.ClassFile.FieldType.long), Jvm.Cond.code ({ cls := "com/example/round_table/roundtable/engine/OrderList", name := "remove", desc := "(Lcom/example/round_table/roundtable/engine/OrderList$Entry;)V" } : Jvm.MethodName) prog_60_method_8_code (2 : Nat) (Option.none : Option Jvm.ClassFile.FieldType), Jvm.Cond.code ({ cls := "com/example/round_table/roundtable/engine/OrderList", name := "next", desc := "(Lcom/example/round_table/roundtable/engine/OrderList$Entry;)Lcom/example/round_table/roundtable/engine/OrderList$Entry;" } : Jvm.MethodName) prog_60_method_5_code (2 : Nat) (Option.some (Jvm.ClassFile.FieldType.object "com/example/round_table/roundtable/engine/OrderList$Entry")), Jvm.Cond.code ({ cls := "com/example/round_table/roundtable/engine/OrderList", name := "previous", desc := "(Lcom/example/round_table/roundtable/engine/OrderList$Entry;)Lcom/example/round_table/roundtable/engine/OrderList$Entry;" } : Jvm.MethodName) prog_60_method_4_code (2 : Nat) (Option.some (Jvm.ClassFile.FieldType.object "com/example/round_table/roundtable/engine/OrderList$Entry"))]
set_option maxRecDepth 65536 in
theorem codes_eq : words1.filter isCode = codes1 := rfl
theorem w_codes : ∀ c ∈ words1.filter isCode, c.before args0 about1 = true := by
  rw [codes_eq]
  intro c hc
  simp only [codes1, List.mem_cons, List.not_mem_nil, or_false] at hc
  rcases hc with rfl | rfl | rfl | rfl | rfl | rfl | rfl | rfl | rfl | rfl | rfl
  · exact w_c0
  · exact w_c1
  · exact w_c2
  · exact w_c3
  · exact w_c4
  · exact w_c5
  · exact w_c6
  · exact w_c7
  · exact w_c8
  · exact w_c9
  · exact w_c10
set_option maxRecDepth 65536 in
theorem w_t1 : (words1.take 24).all (fun c => isCode c || c.before args0 about1) = true := by decide +kernel
set_option maxRecDepth 65536 in
theorem w_t2 : ((words1.drop 24).take 24).all (fun c => isCode c || c.before args0 about1) = true := by decide +kernel
set_option maxRecDepth 65536 in
theorem w_t3 : ((words1.drop 24).drop 24).all (fun c => isCode c || c.before args0 about1) = true := by decide +kernel
theorem w_tables : (allAtoms (Jvm.Cond.code x code maxLocals ret :: tables_1)).before args0 about1 = true := by
  rw [allAtoms_all]
  show words1.all (fun c => c.before args0 about1) = true
  refine all_split ?_ w_codes
  rw [← List.take_append_drop 24 words1, List.all_append, w_t1, ← List.take_append_drop 24 (words1.drop 24), List.all_append, w_t2, w_t3]
  rfl
set_option maxRecDepth 65536 in
theorem w_case : (Jvm.Cond.and given_1 narrow_1).before args0 about1 = true := by decide +kernel
theorem w_applies : (headSpec (Jvm.Cond.code x code maxLocals ret :: tables_1) room_1).applies x e0.platform about1 = true :=
  (Spec.applies_iff w_frames).mpr ⟨w_running, w_runnable, w_alone, w_named, w_hears, w_ripe, w_room, w_tables⟩
theorem atStart : AtStart classFile x code maxLocals ret World_1 tables_1 room_1 Calls_1 rest_1 Pre_1 launch0 p0 e0 about1 theMethod args0 below0 :=
  ⟨lists_1, trivial, launch0.admits_env _ _ _, launch0.least_env, fairChoices_fair.cas, fairChoices_fair.clock, w_frames, w_args, w_heap, w_applies, trivial, trivial, w_case⟩
end start1
theorem witness_1 : WitnessClaimed_1 := ⟨start1.p0, start1.e0, start1.about1, start1.theMethod, start1.args0, start1.below0, start1.atStart⟩
end Jvm.Pilot.@@N@@
