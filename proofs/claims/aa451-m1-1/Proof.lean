import JvmDerived
import JvmDerived.Pilot.@@N@@Statement
import JvmDerived.Pilot.@@N@@Code
set_option linter.unusedVariables false
set_option linter.unusedSimpArgs false
namespace Jvm.RoadKit
open Sem ClassFile Op Lib Jvm.Stand Jvm.Free Jvm.LawKit
section New
variable {p : Program} {l : Launch} {e : Env} {R : Room} {s : State} {m : MethodId} {args : Array Value} {below : List Frame} {meth : Method} {c : Code} {T : State} {locs : List Loc} {cells slots : Nat}
theorem retI (X : Stand p l e R s m args below meth c T locs cells slots) (hx : p.tables.exec = Jvm.exec) {pc : Nat} {Ls : Array Slot} {z : Int32} {rest : List Value} (hret : meth.sig.returnType = some .int) (hd : decode c.code pc = .ok (.ireturn, 1)) {fs : List Frame}
    (hl : ∀ (f : JFrame) (acts : List Action), f.method = m → f.locked = none → f.entered = [] → (doReturn e (T.setTop f) acts (some (.int z))).1 = T.setFrames fs) : Steps p.tables e below (T.setTop (mkF m pc Ls (.int z :: rest))) (T.setFrames fs) := by
  have hm' : T.vm.method? m = some meth := X.method'
  have hn : narrow .int (.int z) = .int z := rfl
  show Steps p.tables e below (T.setTop { method := m, pc := pc, locals := Ls, stack := _ :: rest, locked := none }) _
  jvm_step X.here [X.here.top, hx, hd, hm', hret, hn]
  first | (intro acts; rw [hl _ acts rfl rfl rfl]) | rw [hl _ _ rfl rfl rfl]
  exact Steps.refl _
end New
/-- the run from the state A ends as asked: what is left of the goal while one walks -/
def own_End (p : Program) (e : Env) (below : List Frame) (s A : State) (W : Option Value → Heap → List Loc → Prop) (k n : Nat) : Prop :=
  ∃ s₂ o, Steps p.tables e below A s₂ ∧ s₂.status = .running ∧ Ended s₂ below o ∧ ∃ v L, o = .returned v ∧ W v s₂.heap L ∧ FrameEnd s o s₂ L k n
theorem own_pre {p : Program} {e : Env} {below : List Frame} {s A B : State} {W : Option Value → Heap → List Loc → Prop} {k n : Nat} (f : ∀ t, Steps p.tables e below A t → Steps p.tables e below B t) (h : own_End p e below s A W k n) : own_End p e below s B W k n := by
  obtain ⟨s₂, o, h1, h2⟩ := h; exact ⟨s₂, o, f _ h1, h2⟩
end Jvm.RoadKit
namespace Jvm.RoadKit
open Sem ClassFile Op Lib Jvm.Stand Jvm.Free Jvm.LawKit
/-- an array of n places, the i-th of which holds f i -/
def own_Arr (Z : State) (h : Heap) (a : Addr) (ty : FieldType) (n : Int32) (f : Nat → Value) : Prop := ∃ c : Cell, Arr Z h a c ty ∧ c.slots.size = n.toNatClampNeg ∧ ¬ n < 0 ∧ ∀ i, i < n.toNatClampNeg → c.slots[i]? = some (f i)
section Arrays
variable {Z : State} {h h' : Heap} {a b : Addr} {ty : FieldType} {n j : Int32} {f f' : Nat → Value} {sl : Nat} {v : Value} {ws : List Addr}
theorem own_Arr.lt (F : own_Arr Z h a ty n f) : a < h.size := by obtain ⟨c, A, -⟩ := F; exact A.lt
theorem own_Arr.ext (F : own_Arr Z h a ty n f) (E : Ext h h') : own_Arr Z h' a ty n f := by obtain ⟨c, A, r⟩ := F; exact ⟨c, A.ext E, r⟩
theorem own_Arr.other (F : own_Arr Z h b ty n f) (W : Wr h h' a sl v) (q : b ≠ a) : own_Arr Z h' b ty n f := by obtain ⟨c, A, r⟩ := F; exact ⟨c, A.other W q, r⟩
theorem own_Arr.keep (F : own_Arr Z h a ty n f) (K : Keep h h' ws) (q : a ∉ ws) : own_Arr Z h' a ty n f := by obtain ⟨c, A, r⟩ := F; exact ⟨c, ⟨K.2.1 a c A.1 q, A.2⟩, r⟩
theorem own_Arr.new {k : ClassId} (A : Arr Z h a (newA k ty n) ty) (q : ¬ n < 0) (hf : ∀ i, f i = defaultValue ty) : own_Arr Z h a ty n f :=
  ⟨_, A, sz_new _ _ _, q, fun i hi => by rw [hf]; simp [newA, hi]⟩
theorem own_Arr.set {α : Type} (w : α → Value) {g g' : Nat → α} {x : α} {q : Nat} (F : own_Arr Z h a ty n (fun i => w (g i))) (W : Wr h h' a j.toNatClampNeg (w x)) (hj : j.toNatClampNeg = q) (hg : ∀ i, g' i = if i = q then x else g i) : own_Arr Z h' a ty n (fun i => w (g' i)) := by
  obtain ⟨c, A, r1, r2, r3⟩ := F
  subst hj
  refine ⟨_, A.same W, by rw [sz_set]; exact r1, r2, fun i hi => ?_⟩
  show _ = some (w (g' i))
  rw [hg]
  by_cases e : i = j.toNatClampNeg
  · subst e
    rw [if_pos rfl]; simp [Cell.setSlot, r1, hi]
  · rw [if_neg e]
    rw [← r3 i hi]; exact Array.getElem?_setIfInBounds_ne (Ne.symm e)
theorem own_Arr.congr {α : Type} (w : α → Value) {g g' : Nat → α} (F : own_Arr Z h a ty n (fun i => w (g i))) (hg : ∀ i, i < n.toNatClampNeg → g' i = g i) : own_Arr Z h a ty n (fun i => w (g' i)) := by
  obtain ⟨c, A, r1, r2, r3⟩ := F
  exact ⟨c, A, r1, r2, fun i hi => by show _ = some (w (g' i)); rw [hg i hi]; exact r3 i hi⟩
theorem own_at {c : Cell} (S : c.slots.size = n.toNatClampNeg) (G : ∀ i, i < n.toNatClampNeg → c.slots[i]? = some (f i)) (hj : ¬ (j < 0 ∨ c.slots.size ≤ j.toNatClampNeg)) : c.slots[j.toNatClampNeg]? = some (f j.toNatClampNeg) := G _ (by rw [← S]; exact Nat.lt_of_not_le fun y => hj (Or.inr y))
theorem own_nn {n : Int32} (h : ¬ n < 0) : 0 ≤ n.toInt ∧ n.toInt = n.toNatClampNeg := by
  have e := nat_of h
  exact ⟨by omega, e⟩
theorem own_Arr.nn (F : own_Arr Z h a ty n f) : 0 ≤ n.toInt ∧ n.toInt = n.toNatClampNeg := by obtain ⟨c, A, r1, r2, r3⟩ := F; exact own_nn r2
theorem own_ge0 {i : Int32} (h : 0 ≤ i.toInt) : ¬ i < 0 := fun q => by
  have := Int32.lt_iff_toInt_lt.mp q
  have z : (0 : Int32).toInt = 0 := by decide
  omega
theorem own_inb {i n : Int32} (h0 : 0 ≤ i.toInt) (h : i < n) : ¬ i < 0 ∧ i < n := ⟨own_ge0 h0, h⟩
theorem own_inb2 {i n : Int32} (h0 : 0 ≤ i.toInt) (h : i.toInt < n.toInt) : ¬ i < 0 ∧ i < n := ⟨own_ge0 h0, Int32.lt_iff_toInt_lt.mpr h⟩
theorem own_next {i n : Int32} (h0 : 0 ≤ i.toInt) (h : i < n) : (i + 1).toInt = i.toInt + 1 ∧ i.toInt < n.toInt := by
  have q := Int32.lt_iff_toInt_lt.mp h
  have a := c_iadd i 1
  have z : (1 : Int32).toInt = 1 := by decide
  have r1 := rng32 (i + 1)
  have r2 := rng32 n
  omega
end Arrays
end Jvm.RoadKit
namespace Jvm.Pilot.@@N@@
open Jvm Jvm.ClassFile Sem Op Lib Jvm.Free Jvm.Stand Jvm.LawKit Jvm.RoadKit Bundle Jvm.Pilot.@@N@@.Jvm.D
theorem own_nlt {x y : Int32} (h : ¬ x < y) : y.toInt ≤ x.toInt := by
  have : ¬ x.toInt < y.toInt := fun q => h (Int32.lt_iff_toInt_lt.mpr q)
  omega
theorem own_lt6 {i n : Int32} (hC : n.toInt ≤ 6) (h : i < n) : i.toInt < (6 : Int32).toInt := by
  have := Int32.lt_iff_toInt_lt.mp h
  have z : (6 : Int32).toInt = 6 := by decide
  omega
theorem own_sub {i t : Int32} (hA : 0 ≤ t.toInt) (hB : t.toInt ≤ i.toInt) (h : i.toInt < (6 : Int32).toInt) : ¬ (i - t) < 0 ∧ (i - t) < (6 : Int32) := by
  have a := c_isub i t
  have r := rng32 (i - t)
  have z : (6 : Int32).toInt = 6 := by decide
  exact own_inb2 (by omega) (by omega)
theorem own_w (x : Int32) : ((1 : Int32) + (x &&& (1 : Int32))).toInt = 1 ∨ ((1 : Int32) + (x &&& (1 : Int32))).toInt = 2 := by
  have e : (x &&& (1 : Int32)).toInt = x.toInt % (2 ^ 1 : Nat) := c_mask x 1 1 (by decide) (by decide)
  have z : (1 : Int32).toInt = 1 := by decide
  have a := c_iadd 1 (x &&& (1 : Int32))
  have r := rng32 (1 + (x &&& (1 : Int32)))
  omega
theorem own_hh (x : Int32) : 1 ≤ ((1 : Int32) + ((((x.toUInt32 >>> ((1 : Int32) &&& 31).toUInt32).toInt32) &&& (3 : Int32)) % (3 : Int32))).toInt ∧ ((1 : Int32) + ((((x.toUInt32 >>> ((1 : Int32) &&& 31).toUInt32).toInt32) &&& (3 : Int32)) % (3 : Int32))).toInt ≤ 3 := by
  generalize ((x.toUInt32 >>> ((1 : Int32) &&& 31).toUInt32).toInt32) = y
  have e : (y &&& (3 : Int32)).toInt = y.toInt % (2 ^ 2 : Nat) := c_mask y 3 2 (by decide) (by decide)
  have z : (1 : Int32).toInt = 1 := by decide
  have z3 : (3 : Int32).toInt = 3 := by decide
  have e2 := (c_irem (y &&& (3 : Int32)) 3 3 z3).1 (by omega)
  have a := c_iadd 1 ((y &&& (3 : Int32)) % 3)
  have r := rng32 (1 + ((y &&& (3 : Int32)) % 3))
  omega
theorem own_up {hh : Int32} (h : 1 ≤ hh.toInt ∧ hh.toInt ≤ 3) : (hh + (1 : Int32)).toInt = hh.toInt + 1 := by
  have z : (1 : Int32).toInt = 1 := by decide
  have a := c_iadd hh 1
  have r := rng32 (hh + 1)
  omega
theorem own_gap {hh fi : Int32} (h : 1 ≤ hh.toInt ∧ hh.toInt ≤ 3) (hf : 0 ≤ fi.toInt ∧ fi.toInt ≤ hh.toInt) : ((hh - fi) + (1 : Int32)).toInt = hh.toInt - fi.toInt + 1 := by
  have z : (1 : Int32).toInt = 1 := by decide
  have a := c_isub hh fi
  have r := rng32 (hh - fi)
  have a2 := c_iadd (hh - fi) 1
  have r2 := rng32 ((hh - fi) + 1)
  omega
theorem own_nz1 {hh : Int32} (h : 1 ≤ hh.toInt ∧ hh.toInt ≤ 3) : ¬ (hh + (1 : Int32)) = (0 : Int32) := fun q => by
  have u := own_up h
  have z : (0 : Int32).toInt = 0 := by decide
  rw [q, z] at u; omega
theorem own_nz2 {hh fi : Int32} (h : 1 ≤ hh.toInt ∧ hh.toInt ≤ 3) (hf : 0 ≤ fi.toInt ∧ fi.toInt ≤ hh.toInt) : ¬ ((hh - fi) + (1 : Int32)) = (0 : Int32) := fun q => by
  have u := own_gap h hf
  have z : (0 : Int32).toInt = 0 := by decide
  rw [q, z] at u; omega
theorem own_fi (x : Int32) {hh : Int32} (h : 1 ≤ hh.toInt ∧ hh.toInt ≤ 3) : 0 ≤ ((((x.toUInt32 >>> ((3 : Int32) &&& 31).toUInt32).toInt32) &&& (3 : Int32)) % (hh + (1 : Int32))).toInt ∧ ((((x.toUInt32 >>> ((3 : Int32) &&& 31).toUInt32).toInt32) &&& (3 : Int32)) % (hh + (1 : Int32))).toInt ≤ hh.toInt := by
  generalize ((x.toUInt32 >>> ((3 : Int32) &&& 31).toUInt32).toInt32) = y
  have e : (y &&& (3 : Int32)).toInt = y.toInt % (2 ^ 2 : Nat) := c_mask y 3 2 (by decide) (by decide)
  have u := own_up h
  have e2 := (c_iremV (y &&& (3 : Int32)) (hh + 1)).1 (by omega) (by omega)
  omega
theorem own_en (x : Int32) {hh fi : Int32} (h : 1 ≤ hh.toInt ∧ hh.toInt ≤ 3) (hf : 0 ≤ fi.toInt ∧ fi.toInt ≤ hh.toInt) : fi.toInt ≤ (fi + ((((x.toUInt32 >>> ((5 : Int32) &&& 31).toUInt32).toInt32) &&& (3 : Int32)) % ((hh - fi) + (1 : Int32)))).toInt ∧ (fi + ((((x.toUInt32 >>> ((5 : Int32) &&& 31).toUInt32).toInt32) &&& (3 : Int32)) % ((hh - fi) + (1 : Int32)))).toInt ≤ hh.toInt := by
  generalize ((x.toUInt32 >>> ((5 : Int32) &&& 31).toUInt32).toInt32) = y
  have e : (y &&& (3 : Int32)).toInt = y.toInt % (2 ^ 2 : Nat) := c_mask y 3 2 (by decide) (by decide)
  have u := own_gap h hf
  generalize ((hh - fi) + (1 : Int32)) = d at *
  have e2 := (c_iremV (y &&& (3 : Int32)) d).1 (by omega) (by omega)
  have a := c_iadd fi ((y &&& (3 : Int32)) % d)
  have r := rng32 (fi + ((y &&& (3 : Int32)) % d))
  omega
def own_max (p1 : Int32) (p2 : Int32) : Int32 := (if p1 < p2 then p2 else p1)
theorem d1_0 : decode jdk_29_method_65_code 0 = .ok (.iload_n 0, 1) := by decide +kernel
theorem d1_1 : decode jdk_29_method_65_code 1 = .ok (.iload_n 1, 1) := by decide +kernel
theorem d1_2 : decode jdk_29_method_65_code 2 = .ok (.if_icmp .lt 7, 3) := by decide +kernel
theorem d1_5 : decode jdk_29_method_65_code 5 = .ok (.iload_n 0, 1) := by decide +kernel
theorem d1_6 : decode jdk_29_method_65_code 6 = .ok (.goto 4, 3) := by decide +kernel
theorem d1_9 : decode jdk_29_method_65_code 9 = .ok (.iload_n 1, 1) := by decide +kernel
theorem d1_10 : decode jdk_29_method_65_code 10 = .ok (.ireturn, 1) := by decide +kernel
theorem ef_1 (m : MethodId) (x0 : Int32) (x1 : Int32) : entryFrame m #[(.int x0), (.int x1)] 2 = mkF m 0 #[.val (.int x0), .val (.int x1)] [] := by first | (simp [entryFrame, mkF, argsToLocals, Value.category]; done) | rfl
def Q1 (Z : State) (p1 : Int32) (p2 : Int32) (h0 : Heap) (n0 : Nat) (v : Option Value) (h : Heap) (L : List Loc) : Prop := v = some (.int (own_max p1 p2)) ∧ Fr n0 L ∧ h = h0
set_option maxRecDepth 65536 in
set_option maxHeartbeats 40000000 in
theorem rm1 (l : Launch) (Z : State) (a0 : Array Value) (hw : ∀ d ∈ tables_1, d.before a0 Z = true) (ws : List Jvm.Cond) (p1 : Int32) (p2 : Int32) (h0 : Heap) (n0 : Nat) (Z0 : n0 ≤ h0.size) :
    MetFree l (⟨"java/lang/Math", "max", "(II)I"⟩ : MethodName) (head1 (Jvm.Cond.code (⟨"java/lang/Math", "max", "(II)I"⟩ : MethodName) jdk_29_method_65_code 2 (some .int) :: ws) ({ frames := 0, cells := 0, slots := 0, locals := 0 } : Room)) (fun a U => a = #[(.int p1), (.int p2)] ∧ Z.Warmed39 U.vm ∧ U.heap = h0) (fun _ _ _ _ _ => True) (fun _ U o U' => ∃ v L, o = .returned v ∧ Q1 Z p1 p2 h0 n0 v U'.heap L ∧ FrameEnd U o U' L ({ frames := 0, cells := 0, slots := 0, locals := 0 } : Room).cells ({ frames := 0, cells := 0, slots := 0, locals := 0 } : Room).slots) := by
  refine MetFree.of_bodySF (Jvm.Free.JP.mathPlain rfl (by decide +kernel)) hisR ?_
  intro p e s m args below meth c s₁ Bd hml0 hP hK
  obtain ⟨rfl, hZ, hh⟩ := hP
  have hx := Bd.exec
  have hby := Bd.bytes
  have hml : c.maxLocals = 2 := hml0
  have hown : s.vm.findClass "java/lang/Math" = some m.cls := findClass_of_methodNamed Bd.named
  have hnm := (name_of_methodNamed Bd.named Bd.method).1
  have X0 : Stand p l e ({ frames := 0, cells := 0, slots := 0, locals := 0 } : Room) s m #[(.int p1), (.int p2)] below meth c s₁ [] 0 0 := Stand.of_body Bd
  have e0 : s₁.heap = h0 := by rw [← hh, Bd.state]; rfl
  have N0 := Fr.nil n0
  show own_End p e below s (s₁.setTop (entryFrame m #[(.int p1), (.int p2)] 2)) (Q1 Z p1 p2 h0 n0) ({ frames := 0, cells := 0, slots := 0, locals := 0 } : Room).cells ({ frames := 0, cells := 0, slots := 0, locals := 0 } : Room).slots
  refine own_pre (A := s₁.setTop (mkF m 0 #[.val (.int p1), .val (.int p2)] [])) (fun tt kt => castTop (ef_1 m p1 p2) kt) ?_
  show own_End p e below s (s₁.setTop (mkF m 0 #[.val (.int p1), .val (.int p2)] [])) (Q1 Z p1 p2 h0 n0) ({ frames := 0, cells := 0, slots := 0, locals := 0 } : Room).cells ({ frames := 0, cells := 0, slots := 0, locals := 0 } : Room).slots
  have hj : own_max p1 p2 = own_max p1 p2 := rfl
  refine own_pre (A := s₁.setTop (mkF m 2 #[.val (.int p1), .val (.int p2)] [(.int p2), (.int p1)])) (fun tt kt => ?_) ?_
  · show Steps p.tables e below (s₁.setTop (mkF m 0 #[.val (.int p1), .val (.int p2)] [])) _
    refine XS.iloadN X0.here hx rfl (hb hby d1_0) rfl ?_
    refine XS.iloadN X0.here hx rfl (hb hby d1_1) rfl ?_
    exact kt
  show own_End p e below s (s₁.setTop (mkF m 2 #[.val (.int p1), .val (.int p2)] [(.int p2), (.int p1)])) (Q1 Z p1 p2 h0 n0) ({ frames := 0, cells := 0, slots := 0, locals := 0 } : Room).cells ({ frames := 0, cells := 0, slots := 0, locals := 0 } : Room).slots
  by_cases hc2_1 : p1 < p2
  · refine own_pre (A := s₁.setTop (mkF m 10 #[.val (.int p1), .val (.int p2)] [(.int p2)])) (fun tt kt => ?_) ?_
    · show Steps p.tables e below (s₁.setTop (mkF m 2 #[.val (.int p1), .val (.int p2)] [(.int p2), (.int p1)])) _
      refine XS.icmpYes X0.here hx rfl (pc0 := 2) (pc' := 9) rfl (hb hby d1_2) rfl (tlt hc2_1).1 (by decide) (by decide) ?_
      refine XS.iloadN X0.here hx rfl (hb hby d1_9) rfl ?_
      exact kt
    show own_End p e below s (s₁.setTop (mkF m 10 #[.val (.int p1), .val (.int p2)] [(.int p2)])) (Q1 Z p1 p2 h0 n0) ({ frames := 0, cells := 0, slots := 0, locals := 0 } : Room).cells ({ frames := 0, cells := 0, slots := 0, locals := 0 } : Room).slots
    have hv : (own_max p1 p2) = p2 := hj.trans (by simp only [own_max, if_pos hc2_1])
    obtain ⟨fs, hr, hrun, hended, hW, hsame⟩ := X0.leave (v := some (.int p2)) (fun h => by rw [Bd.returns] at h; cases h)
    refine ⟨_, _, ?_, hrun, hended, _, _, rfl, ?_, ⟨_, rfl⟩, hW, hsame.mono (by decide) (by decide)⟩
    · exact retI X0 hx Bd.returns (hb hby d1_10) hr
    · show Q1 Z p1 p2 h0 n0 _ s₁.heap _
      rw [e0]
      exact ⟨(congrArg (fun z => some (Value.int z)) hv.symm), N0, rfl⟩
  · refine own_pre (A := s₁.setTop (mkF m 10 #[.val (.int p1), .val (.int p2)] [(.int p1)])) (fun tt kt => ?_) ?_
    · show Steps p.tables e below (s₁.setTop (mkF m 2 #[.val (.int p1), .val (.int p2)] [(.int p2), (.int p1)])) _
      refine XS.icmpNo X0.here hx rfl (hb hby d1_2) rfl (flt hc2_1).1 ?_
      refine XS.iloadN X0.here hx rfl (hb hby d1_5) rfl ?_
      refine XS.goto X0.here hx rfl (pc0 := 6) (pc' := 10) rfl (hb hby d1_6) (by decide) (by decide) ?_
      exact kt
    show own_End p e below s (s₁.setTop (mkF m 10 #[.val (.int p1), .val (.int p2)] [(.int p1)])) (Q1 Z p1 p2 h0 n0) ({ frames := 0, cells := 0, slots := 0, locals := 0 } : Room).cells ({ frames := 0, cells := 0, slots := 0, locals := 0 } : Room).slots
    have hv : (own_max p1 p2) = p1 := hj.trans (by simp only [own_max, if_neg hc2_1])
    obtain ⟨fs, hr, hrun, hended, hW, hsame⟩ := X0.leave (v := some (.int p1)) (fun h => by rw [Bd.returns] at h; cases h)
    refine ⟨_, _, ?_, hrun, hended, _, _, rfl, ?_, ⟨_, rfl⟩, hW, hsame.mono (by decide) (by decide)⟩
    · exact retI X0 hx Bd.returns (hb hby d1_10) hr
    · show Q1 Z p1 p2 h0 n0 _ s₁.heap _
      rw [e0]
      exact ⟨(congrArg (fun z => some (Value.int z)) hv.symm), N0, rfl⟩
theorem own_tp {hh fi : Int32} (hf : 0 ≤ fi.toInt ∧ fi.toInt ≤ hh.toInt) : 0 ≤ (own_max (fi - (1 : Int32)) (0 : Int32)).toInt ∧ (own_max (fi - (1 : Int32)) (0 : Int32)).toInt ≤ fi.toInt := by
  have z : (1 : Int32).toInt = 1 := by decide
  have z0 : (0 : Int32).toInt = 0 := by decide
  have a := c_isub fi 1
  have r := rng32 (fi - 1)
  have r0 := rng32 fi
  unfold own_max
  by_cases q : (fi - (1 : Int32)) < (0 : Int32)
  · rw [if_pos q]; omega
  · have q' : ¬ (fi - (1 : Int32)).toInt < (0 : Int32).toInt := fun u => q (Int32.lt_iff_toInt_lt.mpr u)
    rw [if_neg q]; omega
theorem own_prod {x w : Int32} (hw : w.toInt = 1 ∨ w.toInt = 2) (hx : 0 ≤ x.toInt ∧ x.toInt ≤ 3) : (x * w).toInt = x.toInt * w.toInt ∧ ((w.toInt = 1 ∧ (x * w).toInt = x.toInt) ∨ (w.toInt = 2 ∧ (x * w).toInt = 2 * x.toInt)) := by
  have a := c_imul x w
  have r := rng32 (x * w)
  rcases hw with q | q
  · rw [q] at a ⊢; omega
  · rw [q] at a ⊢; omega
theorem own_mul {w hh fi en tp : Int32} (hw : w.toInt = 1 ∨ w.toInt = 2) (hh1 : 1 ≤ hh.toInt ∧ hh.toInt ≤ 3) (hf : 0 ≤ fi.toInt ∧ fi.toInt ≤ hh.toInt) (he : fi.toInt ≤ en.toInt ∧ en.toInt ≤ hh.toInt) (ht : 0 ≤ tp.toInt ∧ tp.toInt ≤ fi.toInt) : 0 ≤ (tp * w).toInt ∧ (tp * w).toInt ≤ (fi * w).toInt ∧ (en * w).toInt ≤ 6 ∧ (fi * w).toInt ≤ (en * w).toInt := by
  have a := own_prod (x := tp) hw (by omega)
  have b := own_prod (x := fi) hw (by omega)
  have c := own_prod (x := en) hw (by omega)
  omega
theorem d3_0 : decode prog_36_method_1_code 0 = .ok (.aload_n 0, 1) := by decide +kernel
theorem d3_1 : decode prog_36_method_1_code 1 = .ok (.invokespecial 3, 3) := by decide +kernel
theorem d3_4 : decode prog_36_method_1_code 4 = .ok (.return_, 1) := by decide +kernel
theorem pn_3 : plainName "com/example/rasterloom/rasterloom/op/RgbOp" = true := by first | (simp [plainName, overriddenIn]; done) | decide +kernel
theorem ef_3 (m : MethodId) (x0 : Addr) : entryFrame m #[(.ref x0)] 1 = mkF m 0 #[.val (.ref x0)] [] := by first | (simp [entryFrame, mkF, argsToLocals, Value.category]; done) | rfl
def Q3 (Z : State) (a1 : Addr) (h0 : Heap) (n0 : Nat) (v : Option Value) (h : Heap) (L : List Loc) : Prop := v = none ∧ Fr n0 L ∧ h = h0
set_option maxRecDepth 65536 in
set_option maxHeartbeats 40000000 in
theorem rm3 (l : Launch) (Z : State) (a0 : Array Value) (hw : ∀ d ∈ tables_1, d.before a0 Z = true) (ws : List Jvm.Cond) (a1 : Addr) (h0 : Heap) (n0 : Nat) (Z0 : n0 ≤ h0.size) :
    MetFree l (⟨"com/example/rasterloom/rasterloom/op/RgbOp", "<init>", "()V"⟩ : MethodName) (head1 (Jvm.Cond.code (⟨"com/example/rasterloom/rasterloom/op/RgbOp", "<init>", "()V"⟩ : MethodName) prog_36_method_1_code 1 none :: ws) ({ frames := 1, cells := 0, slots := 0, locals := 12 } : Room)) (fun a U => a = #[(.ref a1)] ∧ Z.Warmed39 U.vm ∧ U.heap = h0) (fun _ _ _ _ _ => True) (fun _ U o U' => ∃ v L, o = .returned v ∧ Q3 Z a1 h0 n0 v U'.heap L ∧ FrameEnd U o U' L ({ frames := 1, cells := 0, slots := 0, locals := 12 } : Room).cells ({ frames := 1, cells := 0, slots := 0, locals := 12 } : Room).slots) := by
  refine MetFree.of_bodySF (plainFor_of_name pn_3) hisR ?_
  intro p e s m args below meth c s₁ Bd hml0 hP hK
  obtain ⟨rfl, hZ, hh⟩ := hP
  have hx := Bd.exec
  have hby := Bd.bytes
  have hml : c.maxLocals = 1 := hml0
  have hown : s.vm.findClass "com/example/rasterloom/rasterloom/op/RgbOp" = some m.cls := findClass_of_methodNamed Bd.named
  have hnm := (name_of_methodNamed Bd.named Bd.method).1
  have X0 : Stand p l e ({ frames := 1, cells := 0, slots := 0, locals := 12 } : Room) s m #[(.ref a1)] below meth c s₁ [] 0 0 := Stand.of_body Bd
  have e0 : s₁.heap = h0 := by rw [← hh, Bd.state]; rfl
  have N0 := Fr.nil n0
  show own_End p e below s (s₁.setTop (entryFrame m #[(.ref a1)] 1)) (Q3 Z a1 h0 n0) ({ frames := 1, cells := 0, slots := 0, locals := 12 } : Room).cells ({ frames := 1, cells := 0, slots := 0, locals := 12 } : Room).slots
  refine own_pre (A := s₁.setTop (mkF m 0 #[.val (.ref a1)] [])) (fun tt kt => castTop (ef_3 m a1) kt) ?_
  show own_End p e below s (s₁.setTop (mkF m 0 #[.val (.ref a1)] [])) (Q3 Z a1 h0 n0) ({ frames := 1, cells := 0, slots := 0, locals := 12 } : Room).cells ({ frames := 1, cells := 0, slots := 0, locals := 12 } : Room).slots
  obtain ⟨T1, X1, e1, st1⟩ := initO X0 hx hZ hown (hw _ (List.mem_of_getElem? (i := 16) rfl)) (hw _ (List.mem_of_getElem? (i := 17) rfl)) (hw _ (List.mem_of_getElem? (i := 18) rfl)) e0 (g := (mkF m 1 #[.val (.ref a1)] [(.ref a1)])) rfl (by rw [hml]; rfl) rfl (hb hby d3_1) (by decide) (W := 0) (by show 2 * 0 + _ ≤ _; exact Nat.le_of_eq rfl) (by decide)
  refine own_pre (A := T1.setTop (mkF m 4 #[.val (.ref a1)] [])) (fun tt kt => ?_) ?_
  · show Steps p.tables e below (s₁.setTop (mkF m 0 #[.val (.ref a1)] [])) _
    refine XS.aloadN X0.here hx rfl (hb hby d3_0) rfl rfl ?_
    show Steps p.tables e below (s₁.setTop (mkF m 1 #[.val (.ref a1)] [(.ref a1)])) _
    refine st1 _ ?_
    exact kt
  show own_End p e below s (T1.setTop (mkF m 4 #[.val (.ref a1)] [])) (Q3 Z a1 h0 n0) ({ frames := 1, cells := 0, slots := 0, locals := 12 } : Room).cells ({ frames := 1, cells := 0, slots := 0, locals := 12 } : Room).slots
  obtain ⟨fs, hr, hrun, hended, hW, hsame⟩ := X1.leave (v := none) (fun _ => rfl)
  refine ⟨_, _, ?_, hrun, hended, _, _, rfl, ?_, ⟨_, rfl⟩, hW, hsame.mono (by decide) (by decide)⟩
  · exact X1.returnOut hx Bd.returns (hb hby d3_4) hr
  · show Q3 Z a1 h0 n0 _ T1.heap _
    rw [e1]
    exact ⟨rfl, N0, rfl⟩
theorem d2_0 : decode prog_27_method_1_code 0 = .ok (.aload_n 0, 1) := by decide +kernel
theorem d2_1 : decode prog_27_method_1_code 1 = .ok (.invokespecial 1, 3) := by decide +kernel
theorem d2_4 : decode prog_27_method_1_code 4 = .ok (.return_, 1) := by decide +kernel
theorem pn_2 : plainName "com/example/rasterloom/rasterloom/op/InvertOp" = true := by first | (simp [plainName, overriddenIn]; done) | decide +kernel
theorem pd_2_0 : parseMethodDescriptor "()V" = some ⟨[], none⟩ := by decide +kernel
theorem ef_2 (m : MethodId) (x0 : Addr) : entryFrame m #[(.ref x0)] 1 = mkF m 0 #[.val (.ref x0)] [] := by first | (simp [entryFrame, mkF, argsToLocals, Value.category]; done) | rfl
def Q2 (Z : State) (a1 : Addr) (h0 : Heap) (n0 : Nat) (v : Option Value) (h : Heap) (L : List Loc) : Prop := v = none ∧ Fr n0 L ∧ h = h0
set_option maxRecDepth 65536 in
set_option maxHeartbeats 40000000 in
theorem rm2 (l : Launch) (Z : State) (a0 : Array Value) (hw : ∀ d ∈ tables_1, d.before a0 Z = true) (ws : List Jvm.Cond) (a1 : Addr) (h0 : Heap) (n0 : Nat) (Z0 : n0 ≤ h0.size) :
    MetFree l (⟨"com/example/rasterloom/rasterloom/op/InvertOp", "<init>", "()V"⟩ : MethodName) (head1 (Jvm.Cond.code (⟨"com/example/rasterloom/rasterloom/op/InvertOp", "<init>", "()V"⟩ : MethodName) prog_27_method_1_code 1 none :: ws) ({ frames := 2, cells := 0, slots := 0, locals := 24 } : Room)) (fun a U => a = #[(.ref a1)] ∧ Z.Warmed39 U.vm ∧ U.heap = h0) (fun _ _ _ _ _ => True) (fun _ U o U' => ∃ v L, o = .returned v ∧ Q2 Z a1 h0 n0 v U'.heap L ∧ FrameEnd U o U' L ({ frames := 2, cells := 0, slots := 0, locals := 24 } : Room).cells ({ frames := 2, cells := 0, slots := 0, locals := 24 } : Room).slots) := by
  refine MetFree.of_bodySF (plainFor_of_name pn_2) hisR ?_
  intro p e s m args below meth c s₁ Bd hml0 hP hK
  obtain ⟨rfl, hZ, hh⟩ := hP
  have hx := Bd.exec
  have hby := Bd.bytes
  have hml : c.maxLocals = 1 := hml0
  have hown : s.vm.findClass "com/example/rasterloom/rasterloom/op/InvertOp" = some m.cls := findClass_of_methodNamed Bd.named
  have hnm := (name_of_methodNamed Bd.named Bd.method).1
  have X0 : Stand p l e ({ frames := 2, cells := 0, slots := 0, locals := 24 } : Room) s m #[(.ref a1)] below meth c s₁ [] 0 0 := Stand.of_body Bd
  have e0 : s₁.heap = h0 := by rw [← hh, Bd.state]; rfl
  have N0 := Fr.nil n0
  show own_End p e below s (s₁.setTop (entryFrame m #[(.ref a1)] 1)) (Q2 Z a1 h0 n0) ({ frames := 2, cells := 0, slots := 0, locals := 24 } : Room).cells ({ frames := 2, cells := 0, slots := 0, locals := 24 } : Room).slots
  refine own_pre (A := s₁.setTop (mkF m 0 #[.val (.ref a1)] [])) (fun tt kt => castTop (ef_2 m a1) kt) ?_
  show own_End p e below s (s₁.setTop (mkF m 0 #[.val (.ref a1)] [])) (Q2 Z a1 h0 n0) ({ frames := 2, cells := 0, slots := 0, locals := 24 } : Room).cells ({ frames := 2, cells := 0, slots := 0, locals := 24 } : Room).slots
  obtain ⟨_, _, ⟨T1, L1, k1, n1⟩, -, X1, ⟨Lc1, hQ1, l1, y1, z1⟩, st1⟩ := X0.specialBack hx (y := (⟨"com/example/rasterloom/rasterloom/op/RgbOp", "<init>", "()V"⟩ : MethodName)) rfl hown (mvT hZ (hw _ (List.mem_of_getElem? (i := 11) rfl))) (mvT hZ (hw _ (List.mem_of_getElem? (i := 12) rfl))) (mvT hZ (hw _ (List.mem_of_getElem? (i := 15) rfl))) (by decide) (backOf (W := 0) (rm3 l Z a0 hw [] a1  h0 n0 Z0 ) hZ (hw _ (List.mem_of_getElem? (i := 15) rfl)) (hw _ (List.mem_of_getElem? (i := 14) rfl)) (by decide) (by decide)) (g := (mkF m 1 #[.val (.ref a1)] [(.ref a1)])) rfl (by rw [hml]; rfl) (Steps.refl _) (a := a1) (argsL := []) (rest := []) (lenOf pd_2_0 rfl) rfl (by show 2 * 0 + _ ≤ _; exact Nat.le_of_eq rfl) (hb hby d2_1) (fun _ _ => ⟨rfl, e0, (by decide : 0 + 0 ≤ _), (by decide : 0 + 0 ≤ _)⟩)
  dsimp only [Pt.U, Pt.locs, Pt.cells, Pt.slots] at X1 l1 y1 z1 st1 hQ1
  subst l1 y1 z1
  obtain ⟨rfl, N1q, e1⟩ := hQ1
  have N1 := Fr.app N0 N1q
  refine own_pre (A := T1.setTop (mkF m 4 #[.val (.ref a1)] [])) (fun tt kt => ?_) ?_
  · show Steps p.tables e below (s₁.setTop (mkF m 0 #[.val (.ref a1)] [])) _
    refine XS.aloadN X0.here hx rfl (hb hby d2_0) rfl rfl ?_
    show Steps p.tables e below (s₁.setTop (mkF m 1 #[.val (.ref a1)] [(.ref a1)])) _
    refine st1.trans ?_
    exact kt
  show own_End p e below s (T1.setTop (mkF m 4 #[.val (.ref a1)] [])) (Q2 Z a1 h0 n0) ({ frames := 2, cells := 0, slots := 0, locals := 24 } : Room).cells ({ frames := 2, cells := 0, slots := 0, locals := 24 } : Room).slots
  obtain ⟨fs, hr, hrun, hended, hW, hsame⟩ := X1.leave (v := none) (fun _ => rfl)
  refine ⟨_, _, ?_, hrun, hended, _, _, rfl, ?_, ⟨_, rfl⟩, hW, hsame.mono (by decide) (by decide)⟩
  · exact X1.returnOut hx Bd.returns (hb hby d2_4) hr
  · show Q2 Z a1 h0 n0 _ T1.heap _
    rw [e1]
    exact ⟨rfl, N1, rfl⟩
def own_inv (p1 : Int32) : Int32 := (((((255 : Int32) - ((p1 >>> ((16 : Int32) &&& 31)) &&& (255 : Int32))) <<< ((16 : Int32) &&& 31)) ||| (((255 : Int32) - ((p1 >>> ((8 : Int32) &&& 31)) &&& (255 : Int32))) <<< ((8 : Int32) &&& 31))) ||| ((255 : Int32) - (p1 &&& (255 : Int32))))
theorem d7_0 : decode method_2_code 0 = .ok (.iload_n 0, 1) := by decide +kernel
theorem d7_1 : decode method_2_code 1 = .ok (.bipush 16, 2) := by decide +kernel
theorem d7_3 : decode method_2_code 3 = .ok (.ishr, 1) := by decide +kernel
theorem d7_4 : decode method_2_code 4 = .ok (.sipush 255, 3) := by decide +kernel
theorem d7_7 : decode method_2_code 7 = .ok (.iand, 1) := by decide +kernel
theorem d7_8 : decode method_2_code 8 = .ok (.istore_n 1, 1) := by decide +kernel
theorem d7_9 : decode method_2_code 9 = .ok (.iload_n 0, 1) := by decide +kernel
theorem d7_10 : decode method_2_code 10 = .ok (.bipush 8, 2) := by decide +kernel
theorem d7_12 : decode method_2_code 12 = .ok (.ishr, 1) := by decide +kernel
theorem d7_13 : decode method_2_code 13 = .ok (.sipush 255, 3) := by decide +kernel
theorem d7_16 : decode method_2_code 16 = .ok (.iand, 1) := by decide +kernel
theorem d7_17 : decode method_2_code 17 = .ok (.istore_n 2, 1) := by decide +kernel
theorem d7_18 : decode method_2_code 18 = .ok (.iload_n 0, 1) := by decide +kernel
theorem d7_19 : decode method_2_code 19 = .ok (.sipush 255, 3) := by decide +kernel
theorem d7_22 : decode method_2_code 22 = .ok (.iand, 1) := by decide +kernel
theorem d7_23 : decode method_2_code 23 = .ok (.istore_n 3, 1) := by decide +kernel
theorem d7_24 : decode method_2_code 24 = .ok (.sipush 255, 3) := by decide +kernel
theorem d7_27 : decode method_2_code 27 = .ok (.iload_n 1, 1) := by decide +kernel
theorem d7_28 : decode method_2_code 28 = .ok (.isub, 1) := by decide +kernel
theorem d7_29 : decode method_2_code 29 = .ok (.bipush 16, 2) := by decide +kernel
theorem d7_31 : decode method_2_code 31 = .ok (.ishl, 1) := by decide +kernel
theorem d7_32 : decode method_2_code 32 = .ok (.sipush 255, 3) := by decide +kernel
theorem d7_35 : decode method_2_code 35 = .ok (.iload_n 2, 1) := by decide +kernel
theorem d7_36 : decode method_2_code 36 = .ok (.isub, 1) := by decide +kernel
theorem d7_37 : decode method_2_code 37 = .ok (.bipush 8, 2) := by decide +kernel
theorem d7_39 : decode method_2_code 39 = .ok (.ishl, 1) := by decide +kernel
theorem d7_40 : decode method_2_code 40 = .ok (.ior, 1) := by decide +kernel
theorem d7_41 : decode method_2_code 41 = .ok (.sipush 255, 3) := by decide +kernel
theorem d7_44 : decode method_2_code 44 = .ok (.iload_n 3, 1) := by decide +kernel
theorem d7_45 : decode method_2_code 45 = .ok (.isub, 1) := by decide +kernel
theorem d7_46 : decode method_2_code 46 = .ok (.ior, 1) := by decide +kernel
theorem d7_47 : decode method_2_code 47 = .ok (.ireturn, 1) := by decide +kernel
theorem pn_7 : plainName "com/example/rasterloom/rasterloom/op/InvertOpFilterRowsPinLaw" = true := by first | (simp [plainName, overriddenIn]; done) | decide +kernel
theorem ef_7 (m : MethodId) (x0 : Int32) : entryFrame m #[(.int x0)] 4 = mkF m 0 #[.val (.int x0), .unset, .unset, .unset] [] := by first | (simp [entryFrame, mkF, argsToLocals, Value.category]; done) | rfl
def Q7 (Z : State) (p1 : Int32) (h0 : Heap) (n0 : Nat) (v : Option Value) (h : Heap) (L : List Loc) : Prop := v = some (.int (own_inv p1)) ∧ Fr n0 L ∧ h = h0
set_option maxRecDepth 65536 in
set_option maxHeartbeats 40000000 in
theorem rm7 (l : Launch) (Z : State) (a0 : Array Value) (hw : ∀ d ∈ tables_1, d.before a0 Z = true) (ws : List Jvm.Cond) (p1 : Int32) (h0 : Heap) (n0 : Nat) (Z0 : n0 ≤ h0.size) :
    MetFree l (⟨"com/example/rasterloom/rasterloom/op/InvertOpFilterRowsPinLaw", "inv", "(I)I"⟩ : MethodName) (head1 (Jvm.Cond.code (⟨"com/example/rasterloom/rasterloom/op/InvertOpFilterRowsPinLaw", "inv", "(I)I"⟩ : MethodName) method_2_code 4 (some .int) :: ws) ({ frames := 0, cells := 0, slots := 0, locals := 0 } : Room)) (fun a U => a = #[(.int p1)] ∧ Z.Warmed39 U.vm ∧ U.heap = h0) (fun _ _ _ _ _ => True) (fun _ U o U' => ∃ v L, o = .returned v ∧ Q7 Z p1 h0 n0 v U'.heap L ∧ FrameEnd U o U' L ({ frames := 0, cells := 0, slots := 0, locals := 0 } : Room).cells ({ frames := 0, cells := 0, slots := 0, locals := 0 } : Room).slots) := by
  refine MetFree.of_bodySF (plainFor_of_name pn_7) hisR ?_
  intro p e s m args below meth c s₁ Bd hml0 hP hK
  obtain ⟨rfl, hZ, hh⟩ := hP
  have hx := Bd.exec
  have hby := Bd.bytes
  have hml : c.maxLocals = 4 := hml0
  have hown : s.vm.findClass "com/example/rasterloom/rasterloom/op/InvertOpFilterRowsPinLaw" = some m.cls := findClass_of_methodNamed Bd.named
  have hnm := (name_of_methodNamed Bd.named Bd.method).1
  have X0 : Stand p l e ({ frames := 0, cells := 0, slots := 0, locals := 0 } : Room) s m #[(.int p1)] below meth c s₁ [] 0 0 := Stand.of_body Bd
  have e0 : s₁.heap = h0 := by rw [← hh, Bd.state]; rfl
  have N0 := Fr.nil n0
  show own_End p e below s (s₁.setTop (entryFrame m #[(.int p1)] 4)) (Q7 Z p1 h0 n0) ({ frames := 0, cells := 0, slots := 0, locals := 0 } : Room).cells ({ frames := 0, cells := 0, slots := 0, locals := 0 } : Room).slots
  refine own_pre (A := s₁.setTop (mkF m 0 #[.val (.int p1), .unset, .unset, .unset] [])) (fun tt kt => castTop (ef_7 m p1) kt) ?_
  show own_End p e below s (s₁.setTop (mkF m 0 #[.val (.int p1), .unset, .unset, .unset] [])) (Q7 Z p1 h0 n0) ({ frames := 0, cells := 0, slots := 0, locals := 0 } : Room).cells ({ frames := 0, cells := 0, slots := 0, locals := 0 } : Room).slots
  have hj : own_inv p1 = own_inv p1 := rfl
  refine own_pre (A := s₁.setTop (mkF m 47 #[.val (.int p1), .val (.int ((p1 >>> ((16 : Int32) &&& 31)) &&& (255 : Int32))), .val (.int ((p1 >>> ((8 : Int32) &&& 31)) &&& (255 : Int32))), .val (.int (p1 &&& (255 : Int32)))] [(.int (((((255 : Int32) - ((p1 >>> ((16 : Int32) &&& 31)) &&& (255 : Int32))) <<< ((16 : Int32) &&& 31)) ||| (((255 : Int32) - ((p1 >>> ((8 : Int32) &&& 31)) &&& (255 : Int32))) <<< ((8 : Int32) &&& 31))) ||| ((255 : Int32) - (p1 &&& (255 : Int32)))))])) (fun tt kt => ?_) ?_
  · show Steps p.tables e below (s₁.setTop (mkF m 0 #[.val (.int p1), .unset, .unset, .unset] [])) _
    refine XS.iloadN X0.here hx rfl (hb hby d7_0) rfl ?_
    refine XS.bipush X0.here hx rfl (hb hby d7_1) ?_
    refine XS.ishr X0.here hx rfl (hb hby d7_3) rfl ?_
    refine XS.sipush X0.here hx rfl (hb hby d7_4) ?_
    show Steps p.tables e below (s₁.setTop (mkF m 7 #[.val (.int p1), .unset, .unset, .unset] [(.int (255 : Int32)), (.int (p1 >>> ((16 : Int32) &&& 31)))])) _
    refine XS.iand X0.here hx rfl (hb hby d7_7) rfl ?_
    refine XS.istoreN X0.here hx rfl (hb hby d7_8) rfl (l' := #[.val (.int p1), .val (.int ((p1 >>> ((16 : Int32) &&& 31)) &&& (255 : Int32))), .unset, .unset]) rfl ?_
    refine XS.iloadN X0.here hx rfl (hb hby d7_9) rfl ?_
    refine XS.bipush X0.here hx rfl (hb hby d7_10) ?_
    show Steps p.tables e below (s₁.setTop (mkF m 12 #[.val (.int p1), .val (.int ((p1 >>> ((16 : Int32) &&& 31)) &&& (255 : Int32))), .unset, .unset] [(.int (8 : Int32)), (.int p1)])) _
    refine XS.ishr X0.here hx rfl (hb hby d7_12) rfl ?_
    refine XS.sipush X0.here hx rfl (hb hby d7_13) ?_
    refine XS.iand X0.here hx rfl (hb hby d7_16) rfl ?_
    refine XS.istoreN X0.here hx rfl (hb hby d7_17) rfl (l' := #[.val (.int p1), .val (.int ((p1 >>> ((16 : Int32) &&& 31)) &&& (255 : Int32))), .val (.int ((p1 >>> ((8 : Int32) &&& 31)) &&& (255 : Int32))), .unset]) rfl ?_
    show Steps p.tables e below (s₁.setTop (mkF m 18 #[.val (.int p1), .val (.int ((p1 >>> ((16 : Int32) &&& 31)) &&& (255 : Int32))), .val (.int ((p1 >>> ((8 : Int32) &&& 31)) &&& (255 : Int32))), .unset] [])) _
    refine XS.iloadN X0.here hx rfl (hb hby d7_18) rfl ?_
    refine XS.sipush X0.here hx rfl (hb hby d7_19) ?_
    refine XS.iand X0.here hx rfl (hb hby d7_22) rfl ?_
    refine XS.istoreN X0.here hx rfl (hb hby d7_23) rfl (l' := #[.val (.int p1), .val (.int ((p1 >>> ((16 : Int32) &&& 31)) &&& (255 : Int32))), .val (.int ((p1 >>> ((8 : Int32) &&& 31)) &&& (255 : Int32))), .val (.int (p1 &&& (255 : Int32)))]) rfl ?_
    show Steps p.tables e below (s₁.setTop (mkF m 24 #[.val (.int p1), .val (.int ((p1 >>> ((16 : Int32) &&& 31)) &&& (255 : Int32))), .val (.int ((p1 >>> ((8 : Int32) &&& 31)) &&& (255 : Int32))), .val (.int (p1 &&& (255 : Int32)))] [])) _
    refine XS.sipush X0.here hx rfl (hb hby d7_24) ?_
    refine XS.iloadN X0.here hx rfl (hb hby d7_27) rfl ?_
    refine XS.isub X0.here hx rfl (hb hby d7_28) rfl ?_
    refine XS.bipush X0.here hx rfl (hb hby d7_29) ?_
    show Steps p.tables e below (s₁.setTop (mkF m 31 #[.val (.int p1), .val (.int ((p1 >>> ((16 : Int32) &&& 31)) &&& (255 : Int32))), .val (.int ((p1 >>> ((8 : Int32) &&& 31)) &&& (255 : Int32))), .val (.int (p1 &&& (255 : Int32)))] [(.int (16 : Int32)), (.int ((255 : Int32) - ((p1 >>> ((16 : Int32) &&& 31)) &&& (255 : Int32))))])) _
    refine XS.ishl X0.here hx rfl (hb hby d7_31) rfl ?_
    refine XS.sipush X0.here hx rfl (hb hby d7_32) ?_
    refine XS.iloadN X0.here hx rfl (hb hby d7_35) rfl ?_
    refine XS.isub X0.here hx rfl (hb hby d7_36) rfl ?_
    show Steps p.tables e below (s₁.setTop (mkF m 37 #[.val (.int p1), .val (.int ((p1 >>> ((16 : Int32) &&& 31)) &&& (255 : Int32))), .val (.int ((p1 >>> ((8 : Int32) &&& 31)) &&& (255 : Int32))), .val (.int (p1 &&& (255 : Int32)))] [(.int ((255 : Int32) - ((p1 >>> ((8 : Int32) &&& 31)) &&& (255 : Int32)))), (.int (((255 : Int32) - ((p1 >>> ((16 : Int32) &&& 31)) &&& (255 : Int32))) <<< ((16 : Int32) &&& 31)))])) _
    refine XS.bipush X0.here hx rfl (hb hby d7_37) ?_
    refine XS.ishl X0.here hx rfl (hb hby d7_39) rfl ?_
    refine XS.ior X0.here hx rfl (hb hby d7_40) rfl ?_
    refine XS.sipush X0.here hx rfl (hb hby d7_41) ?_
    show Steps p.tables e below (s₁.setTop (mkF m 44 #[.val (.int p1), .val (.int ((p1 >>> ((16 : Int32) &&& 31)) &&& (255 : Int32))), .val (.int ((p1 >>> ((8 : Int32) &&& 31)) &&& (255 : Int32))), .val (.int (p1 &&& (255 : Int32)))] [(.int (255 : Int32)), (.int ((((255 : Int32) - ((p1 >>> ((16 : Int32) &&& 31)) &&& (255 : Int32))) <<< ((16 : Int32) &&& 31)) ||| (((255 : Int32) - ((p1 >>> ((8 : Int32) &&& 31)) &&& (255 : Int32))) <<< ((8 : Int32) &&& 31))))])) _
    refine XS.iloadN X0.here hx rfl (hb hby d7_44) rfl ?_
    refine XS.isub X0.here hx rfl (hb hby d7_45) rfl ?_
    refine XS.ior X0.here hx rfl (hb hby d7_46) rfl ?_
    exact kt
  show own_End p e below s (s₁.setTop (mkF m 47 #[.val (.int p1), .val (.int ((p1 >>> ((16 : Int32) &&& 31)) &&& (255 : Int32))), .val (.int ((p1 >>> ((8 : Int32) &&& 31)) &&& (255 : Int32))), .val (.int (p1 &&& (255 : Int32)))] [(.int (((((255 : Int32) - ((p1 >>> ((16 : Int32) &&& 31)) &&& (255 : Int32))) <<< ((16 : Int32) &&& 31)) ||| (((255 : Int32) - ((p1 >>> ((8 : Int32) &&& 31)) &&& (255 : Int32))) <<< ((8 : Int32) &&& 31))) ||| ((255 : Int32) - (p1 &&& (255 : Int32)))))])) (Q7 Z p1 h0 n0) ({ frames := 0, cells := 0, slots := 0, locals := 0 } : Room).cells ({ frames := 0, cells := 0, slots := 0, locals := 0 } : Room).slots
  have hv : (own_inv p1) = (((((255 : Int32) - ((p1 >>> ((16 : Int32) &&& 31)) &&& (255 : Int32))) <<< ((16 : Int32) &&& 31)) ||| (((255 : Int32) - ((p1 >>> ((8 : Int32) &&& 31)) &&& (255 : Int32))) <<< ((8 : Int32) &&& 31))) ||| ((255 : Int32) - (p1 &&& (255 : Int32)))) := hj.trans (by simp only [own_inv])
  obtain ⟨fs, hr, hrun, hended, hW, hsame⟩ := X0.leave (v := some (.int (((((255 : Int32) - ((p1 >>> ((16 : Int32) &&& 31)) &&& (255 : Int32))) <<< ((16 : Int32) &&& 31)) ||| (((255 : Int32) - ((p1 >>> ((8 : Int32) &&& 31)) &&& (255 : Int32))) <<< ((8 : Int32) &&& 31))) ||| ((255 : Int32) - (p1 &&& (255 : Int32)))))) (fun h => by rw [Bd.returns] at h; cases h)
  refine ⟨_, _, ?_, hrun, hended, _, _, rfl, ?_, ⟨_, rfl⟩, hW, hsame.mono (by decide) (by decide)⟩
  · exact retI X0 hx Bd.returns (hb hby d7_47) hr
  · show Q7 Z p1 h0 n0 _ s₁.heap _
    rw [e0]
    exact ⟨(congrArg (fun z => some (Value.int z)) hv.symm), N0, rfl⟩
def own_b5_g5 (p3 : Int32) (p4 : Int32) (p5 : Int32) (p6 : Int32) (p7 : Int32) (gs : Nat → Int32) (g : Nat → Int32) (ix : Int32) (gg : Nat → Int32) : Nat → Int32 := fun ii => if ii = ix.toNatClampNeg then (((gs (ix - (p3 * p4)).toNatClampNeg) ^^^ (-1 : Int32)) &&& (16777215 : Int32)) else gg ii
def own_rows_17 (p3 : Int32) (p4 : Int32) (p5 : Int32) (p6 : Int32) (p7 : Int32) (gs : Nat → Int32) (g : Nat → Int32) (ix : Int32) (gg : Nat → Int32) : Nat → (Nat → Int32)
  | 0 => gg
  | k + 1 => (if ix < (p7 * p4) then (own_rows_17 p3 p4 p5 p6 p7 gs g (ix + (1 : Int32)) (own_b5_g5 p3 p4 p5 p6 p7 gs g ix gg) k) else gg)
def own_rows (p3 : Int32) (p4 : Int32) (p5 : Int32) (p6 : Int32) (p7 : Int32) (gs : Nat → Int32) (g : Nat → Int32) : (Nat → Int32) := (own_rows_17 p3 p4 p5 p6 p7 gs g (p6 * p4) g (((p7 * p4).toInt - (p6 * p4).toInt).toNat + 1))
theorem d5_0 : decode prog_27_method_2_code 0 = .ok (.iload_n 2, 1) := by decide +kernel
theorem d5_1 : decode prog_27_method_2_code 1 = .ok (.iload_n 3, 1) := by decide +kernel
theorem d5_2 : decode prog_27_method_2_code 2 = .ok (.imul, 1) := by decide +kernel
theorem d5_3 : decode prog_27_method_2_code 3 = .ok (.istore 8, 2) := by decide +kernel
theorem d5_5 : decode prog_27_method_2_code 5 = .ok (.iload 5, 2) := by decide +kernel
theorem d5_7 : decode prog_27_method_2_code 7 = .ok (.iload_n 3, 1) := by decide +kernel
theorem d5_8 : decode prog_27_method_2_code 8 = .ok (.imul, 1) := by decide +kernel
theorem d5_9 : decode prog_27_method_2_code 9 = .ok (.istore 9, 2) := by decide +kernel
theorem d5_11 : decode prog_27_method_2_code 11 = .ok (.iload 6, 2) := by decide +kernel
theorem d5_13 : decode prog_27_method_2_code 13 = .ok (.iload_n 3, 1) := by decide +kernel
theorem d5_14 : decode prog_27_method_2_code 14 = .ok (.imul, 1) := by decide +kernel
theorem d5_15 : decode prog_27_method_2_code 15 = .ok (.istore 10, 2) := by decide +kernel
theorem d5_17 : decode prog_27_method_2_code 17 = .ok (.iload 9, 2) := by decide +kernel
theorem d5_19 : decode prog_27_method_2_code 19 = .ok (.iload 10, 2) := by decide +kernel
theorem d5_21 : decode prog_27_method_2_code 21 = .ok (.if_icmp .ge 26, 3) := by decide +kernel
theorem d5_24 : decode prog_27_method_2_code 24 = .ok (.aload 7, 2) := by decide +kernel
theorem d5_26 : decode prog_27_method_2_code 26 = .ok (.iload 9, 2) := by decide +kernel
theorem d5_28 : decode prog_27_method_2_code 28 = .ok (.aload_n 1, 1) := by decide +kernel
theorem d5_29 : decode prog_27_method_2_code 29 = .ok (.iload 9, 2) := by decide +kernel
theorem d5_31 : decode prog_27_method_2_code 31 = .ok (.iload 8, 2) := by decide +kernel
theorem d5_33 : decode prog_27_method_2_code 33 = .ok (.isub, 1) := by decide +kernel
theorem d5_34 : decode prog_27_method_2_code 34 = .ok (.iaload, 1) := by decide +kernel
theorem d5_35 : decode prog_27_method_2_code 35 = .ok (.iconst (-1), 1) := by decide +kernel
theorem d5_36 : decode prog_27_method_2_code 36 = .ok (.ixor, 1) := by decide +kernel
theorem d5_37 : decode prog_27_method_2_code 37 = .ok (.ldc 7, 2) := by decide +kernel
theorem d5_39 : decode prog_27_method_2_code 39 = .ok (.iand, 1) := by decide +kernel
theorem d5_40 : decode prog_27_method_2_code 40 = .ok (.iastore, 1) := by decide +kernel
theorem d5_41 : decode prog_27_method_2_code 41 = .ok (.iinc 9 1, 3) := by decide +kernel
theorem d5_44 : decode prog_27_method_2_code 44 = .ok (.goto (-27), 3) := by decide +kernel
theorem d5_47 : decode prog_27_method_2_code 47 = .ok (.return_, 1) := by decide +kernel
theorem pn_5 : plainName "com/example/rasterloom/rasterloom/op/InvertOp" = true := by first | (simp [plainName, overriddenIn]; done) | decide +kernel
theorem ef_5 (m : MethodId) (x0 : Addr) (x1 : Addr) (x2 : Int32) (x3 : Int32) (x4 : Int32) (x5 : Int32) (x6 : Int32) (x7 : Addr) : entryFrame m #[(.ref x0), (.ref x1), (.int x2), (.int x3), (.int x4), (.int x5), (.int x6), (.ref x7)] 11 = mkF m 0 #[.val (.ref x0), .val (.ref x1), .val (.int x2), .val (.int x3), .val (.int x4), .val (.int x5), .val (.int x6), .val (.ref x7), .unset, .unset, .unset] [] := by first | (simp [entryFrame, mkF, argsToLocals, Value.category]; done) | rfl
def Q5 (Z : State) (a1 : Addr) (a2 : Addr) (p3 : Int32) (p4 : Int32) (p5 : Int32) (p6 : Int32) (p7 : Int32) (a8 : Addr) (gs : Nat → Int32) (g : Nat → Int32) (h0 : Heap) (n0 : Nat) (v : Option Value) (h : Heap) (L : List Loc) : Prop := v = none ∧ Fr n0 L ∧ Keep h0 h [a8] ∧ own_Arr Z h a8 .int (6 : Int32) (fun i => Value.int ((own_rows p3 p4 p5 p6 p7 gs g) i))
set_option maxRecDepth 65536 in
set_option maxHeartbeats 40000000 in
theorem rm5 (l : Launch) (Z : State) (a0 : Array Value) (hw : ∀ d ∈ tables_1, d.before a0 Z = true) (ws : List Jvm.Cond) (a1 : Addr) (a2 : Addr) (p3 : Int32) (p4 : Int32) (p5 : Int32) (p6 : Int32) (p7 : Int32) (a8 : Addr) (gs : Nat → Int32) (g : Nat → Int32) (h0 : Heap) (n0 : Nat) (Z0 : n0 ≤ h0.size) (V_a2 : own_Arr Z h0 a2 .int (6 : Int32) (fun i => Value.int (gs i))) (V_a8 : own_Arr Z h0 a8 .int (6 : Int32) (fun i => Value.int (g i))) (ne_a2_a8 : a2 ≠ a8) (g_a8 : n0 ≤ a8) (hA : 0 ≤ (p3 * p4).toInt) (hB : (p3 * p4).toInt ≤ (p6 * p4).toInt) (hC : (p7 * p4).toInt ≤ 6) (hD : (p6 * p4).toInt ≤ (p7 * p4).toInt) :
    MetFree l (⟨"com/example/rasterloom/rasterloom/op/InvertOp", "filterRows", "([IIIIII[I)V"⟩ : MethodName) (head1 (Jvm.Cond.code (⟨"com/example/rasterloom/rasterloom/op/InvertOp", "filterRows", "([IIIIII[I)V"⟩ : MethodName) prog_27_method_2_code 11 none :: ws) ({ frames := 0, cells := 0, slots := 0, locals := 0 } : Room)) (fun a U => a = #[(.ref a1), (.ref a2), (.int p3), (.int p4), (.int p5), (.int p6), (.int p7), (.ref a8)] ∧ Z.Warmed39 U.vm ∧ U.heap = h0) (fun _ _ _ _ _ => True) (fun _ U o U' => ∃ v L, o = .returned v ∧ Q5 Z a1 a2 p3 p4 p5 p6 p7 a8 gs g h0 n0 v U'.heap L ∧ FrameEnd U o U' L ({ frames := 0, cells := 0, slots := 0, locals := 0 } : Room).cells ({ frames := 0, cells := 0, slots := 0, locals := 0 } : Room).slots) := by
  refine MetFree.of_bodySF (plainFor_of_name pn_5) hisR ?_
  intro p e s m args below meth c s₁ Bd hml0 hP hK
  obtain ⟨rfl, hZ, hh⟩ := hP
  have hx := Bd.exec
  have hby := Bd.bytes
  have hml : c.maxLocals = 11 := hml0
  have hown : s.vm.findClass "com/example/rasterloom/rasterloom/op/InvertOp" = some m.cls := findClass_of_methodNamed Bd.named
  have hnm := (name_of_methodNamed Bd.named Bd.method).1
  have X0 : Stand p l e ({ frames := 0, cells := 0, slots := 0, locals := 0 } : Room) s m #[(.ref a1), (.ref a2), (.int p3), (.int p4), (.int p5), (.int p6), (.int p7), (.ref a8)] below meth c s₁ [] 0 0 := Stand.of_body Bd
  have e0 : s₁.heap = h0 := by rw [← hh, Bd.state]; rfl
  have N0 := Fr.nil n0
  show own_End p e below s (s₁.setTop (entryFrame m #[(.ref a1), (.ref a2), (.int p3), (.int p4), (.int p5), (.int p6), (.int p7), (.ref a8)] 11)) (Q5 Z a1 a2 p3 p4 p5 p6 p7 a8 gs g h0 n0) ({ frames := 0, cells := 0, slots := 0, locals := 0 } : Room).cells ({ frames := 0, cells := 0, slots := 0, locals := 0 } : Room).slots
  refine own_pre (A := s₁.setTop (mkF m 0 #[.val (.ref a1), .val (.ref a2), .val (.int p3), .val (.int p4), .val (.int p5), .val (.int p6), .val (.int p7), .val (.ref a8), .unset, .unset, .unset] [])) (fun tt kt => castTop (ef_5 m a1 a2 p3 p4 p5 p6 p7 a8) kt) ?_
  show own_End p e below s (s₁.setTop (mkF m 0 #[.val (.ref a1), .val (.ref a2), .val (.int p3), .val (.int p4), .val (.int p5), .val (.int p6), .val (.int p7), .val (.ref a8), .unset, .unset, .unset] [])) (Q5 Z a1 a2 p3 p4 p5 p6 p7 a8 gs g h0 n0) ({ frames := 0, cells := 0, slots := 0, locals := 0 } : Room).cells ({ frames := 0, cells := 0, slots := 0, locals := 0 } : Room).slots
  have hj : own_rows p3 p4 p5 p6 p7 gs g = own_rows p3 p4 p5 p6 p7 gs g := rfl
  refine own_pre (A := s₁.setTop (mkF m 17 #[.val (.ref a1), .val (.ref a2), .val (.int p3), .val (.int p4), .val (.int p5), .val (.int p6), .val (.int p7), .val (.ref a8), .val (.int (p3 * p4)), .val (.int (p6 * p4)), .val (.int (p7 * p4))] [])) (fun tt kt => ?_) ?_
  · show Steps p.tables e below (s₁.setTop (mkF m 0 #[.val (.ref a1), .val (.ref a2), .val (.int p3), .val (.int p4), .val (.int p5), .val (.int p6), .val (.int p7), .val (.ref a8), .unset, .unset, .unset] [])) _
    refine XS.iloadN X0.here hx rfl (hb hby d5_0) rfl ?_
    refine XS.iloadN X0.here hx rfl (hb hby d5_1) rfl ?_
    refine XS.imul X0.here hx rfl (hb hby d5_2) rfl ?_
    refine XS.istore X0.here hx rfl (hb hby d5_3) rfl (l' := #[.val (.ref a1), .val (.ref a2), .val (.int p3), .val (.int p4), .val (.int p5), .val (.int p6), .val (.int p7), .val (.ref a8), .val (.int (p3 * p4)), .unset, .unset]) rfl ?_
    show Steps p.tables e below (s₁.setTop (mkF m 5 #[.val (.ref a1), .val (.ref a2), .val (.int p3), .val (.int p4), .val (.int p5), .val (.int p6), .val (.int p7), .val (.ref a8), .val (.int (p3 * p4)), .unset, .unset] [])) _
    refine XS.iload X0.here hx rfl (hb hby d5_5) rfl ?_
    refine XS.iloadN X0.here hx rfl (hb hby d5_7) rfl ?_
    refine XS.imul X0.here hx rfl (hb hby d5_8) rfl ?_
    refine XS.istore X0.here hx rfl (hb hby d5_9) rfl (l' := #[.val (.ref a1), .val (.ref a2), .val (.int p3), .val (.int p4), .val (.int p5), .val (.int p6), .val (.int p7), .val (.ref a8), .val (.int (p3 * p4)), .val (.int (p6 * p4)), .unset]) rfl ?_
    show Steps p.tables e below (s₁.setTop (mkF m 11 #[.val (.ref a1), .val (.ref a2), .val (.int p3), .val (.int p4), .val (.int p5), .val (.int p6), .val (.int p7), .val (.ref a8), .val (.int (p3 * p4)), .val (.int (p6 * p4)), .unset] [])) _
    refine XS.iload X0.here hx rfl (hb hby d5_11) rfl ?_
    refine XS.iloadN X0.here hx rfl (hb hby d5_13) rfl ?_
    refine XS.imul X0.here hx rfl (hb hby d5_14) rfl ?_
    refine XS.istore X0.here hx rfl (hb hby d5_15) rfl (l' := #[.val (.ref a1), .val (.ref a2), .val (.int p3), .val (.int p4), .val (.int p5), .val (.int p6), .val (.int p7), .val (.ref a8), .val (.int (p3 * p4)), .val (.int (p6 * p4)), .val (.int (p7 * p4))]) rfl ?_
    exact kt
  show own_End p e below s (s₁.setTop (mkF m 17 #[.val (.ref a1), .val (.ref a2), .val (.int p3), .val (.int p4), .val (.int p5), .val (.int p6), .val (.int p7), .val (.ref a8), .val (.int (p3 * p4)), .val (.int (p6 * p4)), .val (.int (p7 * p4))] [])) (Q5 Z a1 a2 p3 p4 p5 p6 p7 a8 gs g h0 n0) ({ frames := 0, cells := 0, slots := 0, locals := 0 } : Room).cells ({ frames := 0, cells := 0, slots := 0, locals := 0 } : Room).slots
  have j17 : ∀ (k : Nat) (hj17 : Heap) (Kj17 : Keep h0 hj17 [a8]) (Tj17 : State) (Lj17 : List Loc) (Xj17 : Stand p l e ({ frames := 0, cells := 0, slots := 0, locals := 0 } : Room) s m #[(.ref a1), (.ref a2), (.int p3), (.int p4), (.int p5), (.int p6), (.int p7), (.ref a8)] below meth c Tj17 Lj17 0 0) (ej17 : Tj17.heap = hj17) (Nj17 : Fr n0 Lj17) (ix : Int32) (gg : Nat → Int32) (Vj17_a8 : own_Arr Z hj17 a8 .int (6 : Int32) (fun i => Value.int (gg i))) (hi0 : (p6 * p4).toInt ≤ ix.toInt) (hi1 : ix.toInt ≤ (p7 * p4).toInt) (hk : (p7 * p4).toInt - ix.toInt < k), own_rows p3 p4 p5 p6 p7 gs g = own_rows_17 p3 p4 p5 p6 p7 gs g ix gg k → own_End p e below s (Tj17.setTop (mkF m 17 #[.val (.ref a1), .val (.ref a2), .val (.int p3), .val (.int p4), .val (.int p5), .val (.int p6), .val (.int p7), .val (.ref a8), .val (.int (p3 * p4)), .val (.int ix), .val (.int (p7 * p4))] [])) (Q5 Z a1 a2 p3 p4 p5 p6 p7 a8 gs g h0 n0) ({ frames := 0, cells := 0, slots := 0, locals := 0 } : Room).cells ({ frames := 0, cells := 0, slots := 0, locals := 0 } : Room).slots := by
    intro k
    induction k with
    | zero =>
      intro hj17 Kj17 Tj17 Lj17 Xj17 ej17 Nj17 ix gg Vj17_a8 hi0 hi1 hk hj
      exfalso; omega
    | succ k ih =>
      intro hj17 Kj17 Tj17 Lj17 Xj17 ej17 Nj17 ix gg Vj17_a8 hi0 hi1 hk hj
      have fA_a2_xj17 := (V_a2.keep Kj17 (ninS ne_a2_a8 nin0))
      have KKj17 : Keep h0 hj17 [a8] := Keep.trans (Keep.refl h0 _) Kj17 (allS (Or.inl (List.mem_of_getElem? (i := 0) rfl)) all0)
      have Zj17 : n0 ≤ hj17.size := Nat.le_trans Z0 Kj17.1
      refine own_pre (A := Tj17.setTop (mkF m 21 #[.val (.ref a1), .val (.ref a2), .val (.int p3), .val (.int p4), .val (.int p5), .val (.int p6), .val (.int p7), .val (.ref a8), .val (.int (p3 * p4)), .val (.int ix), .val (.int (p7 * p4))] [(.int (p7 * p4)), (.int ix)])) (fun tt kt => ?_) ?_
      · show Steps p.tables e below (Tj17.setTop (mkF m 17 #[.val (.ref a1), .val (.ref a2), .val (.int p3), .val (.int p4), .val (.int p5), .val (.int p6), .val (.int p7), .val (.ref a8), .val (.int (p3 * p4)), .val (.int ix), .val (.int (p7 * p4))] [])) _
        refine XS.iload Xj17.here hx rfl (hb hby d5_17) rfl ?_
        refine XS.iload Xj17.here hx rfl (hb hby d5_19) rfl ?_
        exact kt
      show own_End p e below s (Tj17.setTop (mkF m 21 #[.val (.ref a1), .val (.ref a2), .val (.int p3), .val (.int p4), .val (.int p5), .val (.int p6), .val (.int p7), .val (.ref a8), .val (.int (p3 * p4)), .val (.int ix), .val (.int (p7 * p4))] [(.int (p7 * p4)), (.int ix)])) (Q5 Z a1 a2 p3 p4 p5 p6 p7 a8 gs g h0 n0) ({ frames := 0, cells := 0, slots := 0, locals := 0 } : Room).cells ({ frames := 0, cells := 0, slots := 0, locals := 0 } : Room).slots
      by_cases hc21_1 : ix < (p7 * p4)
      · obtain ⟨cl2, Ar2, S2, Nn2, G2⟩ := id fA_a2_xj17
        have hin2 : ¬ ((ix - (p3 * p4)) < 0 ∨ cl2.slots.size ≤ (ix - (p3 * p4)).toNatClampNeg) := inb_of S2 (own_sub hA (by omega) (own_lt6 hC hc21_1) : ¬ (ix - (p3 * p4)) < 0 ∧ (ix - (p3 * p4)) < (6 : Int32))
        have hat2 : cl2.slots[(ix - (p3 * p4)).toNatClampNeg]? = some (.int (gs (ix - (p3 * p4)).toNatClampNeg)) := own_at S2 G2 hin2
        obtain ⟨cl3, Ar3, S3, Nn3, G3⟩ := id Vj17_a8
        have hin3 : ¬ (ix < 0 ∨ cl3.slots.size ≤ ix.toNatClampNeg) := inb_of S3 (own_inb2 (by omega) (by have := own_lt6 hC hc21_1; omega) : ¬ ix < 0 ∧ ix < (6 : Int32))
        obtain ⟨T4, h4, X4, e4, W4, st4⟩ := stI Xj17 hx hZ ej17 Ar3 (j := ix) hin3 (g := (mkF m 40 #[.val (.ref a1), .val (.ref a2), .val (.int p3), .val (.int p4), .val (.int p5), .val (.int p6), .val (.int p7), .val (.ref a8), .val (.int (p3 * p4)), .val (.int ix), .val (.int (p7 * p4))] [(.int (((gs (ix - (p3 * p4)).toNatClampNeg) ^^^ (-1 : Int32)) &&& (16777215 : Int32))), (.int ix), (.ref a8)])) rfl rfl (hb hby d5_40)
        have fA_a2_x4 := (fA_a2_xj17.other W4 ne_a2_a8)
        have V4 : own_Arr Z h4 a8 .int (6 : Int32) (fun i => Value.int ((own_b5_g5 p3 p4 p5 p6 p7 gs g ix gg) i)) := own_Arr.set (w := Value.int) (g := gg) (x := (((gs (ix - (p3 * p4)).toNatClampNeg) ^^^ (-1 : Int32)) &&& (16777215 : Int32))) Vj17_a8 W4 rfl (fun i => rfl)
        have N4 := Fr.snoc X4 Nj17 g_a8
        have K4 : Keep h0 h4 [a8] := Keep.wr KKj17 W4 (Or.inl (List.mem_of_getElem? (i := 0) rfl))
        have Z4 : n0 ≤ h4.size := Nat.le_trans Zj17 (Nat.le_of_eq W4.size.symm)
        have Kl4_17 := Keep.wr Kj17 W4 (Or.inl (List.mem_of_getElem? (i := 0) rfl))
        refine own_pre (A := T4.setTop (mkF m 17 #[.val (.ref a1), .val (.ref a2), .val (.int p3), .val (.int p4), .val (.int p5), .val (.int p6), .val (.int p7), .val (.ref a8), .val (.int (p3 * p4)), .val (.int (ix + (1 : Int32))), .val (.int (p7 * p4))] [])) (fun tt kt => ?_) ?_
        · show Steps p.tables e below (Tj17.setTop (mkF m 21 #[.val (.ref a1), .val (.ref a2), .val (.int p3), .val (.int p4), .val (.int p5), .val (.int p6), .val (.int p7), .val (.ref a8), .val (.int (p3 * p4)), .val (.int ix), .val (.int (p7 * p4))] [(.int (p7 * p4)), (.int ix)])) _
          refine XS.icmpNo Xj17.here hx rfl (hb hby d5_21) rfl (tlt hc21_1).2.1 ?_
          refine XS.aload Xj17.here hx rfl (hb hby d5_24) rfl rfl ?_
          refine XS.iload Xj17.here hx rfl (hb hby d5_26) rfl ?_
          refine XS.aloadN Xj17.here hx rfl (hb hby d5_28) rfl rfl ?_
          show Steps p.tables e below (Tj17.setTop (mkF m 29 #[.val (.ref a1), .val (.ref a2), .val (.int p3), .val (.int p4), .val (.int p5), .val (.int p6), .val (.int p7), .val (.ref a8), .val (.int (p3 * p4)), .val (.int ix), .val (.int (p7 * p4))] [(.ref a2), (.int ix), (.ref a8)])) _
          refine XS.iload Xj17.here hx rfl (hb hby d5_29) rfl ?_
          refine XS.iload Xj17.here hx rfl (hb hby d5_31) rfl ?_
          refine XS.isub Xj17.here hx rfl (hb hby d5_33) rfl ?_
          show Steps p.tables e below (Tj17.setTop (mkF m 34 #[.val (.ref a1), .val (.ref a2), .val (.int p3), .val (.int p4), .val (.int p5), .val (.int p6), .val (.int p7), .val (.ref a8), .val (.int (p3 * p4)), .val (.int ix), .val (.int (p7 * p4))] [(.int (ix - (p3 * p4))), (.ref a2), (.int ix), (.ref a8)])) _
          refine Xj17.iaload hx (j := (ix - (p3 * p4))) (v := (.int (gs (ix - (p3 * p4)).toNatClampNeg))) (by rw [ej17]; exact Ar2.1) (State.isArrayOf_alike hZ.alike Ar2.2.1) Ar2.2.2 hin2 hat2 (g := (mkF m 34 #[.val (.ref a1), .val (.ref a2), .val (.int p3), .val (.int p4), .val (.int p5), .val (.int p6), .val (.int p7), .val (.ref a8), .val (.int (p3 * p4)), .val (.int ix), .val (.int (p7 * p4))] [(.int (ix - (p3 * p4))), (.ref a2), (.int ix), (.ref a8)])) rfl rfl (hb hby d5_34) _ ?_
          show Steps p.tables e below (Tj17.setTop (mkF m 35 #[.val (.ref a1), .val (.ref a2), .val (.int p3), .val (.int p4), .val (.int p5), .val (.int p6), .val (.int p7), .val (.ref a8), .val (.int (p3 * p4)), .val (.int ix), .val (.int (p7 * p4))] [(.int (gs (ix - (p3 * p4)).toNatClampNeg)), (.int ix), (.ref a8)])) _
          refine XS.iconst Xj17.here hx rfl (hb hby d5_35) ?_
          refine XS.ixor Xj17.here hx rfl (hb hby d5_36) rfl ?_
          show Steps p.tables e below (Tj17.setTop (mkF m 37 #[.val (.ref a1), .val (.ref a2), .val (.int p3), .val (.int p4), .val (.int p5), .val (.int p6), .val (.int p7), .val (.ref a8), .val (.int (p3 * p4)), .val (.int ix), .val (.int (p7 * p4))] [(.int ((gs (ix - (p3 * p4)).toNatClampNeg) ^^^ (-1 : Int32))), (.int ix), (.ref a8)])) _
          refine Xj17.ldcInt hx hown (mvT hZ (hw _ (List.mem_of_getElem? (i := 28) rfl))) (g := (mkF m 37 #[.val (.ref a1), .val (.ref a2), .val (.int p3), .val (.int p4), .val (.int p5), .val (.int p6), .val (.int p7), .val (.ref a8), .val (.int (p3 * p4)), .val (.int ix), .val (.int (p7 * p4))] [(.int ((gs (ix - (p3 * p4)).toNatClampNeg) ^^^ (-1 : Int32))), (.int ix), (.ref a8)])) rfl (hb hby d5_37) _ ?_
          show Steps p.tables e below (Tj17.setTop (mkF m 39 #[.val (.ref a1), .val (.ref a2), .val (.int p3), .val (.int p4), .val (.int p5), .val (.int p6), .val (.int p7), .val (.ref a8), .val (.int (p3 * p4)), .val (.int ix), .val (.int (p7 * p4))] [(.int (16777215 : Int32)), (.int ((gs (ix - (p3 * p4)).toNatClampNeg) ^^^ (-1 : Int32))), (.int ix), (.ref a8)])) _
          refine XS.iand Xj17.here hx rfl (hb hby d5_39) rfl ?_
          show Steps p.tables e below (Tj17.setTop (mkF m 40 #[.val (.ref a1), .val (.ref a2), .val (.int p3), .val (.int p4), .val (.int p5), .val (.int p6), .val (.int p7), .val (.ref a8), .val (.int (p3 * p4)), .val (.int ix), .val (.int (p7 * p4))] [(.int (((gs (ix - (p3 * p4)).toNatClampNeg) ^^^ (-1 : Int32)) &&& (16777215 : Int32))), (.int ix), (.ref a8)])) _
          refine st4 _ ?_
          show Steps p.tables e below (T4.setTop (mkF m 41 #[.val (.ref a1), .val (.ref a2), .val (.int p3), .val (.int p4), .val (.int p5), .val (.int p6), .val (.int p7), .val (.ref a8), .val (.int (p3 * p4)), .val (.int ix), .val (.int (p7 * p4))] [])) _
          refine XS.iinc X4.here hx rfl (hb hby d5_41) rfl (l' := #[.val (.ref a1), .val (.ref a2), .val (.int p3), .val (.int p4), .val (.int p5), .val (.int p6), .val (.int p7), .val (.ref a8), .val (.int (p3 * p4)), .val (.int (ix + (1 : Int32))), .val (.int (p7 * p4))]) rfl ?_
          refine XS.goto X4.here hx rfl (pc0 := 44) (pc' := 17) rfl (hb hby d5_44) (by decide) (by decide) ?_
          exact kt
        show own_End p e below s (T4.setTop (mkF m 17 #[.val (.ref a1), .val (.ref a2), .val (.int p3), .val (.int p4), .val (.int p5), .val (.int p6), .val (.int p7), .val (.ref a8), .val (.int (p3 * p4)), .val (.int (ix + (1 : Int32))), .val (.int (p7 * p4))] [])) (Q5 Z a1 a2 p3 p4 p5 p6 p7 a8 gs g h0 n0) ({ frames := 0, cells := 0, slots := 0, locals := 0 } : Room).cells ({ frames := 0, cells := 0, slots := 0, locals := 0 } : Room).slots
        exact ih _ Kl4_17 _ _ X4 e4 N4 (ix + (1 : Int32)) (own_b5_g5 p3 p4 p5 p6 p7 gs g ix gg) V4 (by have := own_next (by omega : 0 ≤ ix.toInt) hc21_1; omega) (by have := own_next (by omega : 0 ≤ ix.toInt) hc21_1; omega) (by have := own_next (by omega : 0 ≤ ix.toInt) hc21_1; omega) (hj.trans (by simp only [own_rows_17, if_pos hc21_1]))
      · refine own_pre (A := Tj17.setTop (mkF m 47 #[.val (.ref a1), .val (.ref a2), .val (.int p3), .val (.int p4), .val (.int p5), .val (.int p6), .val (.int p7), .val (.ref a8), .val (.int (p3 * p4)), .val (.int ix), .val (.int (p7 * p4))] [])) (fun tt kt => ?_) ?_
        · show Steps p.tables e below (Tj17.setTop (mkF m 21 #[.val (.ref a1), .val (.ref a2), .val (.int p3), .val (.int p4), .val (.int p5), .val (.int p6), .val (.int p7), .val (.ref a8), .val (.int (p3 * p4)), .val (.int ix), .val (.int (p7 * p4))] [(.int (p7 * p4)), (.int ix)])) _
          refine XS.icmpYes Xj17.here hx rfl (pc0 := 21) (pc' := 47) rfl (hb hby d5_21) rfl (flt hc21_1).2.1 (by decide) (by decide) ?_
          exact kt
        show own_End p e below s (Tj17.setTop (mkF m 47 #[.val (.ref a1), .val (.ref a2), .val (.int p3), .val (.int p4), .val (.int p5), .val (.int p6), .val (.int p7), .val (.ref a8), .val (.int (p3 * p4)), .val (.int ix), .val (.int (p7 * p4))] [])) (Q5 Z a1 a2 p3 p4 p5 p6 p7 a8 gs g h0 n0) ({ frames := 0, cells := 0, slots := 0, locals := 0 } : Room).cells ({ frames := 0, cells := 0, slots := 0, locals := 0 } : Room).slots
        have hv : (own_rows p3 p4 p5 p6 p7 gs g) = gg := hj.trans (by simp only [own_rows_17, if_neg hc21_1])
        obtain ⟨fs, hr, hrun, hended, hW, hsame⟩ := Xj17.leave (v := none) (fun _ => rfl)
        refine ⟨_, _, ?_, hrun, hended, _, _, rfl, ?_, ⟨_, rfl⟩, hW, hsame.mono (by decide) (by decide)⟩
        · exact Xj17.returnOut hx Bd.returns (hb hby d5_47) hr
        · show Q5 Z a1 a2 p3 p4 p5 p6 p7 a8 gs g h0 n0 _ Tj17.heap _
          rw [ej17]
          exact ⟨rfl, Nj17, KKj17, (by rw [hv]; exact Vj17_a8)⟩
  exact j17 (((p7 * p4).toInt - (p6 * p4).toInt).toNat + 1) _ (Keep.refl _ _) _ _ X0 e0 N0 (p6 * p4) g V_a8 (Int.le_refl _) hD (by omega) (hj.trans (by simp only [own_rows]))
def own_cell (p3 : Int32) (p4 : Int32) (p5 : Int32) (p6 : Int32) (g : Nat → Int32) (gs : Nat → Int32) : Int32 := (if p3 < p4 then (if (g p3.toNatClampNeg) = (-1 : Int32) then (1 : Int32) else (0 : Int32)) else (if p3 < p5 then (if (g p3.toNatClampNeg) = (own_inv (gs (p3 - p6).toNatClampNeg)) then (1 : Int32) else (0 : Int32)) else (if (g p3.toNatClampNeg) = (-1 : Int32) then (1 : Int32) else (0 : Int32))))
theorem d6_0 : decode method_3_code 0 = .ok (.iload_n 2, 1) := by decide +kernel
theorem d6_1 : decode method_3_code 1 = .ok (.iload_n 3, 1) := by decide +kernel
theorem d6_2 : decode method_3_code 2 = .ok (.if_icmp .lt 9, 3) := by decide +kernel
theorem d6_5 : decode method_3_code 5 = .ok (.iload_n 2, 1) := by decide +kernel
theorem d6_6 : decode method_3_code 6 = .ok (.iload 4, 2) := by decide +kernel
theorem d6_8 : decode method_3_code 8 = .ok (.if_icmp .lt 16, 3) := by decide +kernel
theorem d6_11 : decode method_3_code 11 = .ok (.aload_n 0, 1) := by decide +kernel
theorem d6_12 : decode method_3_code 12 = .ok (.iload_n 2, 1) := by decide +kernel
theorem d6_13 : decode method_3_code 13 = .ok (.iaload, 1) := by decide +kernel
theorem d6_14 : decode method_3_code 14 = .ok (.iconst (-1), 1) := by decide +kernel
theorem d6_15 : decode method_3_code 15 = .ok (.if_icmp .ne 7, 3) := by decide +kernel
theorem d6_18 : decode method_3_code 18 = .ok (.iconst 1, 1) := by decide +kernel
theorem d6_19 : decode method_3_code 19 = .ok (.goto 4, 3) := by decide +kernel
theorem d6_22 : decode method_3_code 22 = .ok (.iconst 0, 1) := by decide +kernel
theorem d6_23 : decode method_3_code 23 = .ok (.ireturn, 1) := by decide +kernel
theorem d6_24 : decode method_3_code 24 = .ok (.aload_n 0, 1) := by decide +kernel
theorem d6_25 : decode method_3_code 25 = .ok (.iload_n 2, 1) := by decide +kernel
theorem d6_26 : decode method_3_code 26 = .ok (.iaload, 1) := by decide +kernel
theorem d6_27 : decode method_3_code 27 = .ok (.aload_n 1, 1) := by decide +kernel
theorem d6_28 : decode method_3_code 28 = .ok (.iload_n 2, 1) := by decide +kernel
theorem d6_29 : decode method_3_code 29 = .ok (.iload 5, 2) := by decide +kernel
theorem d6_31 : decode method_3_code 31 = .ok (.isub, 1) := by decide +kernel
theorem d6_32 : decode method_3_code 32 = .ok (.iaload, 1) := by decide +kernel
theorem d6_33 : decode method_3_code 33 = .ok (.invokestatic 7, 3) := by decide +kernel
theorem d6_36 : decode method_3_code 36 = .ok (.if_icmp .ne 7, 3) := by decide +kernel
theorem d6_39 : decode method_3_code 39 = .ok (.iconst 1, 1) := by decide +kernel
theorem d6_40 : decode method_3_code 40 = .ok (.goto 4, 3) := by decide +kernel
theorem d6_43 : decode method_3_code 43 = .ok (.iconst 0, 1) := by decide +kernel
theorem d6_44 : decode method_3_code 44 = .ok (.ireturn, 1) := by decide +kernel
theorem pn_6 : plainName "com/example/rasterloom/rasterloom/op/InvertOpFilterRowsPinLaw" = true := by first | (simp [plainName, overriddenIn]; done) | decide +kernel
theorem pd_6_0 : parseMethodDescriptor "(I)I" = some ⟨[.int], some .int⟩ := by decide +kernel
theorem ef_6 (m : MethodId) (x0 : Addr) (x1 : Addr) (x2 : Int32) (x3 : Int32) (x4 : Int32) (x5 : Int32) : entryFrame m #[(.ref x0), (.ref x1), (.int x2), (.int x3), (.int x4), (.int x5)] 6 = mkF m 0 #[.val (.ref x0), .val (.ref x1), .val (.int x2), .val (.int x3), .val (.int x4), .val (.int x5)] [] := by first | (simp [entryFrame, mkF, argsToLocals, Value.category]; done) | rfl
def Q6 (Z : State) (a1 : Addr) (a2 : Addr) (p3 : Int32) (p4 : Int32) (p5 : Int32) (p6 : Int32) (g : Nat → Int32) (gs : Nat → Int32) (h0 : Heap) (n0 : Nat) (v : Option Value) (h : Heap) (L : List Loc) : Prop := v = some (.int (own_cell p3 p4 p5 p6 g gs)) ∧ Fr n0 L ∧ h = h0
set_option maxRecDepth 65536 in
set_option maxHeartbeats 40000000 in
theorem rm6 (l : Launch) (Z : State) (a0 : Array Value) (hw : ∀ d ∈ tables_1, d.before a0 Z = true) (ws : List Jvm.Cond) (a1 : Addr) (a2 : Addr) (p3 : Int32) (p4 : Int32) (p5 : Int32) (p6 : Int32) (g : Nat → Int32) (gs : Nat → Int32) (h0 : Heap) (n0 : Nat) (Z0 : n0 ≤ h0.size) (V_a1 : own_Arr Z h0 a1 .int (6 : Int32) (fun i => Value.int (g i))) (V_a2 : own_Arr Z h0 a2 .int (6 : Int32) (fun i => Value.int (gs i))) (hp0 : 0 ≤ p3.toInt) (hp1 : p3.toInt < 6) (hs0 : 0 ≤ p6.toInt) (hs1 : p6.toInt ≤ p4.toInt) :
    MetFree l (⟨"com/example/rasterloom/rasterloom/op/InvertOpFilterRowsPinLaw", "cell", "([I[IIIII)Z"⟩ : MethodName) (head1 (Jvm.Cond.code (⟨"com/example/rasterloom/rasterloom/op/InvertOpFilterRowsPinLaw", "cell", "([I[IIIII)Z"⟩ : MethodName) method_3_code 6 (some .boolean) :: ws) ({ frames := 1, cells := 0, slots := 0, locals := 16 } : Room)) (fun a U => a = #[(.ref a1), (.ref a2), (.int p3), (.int p4), (.int p5), (.int p6)] ∧ Z.Warmed39 U.vm ∧ U.heap = h0) (fun _ _ _ _ _ => True) (fun _ U o U' => ∃ v L, o = .returned v ∧ Q6 Z a1 a2 p3 p4 p5 p6 g gs h0 n0 v U'.heap L ∧ FrameEnd U o U' L ({ frames := 1, cells := 0, slots := 0, locals := 16 } : Room).cells ({ frames := 1, cells := 0, slots := 0, locals := 16 } : Room).slots) := by
  refine MetFree.of_bodySF (plainFor_of_name pn_6) hisR ?_
  intro p e s m args below meth c s₁ Bd hml0 hP hK
  obtain ⟨rfl, hZ, hh⟩ := hP
  have hx := Bd.exec
  have hby := Bd.bytes
  have hml : c.maxLocals = 6 := hml0
  have hown : s.vm.findClass "com/example/rasterloom/rasterloom/op/InvertOpFilterRowsPinLaw" = some m.cls := findClass_of_methodNamed Bd.named
  have hnm := (name_of_methodNamed Bd.named Bd.method).1
  have X0 : Stand p l e ({ frames := 1, cells := 0, slots := 0, locals := 16 } : Room) s m #[(.ref a1), (.ref a2), (.int p3), (.int p4), (.int p5), (.int p6)] below meth c s₁ [] 0 0 := Stand.of_body Bd
  have e0 : s₁.heap = h0 := by rw [← hh, Bd.state]; rfl
  have N0 := Fr.nil n0
  show own_End p e below s (s₁.setTop (entryFrame m #[(.ref a1), (.ref a2), (.int p3), (.int p4), (.int p5), (.int p6)] 6)) (Q6 Z a1 a2 p3 p4 p5 p6 g gs h0 n0) ({ frames := 1, cells := 0, slots := 0, locals := 16 } : Room).cells ({ frames := 1, cells := 0, slots := 0, locals := 16 } : Room).slots
  refine own_pre (A := s₁.setTop (mkF m 0 #[.val (.ref a1), .val (.ref a2), .val (.int p3), .val (.int p4), .val (.int p5), .val (.int p6)] [])) (fun tt kt => castTop (ef_6 m a1 a2 p3 p4 p5 p6) kt) ?_
  show own_End p e below s (s₁.setTop (mkF m 0 #[.val (.ref a1), .val (.ref a2), .val (.int p3), .val (.int p4), .val (.int p5), .val (.int p6)] [])) (Q6 Z a1 a2 p3 p4 p5 p6 g gs h0 n0) ({ frames := 1, cells := 0, slots := 0, locals := 16 } : Room).cells ({ frames := 1, cells := 0, slots := 0, locals := 16 } : Room).slots
  have hj : own_cell p3 p4 p5 p6 g gs = own_cell p3 p4 p5 p6 g gs := rfl
  refine own_pre (A := s₁.setTop (mkF m 2 #[.val (.ref a1), .val (.ref a2), .val (.int p3), .val (.int p4), .val (.int p5), .val (.int p6)] [(.int p4), (.int p3)])) (fun tt kt => ?_) ?_
  · show Steps p.tables e below (s₁.setTop (mkF m 0 #[.val (.ref a1), .val (.ref a2), .val (.int p3), .val (.int p4), .val (.int p5), .val (.int p6)] [])) _
    refine XS.iloadN X0.here hx rfl (hb hby d6_0) rfl ?_
    refine XS.iloadN X0.here hx rfl (hb hby d6_1) rfl ?_
    exact kt
  show own_End p e below s (s₁.setTop (mkF m 2 #[.val (.ref a1), .val (.ref a2), .val (.int p3), .val (.int p4), .val (.int p5), .val (.int p6)] [(.int p4), (.int p3)])) (Q6 Z a1 a2 p3 p4 p5 p6 g gs h0 n0) ({ frames := 1, cells := 0, slots := 0, locals := 16 } : Room).cells ({ frames := 1, cells := 0, slots := 0, locals := 16 } : Room).slots
  by_cases hc2_1 : p3 < p4
  · obtain ⟨cl2, Ar2, S2, Nn2, G2⟩ := id V_a1
    have hin2 : ¬ (p3 < 0 ∨ cl2.slots.size ≤ p3.toNatClampNeg) := inb_of S2 (own_inb2 hp0 (by have z6 : (6 : Int32).toInt = 6 := (by decide); omega) : ¬ p3 < 0 ∧ p3 < (6 : Int32))
    have hat2 : cl2.slots[p3.toNatClampNeg]? = some (.int (g p3.toNatClampNeg)) := own_at S2 G2 hin2
    refine own_pre (A := s₁.setTop (mkF m 15 #[.val (.ref a1), .val (.ref a2), .val (.int p3), .val (.int p4), .val (.int p5), .val (.int p6)] [(.int (-1 : Int32)), (.int (g p3.toNatClampNeg))])) (fun tt kt => ?_) ?_
    · show Steps p.tables e below (s₁.setTop (mkF m 2 #[.val (.ref a1), .val (.ref a2), .val (.int p3), .val (.int p4), .val (.int p5), .val (.int p6)] [(.int p4), (.int p3)])) _
      refine XS.icmpYes X0.here hx rfl (pc0 := 2) (pc' := 11) rfl (hb hby d6_2) rfl (tlt hc2_1).1 (by decide) (by decide) ?_
      refine XS.aloadN X0.here hx rfl (hb hby d6_11) rfl rfl ?_
      refine XS.iloadN X0.here hx rfl (hb hby d6_12) rfl ?_
      show Steps p.tables e below (s₁.setTop (mkF m 13 #[.val (.ref a1), .val (.ref a2), .val (.int p3), .val (.int p4), .val (.int p5), .val (.int p6)] [(.int p3), (.ref a1)])) _
      refine X0.iaload hx (j := p3) (v := (.int (g p3.toNatClampNeg))) (by rw [e0]; exact Ar2.1) (State.isArrayOf_alike hZ.alike Ar2.2.1) Ar2.2.2 hin2 hat2 (g := (mkF m 13 #[.val (.ref a1), .val (.ref a2), .val (.int p3), .val (.int p4), .val (.int p5), .val (.int p6)] [(.int p3), (.ref a1)])) rfl rfl (hb hby d6_13) _ ?_
      show Steps p.tables e below (s₁.setTop (mkF m 14 #[.val (.ref a1), .val (.ref a2), .val (.int p3), .val (.int p4), .val (.int p5), .val (.int p6)] [(.int (g p3.toNatClampNeg))])) _
      refine XS.iconst X0.here hx rfl (hb hby d6_14) ?_
      exact kt
    show own_End p e below s (s₁.setTop (mkF m 15 #[.val (.ref a1), .val (.ref a2), .val (.int p3), .val (.int p4), .val (.int p5), .val (.int p6)] [(.int (-1 : Int32)), (.int (g p3.toNatClampNeg))])) (Q6 Z a1 a2 p3 p4 p5 p6 g gs h0 n0) ({ frames := 1, cells := 0, slots := 0, locals := 16 } : Room).cells ({ frames := 1, cells := 0, slots := 0, locals := 16 } : Room).slots
    by_cases hc15_3 : (g p3.toNatClampNeg) = (-1 : Int32)
    · refine own_pre (A := s₁.setTop (mkF m 23 #[.val (.ref a1), .val (.ref a2), .val (.int p3), .val (.int p4), .val (.int p5), .val (.int p6)] [(.int (1 : Int32))])) (fun tt kt => ?_) ?_
      · show Steps p.tables e below (s₁.setTop (mkF m 15 #[.val (.ref a1), .val (.ref a2), .val (.int p3), .val (.int p4), .val (.int p5), .val (.int p6)] [(.int (-1 : Int32)), (.int (g p3.toNatClampNeg))])) _
        refine XS.icmpNo X0.here hx rfl (hb hby d6_15) rfl (teq hc15_3).2 ?_
        refine XS.iconst X0.here hx rfl (hb hby d6_18) ?_
        refine XS.goto X0.here hx rfl (pc0 := 19) (pc' := 23) rfl (hb hby d6_19) (by decide) (by decide) ?_
        exact kt
      show own_End p e below s (s₁.setTop (mkF m 23 #[.val (.ref a1), .val (.ref a2), .val (.int p3), .val (.int p4), .val (.int p5), .val (.int p6)] [(.int (1 : Int32))])) (Q6 Z a1 a2 p3 p4 p5 p6 g gs h0 n0) ({ frames := 1, cells := 0, slots := 0, locals := 16 } : Room).cells ({ frames := 1, cells := 0, slots := 0, locals := 16 } : Room).slots
      have hv : (own_cell p3 p4 p5 p6 g gs) = (1 : Int32) := hj.trans (by simp only [own_cell, if_pos hc2_1, if_pos hc15_3])
      obtain ⟨fs, hr, hrun, hended, hW, hsame⟩ := X0.leave (v := some (.int (1 : Int32))) (fun h => by rw [Bd.returns] at h; cases h)
      refine ⟨_, _, ?_, hrun, hended, _, _, rfl, ?_, ⟨_, rfl⟩, hW, hsame.mono (by decide) (by decide)⟩
      · exact retN X0 hx (t := .boolean) Bd.returns (by simp) (hb hby d6_23) hr
      · show Q6 Z a1 a2 p3 p4 p5 p6 g gs h0 n0 _ s₁.heap _
        rw [e0]
        exact ⟨(congrArg (fun z => some (Value.int z)) hv.symm), N0, rfl⟩
    · refine own_pre (A := s₁.setTop (mkF m 23 #[.val (.ref a1), .val (.ref a2), .val (.int p3), .val (.int p4), .val (.int p5), .val (.int p6)] [(.int (0 : Int32))])) (fun tt kt => ?_) ?_
      · show Steps p.tables e below (s₁.setTop (mkF m 15 #[.val (.ref a1), .val (.ref a2), .val (.int p3), .val (.int p4), .val (.int p5), .val (.int p6)] [(.int (-1 : Int32)), (.int (g p3.toNatClampNeg))])) _
        refine XS.icmpYes X0.here hx rfl (pc0 := 15) (pc' := 22) rfl (hb hby d6_15) rfl (feq hc15_3).2 (by decide) (by decide) ?_
        refine XS.iconst X0.here hx rfl (hb hby d6_22) ?_
        exact kt
      show own_End p e below s (s₁.setTop (mkF m 23 #[.val (.ref a1), .val (.ref a2), .val (.int p3), .val (.int p4), .val (.int p5), .val (.int p6)] [(.int (0 : Int32))])) (Q6 Z a1 a2 p3 p4 p5 p6 g gs h0 n0) ({ frames := 1, cells := 0, slots := 0, locals := 16 } : Room).cells ({ frames := 1, cells := 0, slots := 0, locals := 16 } : Room).slots
      have hv : (own_cell p3 p4 p5 p6 g gs) = (0 : Int32) := hj.trans (by simp only [own_cell, if_pos hc2_1, if_neg hc15_3])
      obtain ⟨fs, hr, hrun, hended, hW, hsame⟩ := X0.leave (v := some (.int (0 : Int32))) (fun h => by rw [Bd.returns] at h; cases h)
      refine ⟨_, _, ?_, hrun, hended, _, _, rfl, ?_, ⟨_, rfl⟩, hW, hsame.mono (by decide) (by decide)⟩
      · exact retN X0 hx (t := .boolean) Bd.returns (by simp) (hb hby d6_23) hr
      · show Q6 Z a1 a2 p3 p4 p5 p6 g gs h0 n0 _ s₁.heap _
        rw [e0]
        exact ⟨(congrArg (fun z => some (Value.int z)) hv.symm), N0, rfl⟩
  · refine own_pre (A := s₁.setTop (mkF m 8 #[.val (.ref a1), .val (.ref a2), .val (.int p3), .val (.int p4), .val (.int p5), .val (.int p6)] [(.int p5), (.int p3)])) (fun tt kt => ?_) ?_
    · show Steps p.tables e below (s₁.setTop (mkF m 2 #[.val (.ref a1), .val (.ref a2), .val (.int p3), .val (.int p4), .val (.int p5), .val (.int p6)] [(.int p4), (.int p3)])) _
      refine XS.icmpNo X0.here hx rfl (hb hby d6_2) rfl (flt hc2_1).1 ?_
      refine XS.iloadN X0.here hx rfl (hb hby d6_5) rfl ?_
      refine XS.iload X0.here hx rfl (hb hby d6_6) rfl ?_
      exact kt
    show own_End p e below s (s₁.setTop (mkF m 8 #[.val (.ref a1), .val (.ref a2), .val (.int p3), .val (.int p4), .val (.int p5), .val (.int p6)] [(.int p5), (.int p3)])) (Q6 Z a1 a2 p3 p4 p5 p6 g gs h0 n0) ({ frames := 1, cells := 0, slots := 0, locals := 16 } : Room).cells ({ frames := 1, cells := 0, slots := 0, locals := 16 } : Room).slots
    by_cases hc8_4 : p3 < p5
    · obtain ⟨cl5, Ar5, S5, Nn5, G5⟩ := id V_a1
      have hin5 : ¬ (p3 < 0 ∨ cl5.slots.size ≤ p3.toNatClampNeg) := inb_of S5 (own_inb2 hp0 (by have z6 : (6 : Int32).toInt = 6 := (by decide); omega) : ¬ p3 < 0 ∧ p3 < (6 : Int32))
      have hat5 : cl5.slots[p3.toNatClampNeg]? = some (.int (g p3.toNatClampNeg)) := own_at S5 G5 hin5
      obtain ⟨cl6, Ar6, S6, Nn6, G6⟩ := id V_a2
      have hin6 : ¬ ((p3 - p6) < 0 ∨ cl6.slots.size ≤ (p3 - p6).toNatClampNeg) := inb_of S6 (own_sub hs0 (by have := own_nlt hc2_1; omega) (by have z6 : (6 : Int32).toInt = 6 := (by decide); omega) : ¬ (p3 - p6) < 0 ∧ (p3 - p6) < (6 : Int32))
      have hat6 : cl6.slots[(p3 - p6).toNatClampNeg]? = some (.int (gs (p3 - p6).toNatClampNeg)) := own_at S6 G6 hin6
      obtain ⟨_, _, ⟨T7, L7, k7, n7⟩, -, X7, ⟨Lc7, hQ7, l7, y7, z7⟩, st7⟩ := Jvm.LawKit.callS X0 hx (y := (⟨"com/example/rasterloom/rasterloom/op/InvertOpFilterRowsPinLaw", "inv", "(I)I"⟩ : MethodName)) hown (mvT hZ (hw _ (List.mem_of_getElem? (i := 29) rfl))) (mvT hZ (hw _ (List.mem_of_getElem? (i := 30) rfl))) (mvT hZ (hw _ (List.mem_of_getElem? (i := 26) rfl))) (mvT hZ (hw _ (List.mem_of_getElem? (i := 31) rfl))) (by decide) (backOf (W := 1) (rm7 l Z a0 hw [] (gs (p3 - p6).toNatClampNeg)  h0 n0 Z0 ) hZ (hw _ (List.mem_of_getElem? (i := 31) rfl)) (hw _ (List.mem_of_getElem? (i := 26) rfl)) (by decide) (by decide)) (g := (mkF m 33 #[.val (.ref a1), .val (.ref a2), .val (.int p3), .val (.int p4), .val (.int p5), .val (.int p6)] [(.int (gs (p3 - p6).toNatClampNeg)), (.int (g p3.toNatClampNeg))])) rfl (by rw [hml]; rfl) (argsL := [(.int (gs (p3 - p6).toNatClampNeg))]) (rest := [(.int (g p3.toNatClampNeg))]) (lenOf pd_6_0 rfl) rfl (by show 2 * 0 + _ ≤ _; exact Nat.le_of_eq rfl) (hb hby d6_33) (fun _ _ => ⟨rfl, e0, (by decide : 0 + 0 ≤ _), (by decide : 0 + 0 ≤ _)⟩)
      dsimp only [Pt.U, Pt.locs, Pt.cells, Pt.slots] at X7 l7 y7 z7 st7 hQ7
      subst l7 y7 z7
      obtain ⟨rfl, N7q, e7⟩ := hQ7
      have N7 := Fr.app N0 N7q
      refine own_pre (A := T7.setTop (mkF m 36 #[.val (.ref a1), .val (.ref a2), .val (.int p3), .val (.int p4), .val (.int p5), .val (.int p6)] [(.int (own_inv (gs (p3 - p6).toNatClampNeg))), (.int (g p3.toNatClampNeg))])) (fun tt kt => ?_) ?_
      · show Steps p.tables e below (s₁.setTop (mkF m 8 #[.val (.ref a1), .val (.ref a2), .val (.int p3), .val (.int p4), .val (.int p5), .val (.int p6)] [(.int p5), (.int p3)])) _
        refine XS.icmpYes X0.here hx rfl (pc0 := 8) (pc' := 24) rfl (hb hby d6_8) rfl (tlt hc8_4).1 (by decide) (by decide) ?_
        refine XS.aloadN X0.here hx rfl (hb hby d6_24) rfl rfl ?_
        refine XS.iloadN X0.here hx rfl (hb hby d6_25) rfl ?_
        show Steps p.tables e below (s₁.setTop (mkF m 26 #[.val (.ref a1), .val (.ref a2), .val (.int p3), .val (.int p4), .val (.int p5), .val (.int p6)] [(.int p3), (.ref a1)])) _
        refine X0.iaload hx (j := p3) (v := (.int (g p3.toNatClampNeg))) (by rw [e0]; exact Ar5.1) (State.isArrayOf_alike hZ.alike Ar5.2.1) Ar5.2.2 hin5 hat5 (g := (mkF m 26 #[.val (.ref a1), .val (.ref a2), .val (.int p3), .val (.int p4), .val (.int p5), .val (.int p6)] [(.int p3), (.ref a1)])) rfl rfl (hb hby d6_26) _ ?_
        show Steps p.tables e below (s₁.setTop (mkF m 27 #[.val (.ref a1), .val (.ref a2), .val (.int p3), .val (.int p4), .val (.int p5), .val (.int p6)] [(.int (g p3.toNatClampNeg))])) _
        refine XS.aloadN X0.here hx rfl (hb hby d6_27) rfl rfl ?_
        refine XS.iloadN X0.here hx rfl (hb hby d6_28) rfl ?_
        refine XS.iload X0.here hx rfl (hb hby d6_29) rfl ?_
        refine XS.isub X0.here hx rfl (hb hby d6_31) rfl ?_
        show Steps p.tables e below (s₁.setTop (mkF m 32 #[.val (.ref a1), .val (.ref a2), .val (.int p3), .val (.int p4), .val (.int p5), .val (.int p6)] [(.int (p3 - p6)), (.ref a2), (.int (g p3.toNatClampNeg))])) _
        refine X0.iaload hx (j := (p3 - p6)) (v := (.int (gs (p3 - p6).toNatClampNeg))) (by rw [e0]; exact Ar6.1) (State.isArrayOf_alike hZ.alike Ar6.2.1) Ar6.2.2 hin6 hat6 (g := (mkF m 32 #[.val (.ref a1), .val (.ref a2), .val (.int p3), .val (.int p4), .val (.int p5), .val (.int p6)] [(.int (p3 - p6)), (.ref a2), (.int (g p3.toNatClampNeg))])) rfl rfl (hb hby d6_32) _ ?_
        show Steps p.tables e below (s₁.setTop (mkF m 33 #[.val (.ref a1), .val (.ref a2), .val (.int p3), .val (.int p4), .val (.int p5), .val (.int p6)] [(.int (gs (p3 - p6).toNatClampNeg)), (.int (g p3.toNatClampNeg))])) _
        refine st7 _ ?_
        exact kt
      show own_End p e below s (T7.setTop (mkF m 36 #[.val (.ref a1), .val (.ref a2), .val (.int p3), .val (.int p4), .val (.int p5), .val (.int p6)] [(.int (own_inv (gs (p3 - p6).toNatClampNeg))), (.int (g p3.toNatClampNeg))])) (Q6 Z a1 a2 p3 p4 p5 p6 g gs h0 n0) ({ frames := 1, cells := 0, slots := 0, locals := 16 } : Room).cells ({ frames := 1, cells := 0, slots := 0, locals := 16 } : Room).slots
      by_cases hc36_8 : (g p3.toNatClampNeg) = (own_inv (gs (p3 - p6).toNatClampNeg))
      · refine own_pre (A := T7.setTop (mkF m 44 #[.val (.ref a1), .val (.ref a2), .val (.int p3), .val (.int p4), .val (.int p5), .val (.int p6)] [(.int (1 : Int32))])) (fun tt kt => ?_) ?_
        · show Steps p.tables e below (T7.setTop (mkF m 36 #[.val (.ref a1), .val (.ref a2), .val (.int p3), .val (.int p4), .val (.int p5), .val (.int p6)] [(.int (own_inv (gs (p3 - p6).toNatClampNeg))), (.int (g p3.toNatClampNeg))])) _
          refine XS.icmpNo X7.here hx rfl (hb hby d6_36) rfl (teq hc36_8).2 ?_
          refine XS.iconst X7.here hx rfl (hb hby d6_39) ?_
          refine XS.goto X7.here hx rfl (pc0 := 40) (pc' := 44) rfl (hb hby d6_40) (by decide) (by decide) ?_
          exact kt
        show own_End p e below s (T7.setTop (mkF m 44 #[.val (.ref a1), .val (.ref a2), .val (.int p3), .val (.int p4), .val (.int p5), .val (.int p6)] [(.int (1 : Int32))])) (Q6 Z a1 a2 p3 p4 p5 p6 g gs h0 n0) ({ frames := 1, cells := 0, slots := 0, locals := 16 } : Room).cells ({ frames := 1, cells := 0, slots := 0, locals := 16 } : Room).slots
        have hv : (own_cell p3 p4 p5 p6 g gs) = (1 : Int32) := hj.trans (by simp only [own_cell, if_neg hc2_1, if_pos hc8_4, if_pos hc36_8])
        obtain ⟨fs, hr, hrun, hended, hW, hsame⟩ := X7.leave (v := some (.int (1 : Int32))) (fun h => by rw [Bd.returns] at h; cases h)
        refine ⟨_, _, ?_, hrun, hended, _, _, rfl, ?_, ⟨_, rfl⟩, hW, hsame.mono (by decide) (by decide)⟩
        · exact retN X7 hx (t := .boolean) Bd.returns (by simp) (hb hby d6_44) hr
        · show Q6 Z a1 a2 p3 p4 p5 p6 g gs h0 n0 _ T7.heap _
          rw [e7]
          exact ⟨(congrArg (fun z => some (Value.int z)) hv.symm), N7, rfl⟩
      · refine own_pre (A := T7.setTop (mkF m 44 #[.val (.ref a1), .val (.ref a2), .val (.int p3), .val (.int p4), .val (.int p5), .val (.int p6)] [(.int (0 : Int32))])) (fun tt kt => ?_) ?_
        · show Steps p.tables e below (T7.setTop (mkF m 36 #[.val (.ref a1), .val (.ref a2), .val (.int p3), .val (.int p4), .val (.int p5), .val (.int p6)] [(.int (own_inv (gs (p3 - p6).toNatClampNeg))), (.int (g p3.toNatClampNeg))])) _
          refine XS.icmpYes X7.here hx rfl (pc0 := 36) (pc' := 43) rfl (hb hby d6_36) rfl (feq hc36_8).2 (by decide) (by decide) ?_
          refine XS.iconst X7.here hx rfl (hb hby d6_43) ?_
          exact kt
        show own_End p e below s (T7.setTop (mkF m 44 #[.val (.ref a1), .val (.ref a2), .val (.int p3), .val (.int p4), .val (.int p5), .val (.int p6)] [(.int (0 : Int32))])) (Q6 Z a1 a2 p3 p4 p5 p6 g gs h0 n0) ({ frames := 1, cells := 0, slots := 0, locals := 16 } : Room).cells ({ frames := 1, cells := 0, slots := 0, locals := 16 } : Room).slots
        have hv : (own_cell p3 p4 p5 p6 g gs) = (0 : Int32) := hj.trans (by simp only [own_cell, if_neg hc2_1, if_pos hc8_4, if_neg hc36_8])
        obtain ⟨fs, hr, hrun, hended, hW, hsame⟩ := X7.leave (v := some (.int (0 : Int32))) (fun h => by rw [Bd.returns] at h; cases h)
        refine ⟨_, _, ?_, hrun, hended, _, _, rfl, ?_, ⟨_, rfl⟩, hW, hsame.mono (by decide) (by decide)⟩
        · exact retN X7 hx (t := .boolean) Bd.returns (by simp) (hb hby d6_44) hr
        · show Q6 Z a1 a2 p3 p4 p5 p6 g gs h0 n0 _ T7.heap _
          rw [e7]
          exact ⟨(congrArg (fun z => some (Value.int z)) hv.symm), N7, rfl⟩
    · obtain ⟨cl9, Ar9, S9, Nn9, G9⟩ := id V_a1
      have hin9 : ¬ (p3 < 0 ∨ cl9.slots.size ≤ p3.toNatClampNeg) := inb_of S9 (own_inb2 hp0 (by have z6 : (6 : Int32).toInt = 6 := (by decide); omega) : ¬ p3 < 0 ∧ p3 < (6 : Int32))
      have hat9 : cl9.slots[p3.toNatClampNeg]? = some (.int (g p3.toNatClampNeg)) := own_at S9 G9 hin9
      refine own_pre (A := s₁.setTop (mkF m 15 #[.val (.ref a1), .val (.ref a2), .val (.int p3), .val (.int p4), .val (.int p5), .val (.int p6)] [(.int (-1 : Int32)), (.int (g p3.toNatClampNeg))])) (fun tt kt => ?_) ?_
      · show Steps p.tables e below (s₁.setTop (mkF m 8 #[.val (.ref a1), .val (.ref a2), .val (.int p3), .val (.int p4), .val (.int p5), .val (.int p6)] [(.int p5), (.int p3)])) _
        refine XS.icmpNo X0.here hx rfl (hb hby d6_8) rfl (flt hc8_4).1 ?_
        refine XS.aloadN X0.here hx rfl (hb hby d6_11) rfl rfl ?_
        refine XS.iloadN X0.here hx rfl (hb hby d6_12) rfl ?_
        show Steps p.tables e below (s₁.setTop (mkF m 13 #[.val (.ref a1), .val (.ref a2), .val (.int p3), .val (.int p4), .val (.int p5), .val (.int p6)] [(.int p3), (.ref a1)])) _
        refine X0.iaload hx (j := p3) (v := (.int (g p3.toNatClampNeg))) (by rw [e0]; exact Ar9.1) (State.isArrayOf_alike hZ.alike Ar9.2.1) Ar9.2.2 hin9 hat9 (g := (mkF m 13 #[.val (.ref a1), .val (.ref a2), .val (.int p3), .val (.int p4), .val (.int p5), .val (.int p6)] [(.int p3), (.ref a1)])) rfl rfl (hb hby d6_13) _ ?_
        show Steps p.tables e below (s₁.setTop (mkF m 14 #[.val (.ref a1), .val (.ref a2), .val (.int p3), .val (.int p4), .val (.int p5), .val (.int p6)] [(.int (g p3.toNatClampNeg))])) _
        refine XS.iconst X0.here hx rfl (hb hby d6_14) ?_
        exact kt
      show own_End p e below s (s₁.setTop (mkF m 15 #[.val (.ref a1), .val (.ref a2), .val (.int p3), .val (.int p4), .val (.int p5), .val (.int p6)] [(.int (-1 : Int32)), (.int (g p3.toNatClampNeg))])) (Q6 Z a1 a2 p3 p4 p5 p6 g gs h0 n0) ({ frames := 1, cells := 0, slots := 0, locals := 16 } : Room).cells ({ frames := 1, cells := 0, slots := 0, locals := 16 } : Room).slots
      by_cases hc15_10 : (g p3.toNatClampNeg) = (-1 : Int32)
      · refine own_pre (A := s₁.setTop (mkF m 23 #[.val (.ref a1), .val (.ref a2), .val (.int p3), .val (.int p4), .val (.int p5), .val (.int p6)] [(.int (1 : Int32))])) (fun tt kt => ?_) ?_
        · show Steps p.tables e below (s₁.setTop (mkF m 15 #[.val (.ref a1), .val (.ref a2), .val (.int p3), .val (.int p4), .val (.int p5), .val (.int p6)] [(.int (-1 : Int32)), (.int (g p3.toNatClampNeg))])) _
          refine XS.icmpNo X0.here hx rfl (hb hby d6_15) rfl (teq hc15_10).2 ?_
          refine XS.iconst X0.here hx rfl (hb hby d6_18) ?_
          refine XS.goto X0.here hx rfl (pc0 := 19) (pc' := 23) rfl (hb hby d6_19) (by decide) (by decide) ?_
          exact kt
        show own_End p e below s (s₁.setTop (mkF m 23 #[.val (.ref a1), .val (.ref a2), .val (.int p3), .val (.int p4), .val (.int p5), .val (.int p6)] [(.int (1 : Int32))])) (Q6 Z a1 a2 p3 p4 p5 p6 g gs h0 n0) ({ frames := 1, cells := 0, slots := 0, locals := 16 } : Room).cells ({ frames := 1, cells := 0, slots := 0, locals := 16 } : Room).slots
        have hv : (own_cell p3 p4 p5 p6 g gs) = (1 : Int32) := hj.trans (by simp only [own_cell, if_neg hc2_1, if_neg hc8_4, if_pos hc15_10])
        obtain ⟨fs, hr, hrun, hended, hW, hsame⟩ := X0.leave (v := some (.int (1 : Int32))) (fun h => by rw [Bd.returns] at h; cases h)
        refine ⟨_, _, ?_, hrun, hended, _, _, rfl, ?_, ⟨_, rfl⟩, hW, hsame.mono (by decide) (by decide)⟩
        · exact retN X0 hx (t := .boolean) Bd.returns (by simp) (hb hby d6_23) hr
        · show Q6 Z a1 a2 p3 p4 p5 p6 g gs h0 n0 _ s₁.heap _
          rw [e0]
          exact ⟨(congrArg (fun z => some (Value.int z)) hv.symm), N0, rfl⟩
      · refine own_pre (A := s₁.setTop (mkF m 23 #[.val (.ref a1), .val (.ref a2), .val (.int p3), .val (.int p4), .val (.int p5), .val (.int p6)] [(.int (0 : Int32))])) (fun tt kt => ?_) ?_
        · show Steps p.tables e below (s₁.setTop (mkF m 15 #[.val (.ref a1), .val (.ref a2), .val (.int p3), .val (.int p4), .val (.int p5), .val (.int p6)] [(.int (-1 : Int32)), (.int (g p3.toNatClampNeg))])) _
          refine XS.icmpYes X0.here hx rfl (pc0 := 15) (pc' := 22) rfl (hb hby d6_15) rfl (feq hc15_10).2 (by decide) (by decide) ?_
          refine XS.iconst X0.here hx rfl (hb hby d6_22) ?_
          exact kt
        show own_End p e below s (s₁.setTop (mkF m 23 #[.val (.ref a1), .val (.ref a2), .val (.int p3), .val (.int p4), .val (.int p5), .val (.int p6)] [(.int (0 : Int32))])) (Q6 Z a1 a2 p3 p4 p5 p6 g gs h0 n0) ({ frames := 1, cells := 0, slots := 0, locals := 16 } : Room).cells ({ frames := 1, cells := 0, slots := 0, locals := 16 } : Room).slots
        have hv : (own_cell p3 p4 p5 p6 g gs) = (0 : Int32) := hj.trans (by simp only [own_cell, if_neg hc2_1, if_neg hc8_4, if_neg hc15_10])
        obtain ⟨fs, hr, hrun, hended, hW, hsame⟩ := X0.leave (v := some (.int (0 : Int32))) (fun h => by rw [Bd.returns] at h; cases h)
        refine ⟨_, _, ?_, hrun, hended, _, _, rfl, ?_, ⟨_, rfl⟩, hW, hsame.mono (by decide) (by decide)⟩
        · exact retN X0 hx (t := .boolean) Bd.returns (by simp) (hb hby d6_23) hr
        · show Q6 Z a1 a2 p3 p4 p5 p6 g gs h0 n0 _ s₁.heap _
          rw [e0]
          exact ⟨(congrArg (fun z => some (Value.int z)) hv.symm), N0, rfl⟩
def own_b0_g5 (p1 : Int32) (p2 : Int32) (p3 : Int32) (p4 : Int32) (q5 : Int64) (p6 : Int32) (w : Int32) (hh : Int32) (fi : Int32) (en : Int32) (tp : Int32) : Nat → Int32 := fun ii => if ii = 0 then p1 else (fun _ => (0 : Int32)) ii
def own_b0_g8 (p1 : Int32) (p2 : Int32) (p3 : Int32) (p4 : Int32) (q5 : Int64) (p6 : Int32) (w : Int32) (hh : Int32) (fi : Int32) (en : Int32) (tp : Int32) : Nat → Int32 := fun ii => if ii = 1 then p2 else (own_b0_g5 p1 p2 p3 p4 q5 p6 w hh fi en tp) ii
def own_b0_g11 (p1 : Int32) (p2 : Int32) (p3 : Int32) (p4 : Int32) (q5 : Int64) (p6 : Int32) (w : Int32) (hh : Int32) (fi : Int32) (en : Int32) (tp : Int32) : Nat → Int32 := fun ii => if ii = 2 then p3 else (own_b0_g8 p1 p2 p3 p4 q5 p6 w hh fi en tp) ii
def own_b0_g14 (p1 : Int32) (p2 : Int32) (p3 : Int32) (p4 : Int32) (q5 : Int64) (p6 : Int32) (w : Int32) (hh : Int32) (fi : Int32) (en : Int32) (tp : Int32) : Nat → Int32 := fun ii => if ii = 3 then p4 else (own_b0_g11 p1 p2 p3 p4 q5 p6 w hh fi en tp) ii
def own_b0_g17 (p1 : Int32) (p2 : Int32) (p3 : Int32) (p4 : Int32) (q5 : Int64) (p6 : Int32) (w : Int32) (hh : Int32) (fi : Int32) (en : Int32) (tp : Int32) : Nat → Int32 := fun ii => if ii = 4 then (q5.toInt32) else (own_b0_g14 p1 p2 p3 p4 q5 p6 w hh fi en tp) ii
def own_b0_g20 (p1 : Int32) (p2 : Int32) (p3 : Int32) (p4 : Int32) (q5 : Int64) (p6 : Int32) (w : Int32) (hh : Int32) (fi : Int32) (en : Int32) (tp : Int32) : Nat → Int32 := fun ii => if ii = 5 then (((q5.toUInt64 >>> ((32 : Int32) &&& 0x3f).toInt64.toUInt64).toInt64).toInt32) else (own_b0_g17 p1 p2 p3 p4 q5 p6 w hh fi en tp) ii
def own_b0_g24 (p1 : Int32) (p2 : Int32) (p3 : Int32) (p4 : Int32) (q5 : Int64) (p6 : Int32) (w : Int32) (hh : Int32) (fi : Int32) (en : Int32) (tp : Int32) : Nat → Int32 := fun ii => if ii = 0 then (-1 : Int32) else (fun _ => (0 : Int32)) ii
def own_b0_g27 (p1 : Int32) (p2 : Int32) (p3 : Int32) (p4 : Int32) (q5 : Int64) (p6 : Int32) (w : Int32) (hh : Int32) (fi : Int32) (en : Int32) (tp : Int32) : Nat → Int32 := fun ii => if ii = 1 then (-1 : Int32) else (own_b0_g24 p1 p2 p3 p4 q5 p6 w hh fi en tp) ii
def own_b0_g30 (p1 : Int32) (p2 : Int32) (p3 : Int32) (p4 : Int32) (q5 : Int64) (p6 : Int32) (w : Int32) (hh : Int32) (fi : Int32) (en : Int32) (tp : Int32) : Nat → Int32 := fun ii => if ii = 2 then (-1 : Int32) else (own_b0_g27 p1 p2 p3 p4 q5 p6 w hh fi en tp) ii
def own_b0_g33 (p1 : Int32) (p2 : Int32) (p3 : Int32) (p4 : Int32) (q5 : Int64) (p6 : Int32) (w : Int32) (hh : Int32) (fi : Int32) (en : Int32) (tp : Int32) : Nat → Int32 := fun ii => if ii = 3 then (-1 : Int32) else (own_b0_g30 p1 p2 p3 p4 q5 p6 w hh fi en tp) ii
def own_b0_g36 (p1 : Int32) (p2 : Int32) (p3 : Int32) (p4 : Int32) (q5 : Int64) (p6 : Int32) (w : Int32) (hh : Int32) (fi : Int32) (en : Int32) (tp : Int32) : Nat → Int32 := fun ii => if ii = 4 then (-1 : Int32) else (own_b0_g33 p1 p2 p3 p4 q5 p6 w hh fi en tp) ii
def own_b0_g39 (p1 : Int32) (p2 : Int32) (p3 : Int32) (p4 : Int32) (q5 : Int64) (p6 : Int32) (w : Int32) (hh : Int32) (fi : Int32) (en : Int32) (tp : Int32) : Nat → Int32 := fun ii => if ii = 5 then (-1 : Int32) else (own_b0_g36 p1 p2 p3 p4 q5 p6 w hh fi en tp) ii
def own_law_62 (p1 : Int32) (p2 : Int32) (p3 : Int32) (p4 : Int32) (q5 : Int64) (p6 : Int32) (w : Int32) (hh : Int32) (fi : Int32) (en : Int32) (tp : Int32) : Int32 := (if (own_cell (0 : Int32) (fi * w) (en * w) (tp * w) (own_rows tp w hh fi en (own_b0_g20 p1 p2 p3 p4 q5 p6 w hh fi en tp) (own_b0_g39 p1 p2 p3 p4 q5 p6 w hh fi en tp)) (own_b0_g20 p1 p2 p3 p4 q5 p6 w hh fi en tp)) = (0 : Int32) then (0 : Int32) else (if (own_cell (1 : Int32) (fi * w) (en * w) (tp * w) (own_rows tp w hh fi en (own_b0_g20 p1 p2 p3 p4 q5 p6 w hh fi en tp) (own_b0_g39 p1 p2 p3 p4 q5 p6 w hh fi en tp)) (own_b0_g20 p1 p2 p3 p4 q5 p6 w hh fi en tp)) = (0 : Int32) then (0 : Int32) else (if (own_cell (2 : Int32) (fi * w) (en * w) (tp * w) (own_rows tp w hh fi en (own_b0_g20 p1 p2 p3 p4 q5 p6 w hh fi en tp) (own_b0_g39 p1 p2 p3 p4 q5 p6 w hh fi en tp)) (own_b0_g20 p1 p2 p3 p4 q5 p6 w hh fi en tp)) = (0 : Int32) then (0 : Int32) else (if (own_cell (3 : Int32) (fi * w) (en * w) (tp * w) (own_rows tp w hh fi en (own_b0_g20 p1 p2 p3 p4 q5 p6 w hh fi en tp) (own_b0_g39 p1 p2 p3 p4 q5 p6 w hh fi en tp)) (own_b0_g20 p1 p2 p3 p4 q5 p6 w hh fi en tp)) = (0 : Int32) then (0 : Int32) else (if (own_cell (4 : Int32) (fi * w) (en * w) (tp * w) (own_rows tp w hh fi en (own_b0_g20 p1 p2 p3 p4 q5 p6 w hh fi en tp) (own_b0_g39 p1 p2 p3 p4 q5 p6 w hh fi en tp)) (own_b0_g20 p1 p2 p3 p4 q5 p6 w hh fi en tp)) = (0 : Int32) then (0 : Int32) else (if (own_cell (5 : Int32) (fi * w) (en * w) (tp * w) (own_rows tp w hh fi en (own_b0_g20 p1 p2 p3 p4 q5 p6 w hh fi en tp) (own_b0_g39 p1 p2 p3 p4 q5 p6 w hh fi en tp)) (own_b0_g20 p1 p2 p3 p4 q5 p6 w hh fi en tp)) = (0 : Int32) then (0 : Int32) else (1 : Int32)))))))
def own_law_52 (p1 : Int32) (p2 : Int32) (p3 : Int32) (p4 : Int32) (q5 : Int64) (p6 : Int32) (w : Int32) (hh : Int32) (fi : Int32) (en : Int32) : Int32 := (own_law_62 p1 p2 p3 p4 q5 p6 w hh fi en (own_max (fi - (1 : Int32)) (0 : Int32)))
def own_law_33 (p1 : Int32) (p2 : Int32) (p3 : Int32) (p4 : Int32) (q5 : Int64) (p6 : Int32) (w : Int32) (hh : Int32) (fi : Int32) : Int32 := (own_law_52 p1 p2 p3 p4 q5 p6 w hh fi (fi + ((((p6.toUInt32 >>> ((5 : Int32) &&& 31).toUInt32).toInt32) &&& (3 : Int32)) % ((hh - fi) + (1 : Int32)))))
def own_law_20 (p1 : Int32) (p2 : Int32) (p3 : Int32) (p4 : Int32) (q5 : Int64) (p6 : Int32) (w : Int32) (hh : Int32) : Int32 := (own_law_33 p1 p2 p3 p4 q5 p6 w hh ((((p6.toUInt32 >>> ((3 : Int32) &&& 31).toUInt32).toInt32) &&& (3 : Int32)) % (hh + (1 : Int32))))
def own_law_8 (p1 : Int32) (p2 : Int32) (p3 : Int32) (p4 : Int32) (q5 : Int64) (p6 : Int32) (w : Int32) : Int32 := (own_law_20 p1 p2 p3 p4 q5 p6 w ((1 : Int32) + ((((p6.toUInt32 >>> ((1 : Int32) &&& 31).toUInt32).toInt32) &&& (3 : Int32)) % (3 : Int32))))
def own_law (p1 : Int32) (p2 : Int32) (p3 : Int32) (p4 : Int32) (q5 : Int64) (p6 : Int32) : Int32 := (own_law_8 p1 p2 p3 p4 q5 p6 ((1 : Int32) + (p6 &&& (1 : Int32))))
theorem pn_0 : plainName "com/example/rasterloom/rasterloom/op/InvertOpFilterRowsPinLaw" = true := by first | (simp [plainName, overriddenIn]; done) | decide +kernel
theorem pd_0_0 : parseMethodDescriptor "(II)I" = some ⟨[.int, .int], some .int⟩ := by decide +kernel
theorem pd_0_1 : parseMethodDescriptor "()V" = some ⟨[], none⟩ := by decide +kernel
theorem pd_0_2 : parseMethodDescriptor "([IIIIII[I)V" = some ⟨[(.array .int), .int, .int, .int, .int, .int, (.array .int)], none⟩ := by decide +kernel
theorem pd_0_3 : parseMethodDescriptor "([I[IIIII)Z" = some ⟨[(.array .int), (.array .int), .int, .int, .int, .int], some .boolean⟩ := by decide +kernel
theorem ef_0 (m : MethodId) (x0 : Int32) (x1 : Int32) (x2 : Int32) (x3 : Int32) (x4 : Int64) (x5 : Int32) : entryFrame m #[(.int x0), (.int x1), (.int x2), (.int x3), (.long x4), (.int x5)] maxLocals = mkF m 0 #[.val (.int x0), .val (.int x1), .val (.int x2), .val (.int x3), .val (.long x4), .second, .val (.int x5), .unset, .unset, .unset, .unset, .unset, .unset, .unset, .unset, .unset, .unset, .unset] [] := by first | (simp [entryFrame, mkF, argsToLocals, Value.category, maxLocals]; done) | rfl
def Q0 (Z : State) (p1 : Int32) (p2 : Int32) (p3 : Int32) (p4 : Int32) (q5 : Int64) (p6 : Int32) (h0 : Heap) (n0 : Nat) (v : Option Value) (h : Heap) (L : List Loc) : Prop := v = some (.int (own_law p1 p2 p3 p4 q5 p6)) ∧ Fr n0 L
set_option maxRecDepth 65536 in
set_option maxHeartbeats 40000000 in
theorem rm0 (l : Launch) (Z : State) (a0 : Array Value) (hw : ∀ d ∈ tables_1, d.before a0 Z = true) (ws : List Jvm.Cond) (p1 : Int32) (p2 : Int32) (p3 : Int32) (p4 : Int32) (q5 : Int64) (p6 : Int32) (h0 : Heap) (n0 : Nat) (Z0 : n0 ≤ h0.size) :
    MetFree l x (head1 (Jvm.Cond.code x code maxLocals ret :: ws) room_1) (fun a U => a = #[(.int p1), (.int p2), (.int p3), (.int p4), (.long q5), (.int p6)] ∧ Z.Warmed39 U.vm ∧ U.heap = h0) (fun _ _ _ _ _ => True) (fun _ U o U' => ∃ v L, o = .returned v ∧ Q0 Z p1 p2 p3 p4 q5 p6 h0 n0 v U'.heap L ∧ FrameEnd U o U' L room_1.cells room_1.slots) := by
  refine MetFree.of_bodySF (plainFor_of_name pn_0) hisR ?_
  intro p e s m args below meth c s₁ Bd hml0 hP hK
  obtain ⟨rfl, hZ, hh⟩ := hP
  have hx := Bd.exec
  have hby := Bd.bytes
  have hml : c.maxLocals = 18 := hml0
  have hown : s.vm.findClass "com/example/rasterloom/rasterloom/op/InvertOpFilterRowsPinLaw" = some m.cls := findClass_of_methodNamed Bd.named
  have hnm := (name_of_methodNamed Bd.named Bd.method).1
  have X0 : Stand p l e room_1 s m #[(.int p1), (.int p2), (.int p3), (.int p4), (.long q5), (.int p6)] below meth c s₁ [] 0 0 := Stand.of_body Bd
  have e0 : s₁.heap = h0 := by rw [← hh, Bd.state]; rfl
  have N0 := Fr.nil n0
  show own_End p e below s (s₁.setTop (entryFrame m #[(.int p1), (.int p2), (.int p3), (.int p4), (.long q5), (.int p6)] maxLocals)) (Q0 Z p1 p2 p3 p4 q5 p6 h0 n0) room_1.cells room_1.slots
  refine own_pre (A := s₁.setTop (mkF m 0 #[.val (.int p1), .val (.int p2), .val (.int p3), .val (.int p4), .val (.long q5), .second, .val (.int p6), .unset, .unset, .unset, .unset, .unset, .unset, .unset, .unset, .unset, .unset, .unset] [])) (fun tt kt => castTop (ef_0 m p1 p2 p3 p4 q5 p6) kt) ?_
  show own_End p e below s (s₁.setTop (mkF m 0 #[.val (.int p1), .val (.int p2), .val (.int p3), .val (.int p4), .val (.long q5), .second, .val (.int p6), .unset, .unset, .unset, .unset, .unset, .unset, .unset, .unset, .unset, .unset, .unset] [])) (Q0 Z p1 p2 p3 p4 q5 p6 h0 n0) room_1.cells room_1.slots
  have hj : own_law p1 p2 p3 p4 q5 p6 = own_law p1 p2 p3 p4 q5 p6 := rfl
  refine own_pre (A := s₁.setTop (mkF m 8 #[.val (.int p1), .val (.int p2), .val (.int p3), .val (.int p4), .val (.long q5), .second, .val (.int p6), .val (.int ((1 : Int32) + (p6 &&& (1 : Int32)))), .unset, .unset, .unset, .unset, .unset, .unset, .unset, .unset, .unset, .unset] [])) (fun tt kt => ?_) ?_
  · show Steps p.tables e below (s₁.setTop (mkF m 0 #[.val (.int p1), .val (.int p2), .val (.int p3), .val (.int p4), .val (.long q5), .second, .val (.int p6), .unset, .unset, .unset, .unset, .unset, .unset, .unset, .unset, .unset, .unset, .unset] [])) _
    refine XS.iconst X0.here hx rfl (hb hby at_0) ?_
    refine XS.iload X0.here hx rfl (hb hby at_1) rfl ?_
    refine XS.iconst X0.here hx rfl (hb hby at_3) ?_
    refine XS.iand X0.here hx rfl (hb hby at_4) rfl ?_
    show Steps p.tables e below (s₁.setTop (mkF m 5 #[.val (.int p1), .val (.int p2), .val (.int p3), .val (.int p4), .val (.long q5), .second, .val (.int p6), .unset, .unset, .unset, .unset, .unset, .unset, .unset, .unset, .unset, .unset, .unset] [(.int (p6 &&& (1 : Int32))), (.int (1 : Int32))])) _
    refine XS.iadd X0.here hx rfl (hb hby at_5) rfl ?_
    refine XS.istore X0.here hx rfl (hb hby at_6) rfl (l' := #[.val (.int p1), .val (.int p2), .val (.int p3), .val (.int p4), .val (.long q5), .second, .val (.int p6), .val (.int ((1 : Int32) + (p6 &&& (1 : Int32)))), .unset, .unset, .unset, .unset, .unset, .unset, .unset, .unset, .unset, .unset]) rfl ?_
    exact kt
  show own_End p e below s (s₁.setTop (mkF m 8 #[.val (.int p1), .val (.int p2), .val (.int p3), .val (.int p4), .val (.long q5), .second, .val (.int p6), .val (.int ((1 : Int32) + (p6 &&& (1 : Int32)))), .unset, .unset, .unset, .unset, .unset, .unset, .unset, .unset, .unset, .unset] [])) (Q0 Z p1 p2 p3 p4 q5 p6 h0 n0) room_1.cells room_1.slots
  have j8 : ∀ (Tj8 : State) (Lj8 : List Loc) (Xj8 : Stand p l e room_1 s m #[(.int p1), (.int p2), (.int p3), (.int p4), (.long q5), (.int p6)] below meth c Tj8 Lj8 0 0) (ej8 : Tj8.heap = h0) (Nj8 : Fr n0 Lj8) (w : Int32) (hwd : w.toInt = 1 ∨ w.toInt = 2), own_law p1 p2 p3 p4 q5 p6 = own_law_8 p1 p2 p3 p4 q5 p6 w → own_End p e below s (Tj8.setTop (mkF m 8 #[.val (.int p1), .val (.int p2), .val (.int p3), .val (.int p4), .val (.long q5), .second, .val (.int p6), .val (.int w), .unset, .unset, .unset, .unset, .unset, .unset, .unset, .unset, .unset, .unset] [])) (Q0 Z p1 p2 p3 p4 q5 p6 h0 n0) room_1.cells room_1.slots := by
    intro Tj8 Lj8 Xj8 ej8 Nj8 w hwd hj
    refine own_pre (A := Tj8.setTop (mkF m 20 #[.val (.int p1), .val (.int p2), .val (.int p3), .val (.int p4), .val (.long q5), .second, .val (.int p6), .val (.int w), .val (.int ((1 : Int32) + ((((p6.toUInt32 >>> ((1 : Int32) &&& 31).toUInt32).toInt32) &&& (3 : Int32)) % (3 : Int32)))), .unset, .unset, .unset, .unset, .unset, .unset, .unset, .unset, .unset] [])) (fun tt kt => ?_) ?_
    · show Steps p.tables e below (Tj8.setTop (mkF m 8 #[.val (.int p1), .val (.int p2), .val (.int p3), .val (.int p4), .val (.long q5), .second, .val (.int p6), .val (.int w), .unset, .unset, .unset, .unset, .unset, .unset, .unset, .unset, .unset, .unset] [])) _
      refine XS.iconst Xj8.here hx rfl (hb hby at_8) ?_
      refine XS.iload Xj8.here hx rfl (hb hby at_9) rfl ?_
      refine XS.iconst Xj8.here hx rfl (hb hby at_11) ?_
      refine XS.iushr Xj8.here hx rfl (hb hby at_12) rfl ?_
      show Steps p.tables e below (Tj8.setTop (mkF m 13 #[.val (.int p1), .val (.int p2), .val (.int p3), .val (.int p4), .val (.long q5), .second, .val (.int p6), .val (.int w), .unset, .unset, .unset, .unset, .unset, .unset, .unset, .unset, .unset, .unset] [(.int ((p6.toUInt32 >>> ((1 : Int32) &&& 31).toUInt32).toInt32)), (.int (1 : Int32))])) _
      refine XS.iconst Xj8.here hx rfl (hb hby at_13) ?_
      refine XS.iand Xj8.here hx rfl (hb hby at_14) rfl ?_
      refine XS.iconst Xj8.here hx rfl (hb hby at_15) ?_
      refine iremM Xj8 hx rfl (hb hby at_16) rfl (by decide : ¬ ((3 : Int32) = (0 : Int32))) ?_
      show Steps p.tables e below (Tj8.setTop (mkF m 17 #[.val (.int p1), .val (.int p2), .val (.int p3), .val (.int p4), .val (.long q5), .second, .val (.int p6), .val (.int w), .unset, .unset, .unset, .unset, .unset, .unset, .unset, .unset, .unset, .unset] [(.int ((((p6.toUInt32 >>> ((1 : Int32) &&& 31).toUInt32).toInt32) &&& (3 : Int32)) % (3 : Int32))), (.int (1 : Int32))])) _
      refine XS.iadd Xj8.here hx rfl (hb hby at_17) rfl ?_
      refine XS.istore Xj8.here hx rfl (hb hby at_18) rfl (l' := #[.val (.int p1), .val (.int p2), .val (.int p3), .val (.int p4), .val (.long q5), .second, .val (.int p6), .val (.int w), .val (.int ((1 : Int32) + ((((p6.toUInt32 >>> ((1 : Int32) &&& 31).toUInt32).toInt32) &&& (3 : Int32)) % (3 : Int32)))), .unset, .unset, .unset, .unset, .unset, .unset, .unset, .unset, .unset]) rfl ?_
      exact kt
    show own_End p e below s (Tj8.setTop (mkF m 20 #[.val (.int p1), .val (.int p2), .val (.int p3), .val (.int p4), .val (.long q5), .second, .val (.int p6), .val (.int w), .val (.int ((1 : Int32) + ((((p6.toUInt32 >>> ((1 : Int32) &&& 31).toUInt32).toInt32) &&& (3 : Int32)) % (3 : Int32)))), .unset, .unset, .unset, .unset, .unset, .unset, .unset, .unset, .unset] [])) (Q0 Z p1 p2 p3 p4 q5 p6 h0 n0) room_1.cells room_1.slots
    have j20 : ∀ (Tj20 : State) (Lj20 : List Loc) (Xj20 : Stand p l e room_1 s m #[(.int p1), (.int p2), (.int p3), (.int p4), (.long q5), (.int p6)] below meth c Tj20 Lj20 0 0) (ej20 : Tj20.heap = h0) (Nj20 : Fr n0 Lj20) (hh : Int32) (hh1 : 1 ≤ hh.toInt ∧ hh.toInt ≤ 3), own_law p1 p2 p3 p4 q5 p6 = own_law_20 p1 p2 p3 p4 q5 p6 w hh → own_End p e below s (Tj20.setTop (mkF m 20 #[.val (.int p1), .val (.int p2), .val (.int p3), .val (.int p4), .val (.long q5), .second, .val (.int p6), .val (.int w), .val (.int hh), .unset, .unset, .unset, .unset, .unset, .unset, .unset, .unset, .unset] [])) (Q0 Z p1 p2 p3 p4 q5 p6 h0 n0) room_1.cells room_1.slots := by
      intro Tj20 Lj20 Xj20 ej20 Nj20 hh hh1 hj
      refine own_pre (A := Tj20.setTop (mkF m 33 #[.val (.int p1), .val (.int p2), .val (.int p3), .val (.int p4), .val (.long q5), .second, .val (.int p6), .val (.int w), .val (.int hh), .val (.int ((((p6.toUInt32 >>> ((3 : Int32) &&& 31).toUInt32).toInt32) &&& (3 : Int32)) % (hh + (1 : Int32)))), .unset, .unset, .unset, .unset, .unset, .unset, .unset, .unset] [])) (fun tt kt => ?_) ?_
      · show Steps p.tables e below (Tj20.setTop (mkF m 20 #[.val (.int p1), .val (.int p2), .val (.int p3), .val (.int p4), .val (.long q5), .second, .val (.int p6), .val (.int w), .val (.int hh), .unset, .unset, .unset, .unset, .unset, .unset, .unset, .unset, .unset] [])) _
        refine XS.iload Xj20.here hx rfl (hb hby at_20) rfl ?_
        refine XS.iconst Xj20.here hx rfl (hb hby at_22) ?_
        refine XS.iushr Xj20.here hx rfl (hb hby at_23) rfl ?_
        refine XS.iconst Xj20.here hx rfl (hb hby at_24) ?_
        show Steps p.tables e below (Tj20.setTop (mkF m 25 #[.val (.int p1), .val (.int p2), .val (.int p3), .val (.int p4), .val (.long q5), .second, .val (.int p6), .val (.int w), .val (.int hh), .unset, .unset, .unset, .unset, .unset, .unset, .unset, .unset, .unset] [(.int (3 : Int32)), (.int ((p6.toUInt32 >>> ((3 : Int32) &&& 31).toUInt32).toInt32))])) _
        refine XS.iand Xj20.here hx rfl (hb hby at_25) rfl ?_
        refine XS.iload Xj20.here hx rfl (hb hby at_26) rfl ?_
        refine XS.iconst Xj20.here hx rfl (hb hby at_28) ?_
        refine XS.iadd Xj20.here hx rfl (hb hby at_29) rfl ?_
        show Steps p.tables e below (Tj20.setTop (mkF m 30 #[.val (.int p1), .val (.int p2), .val (.int p3), .val (.int p4), .val (.long q5), .second, .val (.int p6), .val (.int w), .val (.int hh), .unset, .unset, .unset, .unset, .unset, .unset, .unset, .unset, .unset] [(.int (hh + (1 : Int32))), (.int (((p6.toUInt32 >>> ((3 : Int32) &&& 31).toUInt32).toInt32) &&& (3 : Int32)))])) _
        refine iremM Xj20 hx rfl (hb hby at_30) rfl (own_nz1 hh1) ?_
        refine XS.istore Xj20.here hx rfl (hb hby at_31) rfl (l' := #[.val (.int p1), .val (.int p2), .val (.int p3), .val (.int p4), .val (.long q5), .second, .val (.int p6), .val (.int w), .val (.int hh), .val (.int ((((p6.toUInt32 >>> ((3 : Int32) &&& 31).toUInt32).toInt32) &&& (3 : Int32)) % (hh + (1 : Int32)))), .unset, .unset, .unset, .unset, .unset, .unset, .unset, .unset]) rfl ?_
        exact kt
      show own_End p e below s (Tj20.setTop (mkF m 33 #[.val (.int p1), .val (.int p2), .val (.int p3), .val (.int p4), .val (.long q5), .second, .val (.int p6), .val (.int w), .val (.int hh), .val (.int ((((p6.toUInt32 >>> ((3 : Int32) &&& 31).toUInt32).toInt32) &&& (3 : Int32)) % (hh + (1 : Int32)))), .unset, .unset, .unset, .unset, .unset, .unset, .unset, .unset] [])) (Q0 Z p1 p2 p3 p4 q5 p6 h0 n0) room_1.cells room_1.slots
      have j33 : ∀ (Tj33 : State) (Lj33 : List Loc) (Xj33 : Stand p l e room_1 s m #[(.int p1), (.int p2), (.int p3), (.int p4), (.long q5), (.int p6)] below meth c Tj33 Lj33 0 0) (ej33 : Tj33.heap = h0) (Nj33 : Fr n0 Lj33) (fi : Int32) (hf : 0 ≤ fi.toInt ∧ fi.toInt ≤ hh.toInt), own_law p1 p2 p3 p4 q5 p6 = own_law_33 p1 p2 p3 p4 q5 p6 w hh fi → own_End p e below s (Tj33.setTop (mkF m 33 #[.val (.int p1), .val (.int p2), .val (.int p3), .val (.int p4), .val (.long q5), .second, .val (.int p6), .val (.int w), .val (.int hh), .val (.int fi), .unset, .unset, .unset, .unset, .unset, .unset, .unset, .unset] [])) (Q0 Z p1 p2 p3 p4 q5 p6 h0 n0) room_1.cells room_1.slots := by
        intro Tj33 Lj33 Xj33 ej33 Nj33 fi hf hj
        refine own_pre (A := Tj33.setTop (mkF m 52 #[.val (.int p1), .val (.int p2), .val (.int p3), .val (.int p4), .val (.long q5), .second, .val (.int p6), .val (.int w), .val (.int hh), .val (.int fi), .val (.int (fi + ((((p6.toUInt32 >>> ((5 : Int32) &&& 31).toUInt32).toInt32) &&& (3 : Int32)) % ((hh - fi) + (1 : Int32))))), .unset, .unset, .unset, .unset, .unset, .unset, .unset] [])) (fun tt kt => ?_) ?_
        · show Steps p.tables e below (Tj33.setTop (mkF m 33 #[.val (.int p1), .val (.int p2), .val (.int p3), .val (.int p4), .val (.long q5), .second, .val (.int p6), .val (.int w), .val (.int hh), .val (.int fi), .unset, .unset, .unset, .unset, .unset, .unset, .unset, .unset] [])) _
          refine XS.iload Xj33.here hx rfl (hb hby at_33) rfl ?_
          refine XS.iload Xj33.here hx rfl (hb hby at_35) rfl ?_
          refine XS.iconst Xj33.here hx rfl (hb hby at_37) ?_
          refine XS.iushr Xj33.here hx rfl (hb hby at_38) rfl ?_
          show Steps p.tables e below (Tj33.setTop (mkF m 39 #[.val (.int p1), .val (.int p2), .val (.int p3), .val (.int p4), .val (.long q5), .second, .val (.int p6), .val (.int w), .val (.int hh), .val (.int fi), .unset, .unset, .unset, .unset, .unset, .unset, .unset, .unset] [(.int ((p6.toUInt32 >>> ((5 : Int32) &&& 31).toUInt32).toInt32)), (.int fi)])) _
          refine XS.iconst Xj33.here hx rfl (hb hby at_39) ?_
          refine XS.iand Xj33.here hx rfl (hb hby at_40) rfl ?_
          refine XS.iload Xj33.here hx rfl (hb hby at_41) rfl ?_
          refine XS.iload Xj33.here hx rfl (hb hby at_43) rfl ?_
          show Steps p.tables e below (Tj33.setTop (mkF m 45 #[.val (.int p1), .val (.int p2), .val (.int p3), .val (.int p4), .val (.long q5), .second, .val (.int p6), .val (.int w), .val (.int hh), .val (.int fi), .unset, .unset, .unset, .unset, .unset, .unset, .unset, .unset] [(.int fi), (.int hh), (.int (((p6.toUInt32 >>> ((5 : Int32) &&& 31).toUInt32).toInt32) &&& (3 : Int32))), (.int fi)])) _
          refine XS.isub Xj33.here hx rfl (hb hby at_45) rfl ?_
          refine XS.iconst Xj33.here hx rfl (hb hby at_46) ?_
          refine XS.iadd Xj33.here hx rfl (hb hby at_47) rfl ?_
          refine iremM Xj33 hx rfl (hb hby at_48) rfl (own_nz2 hh1 hf) ?_
          show Steps p.tables e below (Tj33.setTop (mkF m 49 #[.val (.int p1), .val (.int p2), .val (.int p3), .val (.int p4), .val (.long q5), .second, .val (.int p6), .val (.int w), .val (.int hh), .val (.int fi), .unset, .unset, .unset, .unset, .unset, .unset, .unset, .unset] [(.int ((((p6.toUInt32 >>> ((5 : Int32) &&& 31).toUInt32).toInt32) &&& (3 : Int32)) % ((hh - fi) + (1 : Int32)))), (.int fi)])) _
          refine XS.iadd Xj33.here hx rfl (hb hby at_49) rfl ?_
          refine XS.istore Xj33.here hx rfl (hb hby at_50) rfl (l' := #[.val (.int p1), .val (.int p2), .val (.int p3), .val (.int p4), .val (.long q5), .second, .val (.int p6), .val (.int w), .val (.int hh), .val (.int fi), .val (.int (fi + ((((p6.toUInt32 >>> ((5 : Int32) &&& 31).toUInt32).toInt32) &&& (3 : Int32)) % ((hh - fi) + (1 : Int32))))), .unset, .unset, .unset, .unset, .unset, .unset, .unset]) rfl ?_
          exact kt
        show own_End p e below s (Tj33.setTop (mkF m 52 #[.val (.int p1), .val (.int p2), .val (.int p3), .val (.int p4), .val (.long q5), .second, .val (.int p6), .val (.int w), .val (.int hh), .val (.int fi), .val (.int (fi + ((((p6.toUInt32 >>> ((5 : Int32) &&& 31).toUInt32).toInt32) &&& (3 : Int32)) % ((hh - fi) + (1 : Int32))))), .unset, .unset, .unset, .unset, .unset, .unset, .unset] [])) (Q0 Z p1 p2 p3 p4 q5 p6 h0 n0) room_1.cells room_1.slots
        have j52 : ∀ (Tj52 : State) (Lj52 : List Loc) (Xj52 : Stand p l e room_1 s m #[(.int p1), (.int p2), (.int p3), (.int p4), (.long q5), (.int p6)] below meth c Tj52 Lj52 0 0) (ej52 : Tj52.heap = h0) (Nj52 : Fr n0 Lj52) (en : Int32) (he : fi.toInt ≤ en.toInt ∧ en.toInt ≤ hh.toInt), own_law p1 p2 p3 p4 q5 p6 = own_law_52 p1 p2 p3 p4 q5 p6 w hh fi en → own_End p e below s (Tj52.setTop (mkF m 52 #[.val (.int p1), .val (.int p2), .val (.int p3), .val (.int p4), .val (.long q5), .second, .val (.int p6), .val (.int w), .val (.int hh), .val (.int fi), .val (.int en), .unset, .unset, .unset, .unset, .unset, .unset, .unset] [])) (Q0 Z p1 p2 p3 p4 q5 p6 h0 n0) room_1.cells room_1.slots := by
          intro Tj52 Lj52 Xj52 ej52 Nj52 en he hj
          obtain ⟨_, _, ⟨T1, L1, k1, n1⟩, -, X1, ⟨Lc1, hQ1, l1, y1, z1⟩, st1⟩ := Jvm.LawKit.callS Xj52 hx (y := (⟨"java/lang/Math", "max", "(II)I"⟩ : MethodName)) hown (mvT hZ (hw _ (List.mem_of_getElem? (i := 0) rfl))) (mvT hZ (hw _ (List.mem_of_getElem? (i := 1) rfl))) (mvT hZ (hw _ (List.mem_of_getElem? (i := 2) rfl))) (mvT hZ (hw _ (List.mem_of_getElem? (i := 3) rfl))) (by decide) (backOf (W := 0) (rm1 l Z a0 hw [] (fi - (1 : Int32)) (0 : Int32)  h0 n0 Z0 ) hZ (hw _ (List.mem_of_getElem? (i := 3) rfl)) (hw _ (List.mem_of_getElem? (i := 2) rfl)) (by decide) (by decide)) (g := (mkF m 57 #[.val (.int p1), .val (.int p2), .val (.int p3), .val (.int p4), .val (.long q5), .second, .val (.int p6), .val (.int w), .val (.int hh), .val (.int fi), .val (.int en), .unset, .unset, .unset, .unset, .unset, .unset, .unset] [(.int (0 : Int32)), (.int (fi - (1 : Int32)))])) rfl (by rw [hml]; rfl) (argsL := [(.int (fi - (1 : Int32))), (.int (0 : Int32))]) (rest := []) (lenOf pd_0_0 rfl) rfl (by show 2 * 0 + _ ≤ _; exact Nat.le_of_eq rfl) (hb hby at_57) (fun _ _ => ⟨rfl, ej52, (by decide : 0 + 0 ≤ _), (by decide : 0 + 0 ≤ _)⟩)
          dsimp only [Pt.U, Pt.locs, Pt.cells, Pt.slots] at X1 l1 y1 z1 st1 hQ1
          subst l1 y1 z1
          obtain ⟨rfl, N1q, e1⟩ := hQ1
          have N1 := Fr.app Nj52 N1q
          refine own_pre (A := T1.setTop (mkF m 62 #[.val (.int p1), .val (.int p2), .val (.int p3), .val (.int p4), .val (.long q5), .second, .val (.int p6), .val (.int w), .val (.int hh), .val (.int fi), .val (.int en), .val (.int (own_max (fi - (1 : Int32)) (0 : Int32))), .unset, .unset, .unset, .unset, .unset, .unset] [])) (fun tt kt => ?_) ?_
          · show Steps p.tables e below (Tj52.setTop (mkF m 52 #[.val (.int p1), .val (.int p2), .val (.int p3), .val (.int p4), .val (.long q5), .second, .val (.int p6), .val (.int w), .val (.int hh), .val (.int fi), .val (.int en), .unset, .unset, .unset, .unset, .unset, .unset, .unset] [])) _
            refine XS.iload Xj52.here hx rfl (hb hby at_52) rfl ?_
            refine XS.iconst Xj52.here hx rfl (hb hby at_54) ?_
            refine XS.isub Xj52.here hx rfl (hb hby at_55) rfl ?_
            refine XS.iconst Xj52.here hx rfl (hb hby at_56) ?_
            show Steps p.tables e below (Tj52.setTop (mkF m 57 #[.val (.int p1), .val (.int p2), .val (.int p3), .val (.int p4), .val (.long q5), .second, .val (.int p6), .val (.int w), .val (.int hh), .val (.int fi), .val (.int en), .unset, .unset, .unset, .unset, .unset, .unset, .unset] [(.int (0 : Int32)), (.int (fi - (1 : Int32)))])) _
            refine st1 _ ?_
            show Steps p.tables e below (T1.setTop (mkF m 60 #[.val (.int p1), .val (.int p2), .val (.int p3), .val (.int p4), .val (.long q5), .second, .val (.int p6), .val (.int w), .val (.int hh), .val (.int fi), .val (.int en), .unset, .unset, .unset, .unset, .unset, .unset, .unset] [(.int (own_max (fi - (1 : Int32)) (0 : Int32)))])) _
            refine XS.istore X1.here hx rfl (hb hby at_60) rfl (l' := #[.val (.int p1), .val (.int p2), .val (.int p3), .val (.int p4), .val (.long q5), .second, .val (.int p6), .val (.int w), .val (.int hh), .val (.int fi), .val (.int en), .val (.int (own_max (fi - (1 : Int32)) (0 : Int32))), .unset, .unset, .unset, .unset, .unset, .unset]) rfl ?_
            exact kt
          show own_End p e below s (T1.setTop (mkF m 62 #[.val (.int p1), .val (.int p2), .val (.int p3), .val (.int p4), .val (.long q5), .second, .val (.int p6), .val (.int w), .val (.int hh), .val (.int fi), .val (.int en), .val (.int (own_max (fi - (1 : Int32)) (0 : Int32))), .unset, .unset, .unset, .unset, .unset, .unset] [])) (Q0 Z p1 p2 p3 p4 q5 p6 h0 n0) room_1.cells room_1.slots
          have j62 : ∀ (Tj62 : State) (Lj62 : List Loc) (Xj62 : Stand p l e room_1 s m #[(.int p1), (.int p2), (.int p3), (.int p4), (.long q5), (.int p6)] below meth c Tj62 Lj62 0 0) (ej62 : Tj62.heap = h0) (Nj62 : Fr n0 Lj62) (tp : Int32) (ht : 0 ≤ tp.toInt ∧ tp.toInt ≤ fi.toInt), own_law p1 p2 p3 p4 q5 p6 = own_law_62 p1 p2 p3 p4 q5 p6 w hh fi en tp → own_End p e below s (Tj62.setTop (mkF m 62 #[.val (.int p1), .val (.int p2), .val (.int p3), .val (.int p4), .val (.long q5), .second, .val (.int p6), .val (.int w), .val (.int hh), .val (.int fi), .val (.int en), .val (.int tp), .unset, .unset, .unset, .unset, .unset, .unset] [])) (Q0 Z p1 p2 p3 p4 q5 p6 h0 n0) room_1.cells room_1.slots := by
            intro Tj62 Lj62 Xj62 ej62 Nj62 tp ht hj
            obtain ⟨T2, h2, k2, X2, e2, E2, A2, st2⟩ := newP Xj62 hx hZ (hw _ (List.mem_of_getElem? (i := 4) rfl)) ej62 (g := (mkF m 64 #[.val (.int p1), .val (.int p2), .val (.int p3), .val (.int p4), .val (.long q5), .second, .val (.int p6), .val (.int w), .val (.int hh), .val (.int fi), .val (.int en), .val (.int tp), .unset, .unset, .unset, .unset, .unset, .unset] [(.int (6 : Int32))])) rfl (hb hby at_64) rfl (by decide) (cap := 6) (by decide) (by decide) (by decide) (by decide)
            obtain ⟨b2, g2⟩ : ∃ z, z = h0.size := ⟨_, rfl⟩
            rw [← g2] at A2 st2
            have g_b2 : n0 ≤ b2 := Nat.le_trans Z0 (Nat.le_of_eq g2.symm)
            have sz_b2 : h0.size ≤ b2 := Nat.le_trans (show Keep h0 h0 [] from (Keep.refl h0 _)).1 (Nat.le_of_eq g2.symm)
            have K2 : Keep h0 h2 [] := Keep.ext (Keep.refl h0 _) E2
            have Z2 : n0 ≤ h2.size := Nat.le_trans Z0 E2.1
            have V2 : own_Arr Z h2 b2 .int (6 : Int32) (fun i => Value.int ((fun _ => (0 : Int32)) i)) := own_Arr.new A2 (by decide) (fun _ => rfl)
            obtain ⟨cl3, Ar3, S3, Nn3, G3⟩ := id V2
            have hin3 : ¬ ((0 : Int32) < 0 ∨ cl3.slots.size ≤ (0 : Int32).toNatClampNeg) := inb_of S3 (⟨by decide, by decide⟩ : ¬ (0 : Int32) < 0 ∧ (0 : Int32) < (6 : Int32))
            obtain ⟨T4, h4, X4, e4, W4, st4⟩ := stI X2 hx hZ e2 Ar3 (j := (0 : Int32)) hin3 (g := (mkF m 72 #[.val (.int p1), .val (.int p2), .val (.int p3), .val (.int p4), .val (.long q5), .second, .val (.int p6), .val (.int w), .val (.int hh), .val (.int fi), .val (.int en), .val (.int tp), .val (.ref b2), .unset, .unset, .unset, .unset, .unset] [(.int p1), (.int (0 : Int32)), (.ref b2)])) rfl rfl (hb hby at_72)
            have V4 : own_Arr Z h4 b2 .int (6 : Int32) (fun i => Value.int ((own_b0_g5 p1 p2 p3 p4 q5 p6 w hh fi en tp) i)) := own_Arr.set (w := Value.int) (g := (fun _ => (0 : Int32))) (x := p1) V2 W4 rfl (fun i => rfl)
            have N4 := Fr.snoc X4 Nj62 g_b2
            have K4 : Keep h0 h4 [] := Keep.wr K2 W4 (Or.inr sz_b2)
            have Z4 : n0 ≤ h4.size := Nat.le_trans Z2 (Nat.le_of_eq W4.size.symm)
            obtain ⟨cl6, Ar6, S6, Nn6, G6⟩ := id V4
            have hin6 : ¬ ((1 : Int32) < 0 ∨ cl6.slots.size ≤ (1 : Int32).toNatClampNeg) := inb_of S6 (⟨by decide, by decide⟩ : ¬ (1 : Int32) < 0 ∧ (1 : Int32) < (6 : Int32))
            obtain ⟨T7, h7, X7, e7, W7, st7⟩ := stI X4 hx hZ e4 Ar6 (j := (1 : Int32)) hin6 (g := (mkF m 77 #[.val (.int p1), .val (.int p2), .val (.int p3), .val (.int p4), .val (.long q5), .second, .val (.int p6), .val (.int w), .val (.int hh), .val (.int fi), .val (.int en), .val (.int tp), .val (.ref b2), .unset, .unset, .unset, .unset, .unset] [(.int p2), (.int (1 : Int32)), (.ref b2)])) rfl rfl (hb hby at_77)
            have V7 : own_Arr Z h7 b2 .int (6 : Int32) (fun i => Value.int ((own_b0_g8 p1 p2 p3 p4 q5 p6 w hh fi en tp) i)) := own_Arr.set (w := Value.int) (g := (own_b0_g5 p1 p2 p3 p4 q5 p6 w hh fi en tp)) (x := p2) V4 W7 rfl (fun i => rfl)
            have N7 := Fr.snoc X7 N4 g_b2
            have K7 : Keep h0 h7 [] := Keep.wr K4 W7 (Or.inr sz_b2)
            have Z7 : n0 ≤ h7.size := Nat.le_trans Z4 (Nat.le_of_eq W7.size.symm)
            obtain ⟨cl9, Ar9, S9, Nn9, G9⟩ := id V7
            have hin9 : ¬ ((2 : Int32) < 0 ∨ cl9.slots.size ≤ (2 : Int32).toNatClampNeg) := inb_of S9 (⟨by decide, by decide⟩ : ¬ (2 : Int32) < 0 ∧ (2 : Int32) < (6 : Int32))
            obtain ⟨T10, h10, X10, e10, W10, st10⟩ := stI X7 hx hZ e7 Ar9 (j := (2 : Int32)) hin9 (g := (mkF m 82 #[.val (.int p1), .val (.int p2), .val (.int p3), .val (.int p4), .val (.long q5), .second, .val (.int p6), .val (.int w), .val (.int hh), .val (.int fi), .val (.int en), .val (.int tp), .val (.ref b2), .unset, .unset, .unset, .unset, .unset] [(.int p3), (.int (2 : Int32)), (.ref b2)])) rfl rfl (hb hby at_82)
            have V10 : own_Arr Z h10 b2 .int (6 : Int32) (fun i => Value.int ((own_b0_g11 p1 p2 p3 p4 q5 p6 w hh fi en tp) i)) := own_Arr.set (w := Value.int) (g := (own_b0_g8 p1 p2 p3 p4 q5 p6 w hh fi en tp)) (x := p3) V7 W10 rfl (fun i => rfl)
            have N10 := Fr.snoc X10 N7 g_b2
            have K10 : Keep h0 h10 [] := Keep.wr K7 W10 (Or.inr sz_b2)
            have Z10 : n0 ≤ h10.size := Nat.le_trans Z7 (Nat.le_of_eq W10.size.symm)
            obtain ⟨cl12, Ar12, S12, Nn12, G12⟩ := id V10
            have hin12 : ¬ ((3 : Int32) < 0 ∨ cl12.slots.size ≤ (3 : Int32).toNatClampNeg) := inb_of S12 (⟨by decide, by decide⟩ : ¬ (3 : Int32) < 0 ∧ (3 : Int32) < (6 : Int32))
            obtain ⟨T13, h13, X13, e13, W13, st13⟩ := stI X10 hx hZ e10 Ar12 (j := (3 : Int32)) hin12 (g := (mkF m 87 #[.val (.int p1), .val (.int p2), .val (.int p3), .val (.int p4), .val (.long q5), .second, .val (.int p6), .val (.int w), .val (.int hh), .val (.int fi), .val (.int en), .val (.int tp), .val (.ref b2), .unset, .unset, .unset, .unset, .unset] [(.int p4), (.int (3 : Int32)), (.ref b2)])) rfl rfl (hb hby at_87)
            have V13 : own_Arr Z h13 b2 .int (6 : Int32) (fun i => Value.int ((own_b0_g14 p1 p2 p3 p4 q5 p6 w hh fi en tp) i)) := own_Arr.set (w := Value.int) (g := (own_b0_g11 p1 p2 p3 p4 q5 p6 w hh fi en tp)) (x := p4) V10 W13 rfl (fun i => rfl)
            have N13 := Fr.snoc X13 N10 g_b2
            have K13 : Keep h0 h13 [] := Keep.wr K10 W13 (Or.inr sz_b2)
            have Z13 : n0 ≤ h13.size := Nat.le_trans Z10 (Nat.le_of_eq W13.size.symm)
            obtain ⟨cl15, Ar15, S15, Nn15, G15⟩ := id V13
            have hin15 : ¬ ((4 : Int32) < 0 ∨ cl15.slots.size ≤ (4 : Int32).toNatClampNeg) := inb_of S15 (⟨by decide, by decide⟩ : ¬ (4 : Int32) < 0 ∧ (4 : Int32) < (6 : Int32))
            obtain ⟨T16, h16, X16, e16, W16, st16⟩ := stI X13 hx hZ e13 Ar15 (j := (4 : Int32)) hin15 (g := (mkF m 94 #[.val (.int p1), .val (.int p2), .val (.int p3), .val (.int p4), .val (.long q5), .second, .val (.int p6), .val (.int w), .val (.int hh), .val (.int fi), .val (.int en), .val (.int tp), .val (.ref b2), .unset, .unset, .unset, .unset, .unset] [(.int (q5.toInt32)), (.int (4 : Int32)), (.ref b2)])) rfl rfl (hb hby at_94)
            have V16 : own_Arr Z h16 b2 .int (6 : Int32) (fun i => Value.int ((own_b0_g17 p1 p2 p3 p4 q5 p6 w hh fi en tp) i)) := own_Arr.set (w := Value.int) (g := (own_b0_g14 p1 p2 p3 p4 q5 p6 w hh fi en tp)) (x := (q5.toInt32)) V13 W16 rfl (fun i => rfl)
            have N16 := Fr.snoc X16 N13 g_b2
            have K16 : Keep h0 h16 [] := Keep.wr K13 W16 (Or.inr sz_b2)
            have Z16 : n0 ≤ h16.size := Nat.le_trans Z13 (Nat.le_of_eq W16.size.symm)
            obtain ⟨cl18, Ar18, S18, Nn18, G18⟩ := id V16
            have hin18 : ¬ ((5 : Int32) < 0 ∨ cl18.slots.size ≤ (5 : Int32).toNatClampNeg) := inb_of S18 (⟨by decide, by decide⟩ : ¬ (5 : Int32) < 0 ∧ (5 : Int32) < (6 : Int32))
            obtain ⟨T19, h19, X19, e19, W19, st19⟩ := stI X16 hx hZ e16 Ar18 (j := (5 : Int32)) hin18 (g := (mkF m 104 #[.val (.int p1), .val (.int p2), .val (.int p3), .val (.int p4), .val (.long q5), .second, .val (.int p6), .val (.int w), .val (.int hh), .val (.int fi), .val (.int en), .val (.int tp), .val (.ref b2), .unset, .unset, .unset, .unset, .unset] [(.int (((q5.toUInt64 >>> ((32 : Int32) &&& 0x3f).toInt64.toUInt64).toInt64).toInt32)), (.int (5 : Int32)), (.ref b2)])) rfl rfl (hb hby at_104)
            have V19 : own_Arr Z h19 b2 .int (6 : Int32) (fun i => Value.int ((own_b0_g20 p1 p2 p3 p4 q5 p6 w hh fi en tp) i)) := own_Arr.set (w := Value.int) (g := (own_b0_g17 p1 p2 p3 p4 q5 p6 w hh fi en tp)) (x := (((q5.toUInt64 >>> ((32 : Int32) &&& 0x3f).toInt64.toUInt64).toInt64).toInt32)) V16 W19 rfl (fun i => rfl)
            have N19 := Fr.snoc X19 N16 g_b2
            have K19 : Keep h0 h19 [] := Keep.wr K16 W19 (Or.inr sz_b2)
            have Z19 : n0 ≤ h19.size := Nat.le_trans Z16 (Nat.le_of_eq W19.size.symm)
            obtain ⟨T21, h21, k21, X21, e21, E21, A21, st21⟩ := newP X19 hx hZ (hw _ (List.mem_of_getElem? (i := 4) rfl)) e19 (g := (mkF m 107 #[.val (.int p1), .val (.int p2), .val (.int p3), .val (.int p4), .val (.long q5), .second, .val (.int p6), .val (.int w), .val (.int hh), .val (.int fi), .val (.int en), .val (.int tp), .val (.ref b2), .unset, .unset, .unset, .unset, .unset] [(.int (6 : Int32))])) rfl (hb hby at_107) rfl (by decide) (cap := 6) (by decide) (by decide) (by decide) (by decide)
            obtain ⟨b21, g21⟩ : ∃ z, z = h19.size := ⟨_, rfl⟩
            rw [← g21] at A21 st21
            have ne_b2_b21 : b2 ≠ b21 := Nat.ne_of_lt (Nat.lt_of_lt_of_le V19.lt (Nat.le_of_eq g21.symm))
            have g_b21 : n0 ≤ b21 := Nat.le_trans Z19 (Nat.le_of_eq g21.symm)
            have sz_b21 : h0.size ≤ b21 := Nat.le_trans (show Keep h0 h19 [] from K19).1 (Nat.le_of_eq g21.symm)
            have fA_b2_x21 := (V19.ext E21)
            have K21 : Keep h0 h21 [] := Keep.ext K19 E21
            have Z21 : n0 ≤ h21.size := Nat.le_trans Z19 E21.1
            have V21 : own_Arr Z h21 b21 .int (6 : Int32) (fun i => Value.int ((fun _ => (0 : Int32)) i)) := own_Arr.new A21 (by decide) (fun _ => rfl)
            obtain ⟨cl22, Ar22, S22, Nn22, G22⟩ := id V21
            have hin22 : ¬ ((0 : Int32) < 0 ∨ cl22.slots.size ≤ (0 : Int32).toNatClampNeg) := inb_of S22 (⟨by decide, by decide⟩ : ¬ (0 : Int32) < 0 ∧ (0 : Int32) < (6 : Int32))
            obtain ⟨T23, h23, X23, e23, W23, st23⟩ := stI X21 hx hZ e21 Ar22 (j := (0 : Int32)) hin22 (g := (mkF m 115 #[.val (.int p1), .val (.int p2), .val (.int p3), .val (.int p4), .val (.long q5), .second, .val (.int p6), .val (.int w), .val (.int hh), .val (.int fi), .val (.int en), .val (.int tp), .val (.ref b2), .val (.ref b21), .unset, .unset, .unset, .unset] [(.int (-1 : Int32)), (.int (0 : Int32)), (.ref b21)])) rfl rfl (hb hby at_115)
            have fA_b2_x23 := (fA_b2_x21.other W23 ne_b2_b21)
            have V23 : own_Arr Z h23 b21 .int (6 : Int32) (fun i => Value.int ((own_b0_g24 p1 p2 p3 p4 q5 p6 w hh fi en tp) i)) := own_Arr.set (w := Value.int) (g := (fun _ => (0 : Int32))) (x := (-1 : Int32)) V21 W23 rfl (fun i => rfl)
            have N23 := Fr.snoc X23 N19 g_b21
            have K23 : Keep h0 h23 [] := Keep.wr K21 W23 (Or.inr sz_b21)
            have Z23 : n0 ≤ h23.size := Nat.le_trans Z21 (Nat.le_of_eq W23.size.symm)
            obtain ⟨cl25, Ar25, S25, Nn25, G25⟩ := id V23
            have hin25 : ¬ ((1 : Int32) < 0 ∨ cl25.slots.size ≤ (1 : Int32).toNatClampNeg) := inb_of S25 (⟨by decide, by decide⟩ : ¬ (1 : Int32) < 0 ∧ (1 : Int32) < (6 : Int32))
            obtain ⟨T26, h26, X26, e26, W26, st26⟩ := stI X23 hx hZ e23 Ar25 (j := (1 : Int32)) hin25 (g := (mkF m 120 #[.val (.int p1), .val (.int p2), .val (.int p3), .val (.int p4), .val (.long q5), .second, .val (.int p6), .val (.int w), .val (.int hh), .val (.int fi), .val (.int en), .val (.int tp), .val (.ref b2), .val (.ref b21), .unset, .unset, .unset, .unset] [(.int (-1 : Int32)), (.int (1 : Int32)), (.ref b21)])) rfl rfl (hb hby at_120)
            have fA_b2_x26 := (fA_b2_x23.other W26 ne_b2_b21)
            have V26 : own_Arr Z h26 b21 .int (6 : Int32) (fun i => Value.int ((own_b0_g27 p1 p2 p3 p4 q5 p6 w hh fi en tp) i)) := own_Arr.set (w := Value.int) (g := (own_b0_g24 p1 p2 p3 p4 q5 p6 w hh fi en tp)) (x := (-1 : Int32)) V23 W26 rfl (fun i => rfl)
            have N26 := Fr.snoc X26 N23 g_b21
            have K26 : Keep h0 h26 [] := Keep.wr K23 W26 (Or.inr sz_b21)
            have Z26 : n0 ≤ h26.size := Nat.le_trans Z23 (Nat.le_of_eq W26.size.symm)
            obtain ⟨cl28, Ar28, S28, Nn28, G28⟩ := id V26
            have hin28 : ¬ ((2 : Int32) < 0 ∨ cl28.slots.size ≤ (2 : Int32).toNatClampNeg) := inb_of S28 (⟨by decide, by decide⟩ : ¬ (2 : Int32) < 0 ∧ (2 : Int32) < (6 : Int32))
            obtain ⟨T29, h29, X29, e29, W29, st29⟩ := stI X26 hx hZ e26 Ar28 (j := (2 : Int32)) hin28 (g := (mkF m 125 #[.val (.int p1), .val (.int p2), .val (.int p3), .val (.int p4), .val (.long q5), .second, .val (.int p6), .val (.int w), .val (.int hh), .val (.int fi), .val (.int en), .val (.int tp), .val (.ref b2), .val (.ref b21), .unset, .unset, .unset, .unset] [(.int (-1 : Int32)), (.int (2 : Int32)), (.ref b21)])) rfl rfl (hb hby at_125)
            have fA_b2_x29 := (fA_b2_x26.other W29 ne_b2_b21)
            have V29 : own_Arr Z h29 b21 .int (6 : Int32) (fun i => Value.int ((own_b0_g30 p1 p2 p3 p4 q5 p6 w hh fi en tp) i)) := own_Arr.set (w := Value.int) (g := (own_b0_g27 p1 p2 p3 p4 q5 p6 w hh fi en tp)) (x := (-1 : Int32)) V26 W29 rfl (fun i => rfl)
            have N29 := Fr.snoc X29 N26 g_b21
            have K29 : Keep h0 h29 [] := Keep.wr K26 W29 (Or.inr sz_b21)
            have Z29 : n0 ≤ h29.size := Nat.le_trans Z26 (Nat.le_of_eq W29.size.symm)
            obtain ⟨cl31, Ar31, S31, Nn31, G31⟩ := id V29
            have hin31 : ¬ ((3 : Int32) < 0 ∨ cl31.slots.size ≤ (3 : Int32).toNatClampNeg) := inb_of S31 (⟨by decide, by decide⟩ : ¬ (3 : Int32) < 0 ∧ (3 : Int32) < (6 : Int32))
            obtain ⟨T32, h32, X32, e32, W32, st32⟩ := stI X29 hx hZ e29 Ar31 (j := (3 : Int32)) hin31 (g := (mkF m 130 #[.val (.int p1), .val (.int p2), .val (.int p3), .val (.int p4), .val (.long q5), .second, .val (.int p6), .val (.int w), .val (.int hh), .val (.int fi), .val (.int en), .val (.int tp), .val (.ref b2), .val (.ref b21), .unset, .unset, .unset, .unset] [(.int (-1 : Int32)), (.int (3 : Int32)), (.ref b21)])) rfl rfl (hb hby at_130)
            have fA_b2_x32 := (fA_b2_x29.other W32 ne_b2_b21)
            have V32 : own_Arr Z h32 b21 .int (6 : Int32) (fun i => Value.int ((own_b0_g33 p1 p2 p3 p4 q5 p6 w hh fi en tp) i)) := own_Arr.set (w := Value.int) (g := (own_b0_g30 p1 p2 p3 p4 q5 p6 w hh fi en tp)) (x := (-1 : Int32)) V29 W32 rfl (fun i => rfl)
            have N32 := Fr.snoc X32 N29 g_b21
            have K32 : Keep h0 h32 [] := Keep.wr K29 W32 (Or.inr sz_b21)
            have Z32 : n0 ≤ h32.size := Nat.le_trans Z29 (Nat.le_of_eq W32.size.symm)
            obtain ⟨cl34, Ar34, S34, Nn34, G34⟩ := id V32
            have hin34 : ¬ ((4 : Int32) < 0 ∨ cl34.slots.size ≤ (4 : Int32).toNatClampNeg) := inb_of S34 (⟨by decide, by decide⟩ : ¬ (4 : Int32) < 0 ∧ (4 : Int32) < (6 : Int32))
            obtain ⟨T35, h35, X35, e35, W35, st35⟩ := stI X32 hx hZ e32 Ar34 (j := (4 : Int32)) hin34 (g := (mkF m 135 #[.val (.int p1), .val (.int p2), .val (.int p3), .val (.int p4), .val (.long q5), .second, .val (.int p6), .val (.int w), .val (.int hh), .val (.int fi), .val (.int en), .val (.int tp), .val (.ref b2), .val (.ref b21), .unset, .unset, .unset, .unset] [(.int (-1 : Int32)), (.int (4 : Int32)), (.ref b21)])) rfl rfl (hb hby at_135)
            have fA_b2_x35 := (fA_b2_x32.other W35 ne_b2_b21)
            have V35 : own_Arr Z h35 b21 .int (6 : Int32) (fun i => Value.int ((own_b0_g36 p1 p2 p3 p4 q5 p6 w hh fi en tp) i)) := own_Arr.set (w := Value.int) (g := (own_b0_g33 p1 p2 p3 p4 q5 p6 w hh fi en tp)) (x := (-1 : Int32)) V32 W35 rfl (fun i => rfl)
            have N35 := Fr.snoc X35 N32 g_b21
            have K35 : Keep h0 h35 [] := Keep.wr K32 W35 (Or.inr sz_b21)
            have Z35 : n0 ≤ h35.size := Nat.le_trans Z32 (Nat.le_of_eq W35.size.symm)
            obtain ⟨cl37, Ar37, S37, Nn37, G37⟩ := id V35
            have hin37 : ¬ ((5 : Int32) < 0 ∨ cl37.slots.size ≤ (5 : Int32).toNatClampNeg) := inb_of S37 (⟨by decide, by decide⟩ : ¬ (5 : Int32) < 0 ∧ (5 : Int32) < (6 : Int32))
            obtain ⟨T38, h38, X38, e38, W38, st38⟩ := stI X35 hx hZ e35 Ar37 (j := (5 : Int32)) hin37 (g := (mkF m 140 #[.val (.int p1), .val (.int p2), .val (.int p3), .val (.int p4), .val (.long q5), .second, .val (.int p6), .val (.int w), .val (.int hh), .val (.int fi), .val (.int en), .val (.int tp), .val (.ref b2), .val (.ref b21), .unset, .unset, .unset, .unset] [(.int (-1 : Int32)), (.int (5 : Int32)), (.ref b21)])) rfl rfl (hb hby at_140)
            have fA_b2_x38 := (fA_b2_x35.other W38 ne_b2_b21)
            have V38 : own_Arr Z h38 b21 .int (6 : Int32) (fun i => Value.int ((own_b0_g39 p1 p2 p3 p4 q5 p6 w hh fi en tp) i)) := own_Arr.set (w := Value.int) (g := (own_b0_g36 p1 p2 p3 p4 q5 p6 w hh fi en tp)) (x := (-1 : Int32)) V35 W38 rfl (fun i => rfl)
            have N38 := Fr.snoc X38 N35 g_b21
            have K38 : Keep h0 h38 [] := Keep.wr K35 W38 (Or.inr sz_b21)
            have Z38 : n0 ≤ h38.size := Nat.le_trans Z35 (Nat.le_of_eq W38.size.symm)
            obtain ⟨T40, h40, X40, e40, E40, A40, D40, -, st40⟩ := newO X38 hx hZ hown (hw _ (List.mem_of_getElem? (i := 5) rfl)) (hw _ (List.mem_of_getElem? (i := 6) rfl)) (hw _ (List.mem_of_getElem? (i := 7) rfl)) e38 (g := (mkF m 141 #[.val (.int p1), .val (.int p2), .val (.int p3), .val (.int p4), .val (.long q5), .second, .val (.int p6), .val (.int w), .val (.int hh), .val (.int fi), .val (.int en), .val (.int tp), .val (.ref b2), .val (.ref b21), .unset, .unset, .unset, .unset] [])) rfl (hb hby at_141) (by decide) (by decide)
            obtain ⟨b40, g40⟩ : ∃ z, z = h38.size := ⟨_, rfl⟩
            rw [← g40] at A40 D40 st40
            have ne_b2_b40 : b2 ≠ b40 := Nat.ne_of_lt (Nat.lt_of_lt_of_le fA_b2_x38.lt (Nat.le_of_eq g40.symm))
            have ne_b21_b40 : b21 ≠ b40 := Nat.ne_of_lt (Nat.lt_of_lt_of_le V38.lt (Nat.le_of_eq g40.symm))
            have g_b40 : n0 ≤ b40 := Nat.le_trans Z38 (Nat.le_of_eq g40.symm)
            have sz_b40 : h0.size ≤ b40 := Nat.le_trans (show Keep h0 h38 [] from K38).1 (Nat.le_of_eq g40.symm)
            have fA_b2_x40 := (fA_b2_x38.ext E40)
            have fA_b21_x40 := (V38.ext E40)
            have K40 : Keep h0 h40 [] := Keep.ext K38 E40
            have Z40 : n0 ≤ h40.size := Nat.le_trans Z38 E40.1
            obtain ⟨_, _, ⟨T41, L41, k41, n41⟩, -, X41, ⟨Lc41, hQ41, l41, y41, z41⟩, st41⟩ := X40.specialBack hx (y := (⟨"com/example/rasterloom/rasterloom/op/InvertOp", "<init>", "()V"⟩ : MethodName)) rfl hown (mvT hZ (hw _ (List.mem_of_getElem? (i := 8) rfl))) (mvT hZ (hw _ (List.mem_of_getElem? (i := 9) rfl))) (mvT hZ (hw _ (List.mem_of_getElem? (i := 10) rfl))) (by decide) (backOf (W := 1) (rm2 l Z a0 hw [] b40  h40 n0 Z40 ) hZ (hw _ (List.mem_of_getElem? (i := 10) rfl)) (hw _ (List.mem_of_getElem? (i := 7) rfl)) (by decide) (by decide)) (g := (mkF m 145 #[.val (.int p1), .val (.int p2), .val (.int p3), .val (.int p4), .val (.long q5), .second, .val (.int p6), .val (.int w), .val (.int hh), .val (.int fi), .val (.int en), .val (.int tp), .val (.ref b2), .val (.ref b21), .unset, .unset, .unset, .unset] [(.ref b40), (.ref b40)])) rfl (by rw [hml]; rfl) (Steps.refl _) (a := b40) (argsL := []) (rest := [(.ref b40)]) (lenOf pd_0_1 rfl) rfl (by show 2 * 0 + _ ≤ _; exact Nat.le_of_eq rfl) (hb hby at_145) (fun _ _ => ⟨rfl, e40, (by decide : 3 + 0 ≤ _), (by decide : 12 + 0 ≤ _)⟩)
            dsimp only [Pt.U, Pt.locs, Pt.cells, Pt.slots] at X41 l41 y41 z41 st41 hQ41
            subst l41 y41 z41
            obtain ⟨rfl, N41q, e41⟩ := hQ41
            have N41 := Fr.app N38 N41q
            refine own_pre (A := T41.setTop (mkF m 150 #[.val (.int p1), .val (.int p2), .val (.int p3), .val (.int p4), .val (.long q5), .second, .val (.int p6), .val (.int w), .val (.int hh), .val (.int fi), .val (.int en), .val (.int tp), .val (.ref b2), .val (.ref b21), .val (.ref b40), .unset, .unset, .unset] [])) (fun tt kt => ?_) ?_
            · show Steps p.tables e below (Tj62.setTop (mkF m 62 #[.val (.int p1), .val (.int p2), .val (.int p3), .val (.int p4), .val (.long q5), .second, .val (.int p6), .val (.int w), .val (.int hh), .val (.int fi), .val (.int en), .val (.int tp), .unset, .unset, .unset, .unset, .unset, .unset] [])) _
              refine XS.bipush Xj62.here hx rfl (hb hby at_62) ?_
              show Steps p.tables e below (Tj62.setTop (mkF m 64 #[.val (.int p1), .val (.int p2), .val (.int p3), .val (.int p4), .val (.long q5), .second, .val (.int p6), .val (.int w), .val (.int hh), .val (.int fi), .val (.int en), .val (.int tp), .unset, .unset, .unset, .unset, .unset, .unset] [(.int (6 : Int32))])) _
              refine st2 _ ?_
              show Steps p.tables e below (T2.setTop (mkF m 66 #[.val (.int p1), .val (.int p2), .val (.int p3), .val (.int p4), .val (.long q5), .second, .val (.int p6), .val (.int w), .val (.int hh), .val (.int fi), .val (.int en), .val (.int tp), .unset, .unset, .unset, .unset, .unset, .unset] [(.ref b2)])) _
              refine XS.astore X2.here hx rfl (hb hby at_66) rfl rfl (l' := #[.val (.int p1), .val (.int p2), .val (.int p3), .val (.int p4), .val (.long q5), .second, .val (.int p6), .val (.int w), .val (.int hh), .val (.int fi), .val (.int en), .val (.int tp), .val (.ref b2), .unset, .unset, .unset, .unset, .unset]) rfl ?_
              refine XS.aload X2.here hx rfl (hb hby at_68) rfl rfl ?_
              refine XS.iconst X2.here hx rfl (hb hby at_70) ?_
              refine XS.iloadN X2.here hx rfl (hb hby at_71) rfl ?_
              show Steps p.tables e below (T2.setTop (mkF m 72 #[.val (.int p1), .val (.int p2), .val (.int p3), .val (.int p4), .val (.long q5), .second, .val (.int p6), .val (.int w), .val (.int hh), .val (.int fi), .val (.int en), .val (.int tp), .val (.ref b2), .unset, .unset, .unset, .unset, .unset] [(.int p1), (.int (0 : Int32)), (.ref b2)])) _
              refine st4 _ ?_
              show Steps p.tables e below (T4.setTop (mkF m 73 #[.val (.int p1), .val (.int p2), .val (.int p3), .val (.int p4), .val (.long q5), .second, .val (.int p6), .val (.int w), .val (.int hh), .val (.int fi), .val (.int en), .val (.int tp), .val (.ref b2), .unset, .unset, .unset, .unset, .unset] [])) _
              refine XS.aload X4.here hx rfl (hb hby at_73) rfl rfl ?_
              refine XS.iconst X4.here hx rfl (hb hby at_75) ?_
              refine XS.iloadN X4.here hx rfl (hb hby at_76) rfl ?_
              show Steps p.tables e below (T4.setTop (mkF m 77 #[.val (.int p1), .val (.int p2), .val (.int p3), .val (.int p4), .val (.long q5), .second, .val (.int p6), .val (.int w), .val (.int hh), .val (.int fi), .val (.int en), .val (.int tp), .val (.ref b2), .unset, .unset, .unset, .unset, .unset] [(.int p2), (.int (1 : Int32)), (.ref b2)])) _
              refine st7 _ ?_
              show Steps p.tables e below (T7.setTop (mkF m 78 #[.val (.int p1), .val (.int p2), .val (.int p3), .val (.int p4), .val (.long q5), .second, .val (.int p6), .val (.int w), .val (.int hh), .val (.int fi), .val (.int en), .val (.int tp), .val (.ref b2), .unset, .unset, .unset, .unset, .unset] [])) _
              refine XS.aload X7.here hx rfl (hb hby at_78) rfl rfl ?_
              refine XS.iconst X7.here hx rfl (hb hby at_80) ?_
              refine XS.iloadN X7.here hx rfl (hb hby at_81) rfl ?_
              show Steps p.tables e below (T7.setTop (mkF m 82 #[.val (.int p1), .val (.int p2), .val (.int p3), .val (.int p4), .val (.long q5), .second, .val (.int p6), .val (.int w), .val (.int hh), .val (.int fi), .val (.int en), .val (.int tp), .val (.ref b2), .unset, .unset, .unset, .unset, .unset] [(.int p3), (.int (2 : Int32)), (.ref b2)])) _
              refine st10 _ ?_
              show Steps p.tables e below (T10.setTop (mkF m 83 #[.val (.int p1), .val (.int p2), .val (.int p3), .val (.int p4), .val (.long q5), .second, .val (.int p6), .val (.int w), .val (.int hh), .val (.int fi), .val (.int en), .val (.int tp), .val (.ref b2), .unset, .unset, .unset, .unset, .unset] [])) _
              refine XS.aload X10.here hx rfl (hb hby at_83) rfl rfl ?_
              refine XS.iconst X10.here hx rfl (hb hby at_85) ?_
              refine XS.iloadN X10.here hx rfl (hb hby at_86) rfl ?_
              show Steps p.tables e below (T10.setTop (mkF m 87 #[.val (.int p1), .val (.int p2), .val (.int p3), .val (.int p4), .val (.long q5), .second, .val (.int p6), .val (.int w), .val (.int hh), .val (.int fi), .val (.int en), .val (.int tp), .val (.ref b2), .unset, .unset, .unset, .unset, .unset] [(.int p4), (.int (3 : Int32)), (.ref b2)])) _
              refine st13 _ ?_
              show Steps p.tables e below (T13.setTop (mkF m 88 #[.val (.int p1), .val (.int p2), .val (.int p3), .val (.int p4), .val (.long q5), .second, .val (.int p6), .val (.int w), .val (.int hh), .val (.int fi), .val (.int en), .val (.int tp), .val (.ref b2), .unset, .unset, .unset, .unset, .unset] [])) _
              refine XS.aload X13.here hx rfl (hb hby at_88) rfl rfl ?_
              refine XS.iconst X13.here hx rfl (hb hby at_90) ?_
              refine XS.lload X13.here hx rfl (hb hby at_91) rfl ?_
              refine XS.l2i X13.here hx rfl (hb hby at_93) rfl ?_
              show Steps p.tables e below (T13.setTop (mkF m 94 #[.val (.int p1), .val (.int p2), .val (.int p3), .val (.int p4), .val (.long q5), .second, .val (.int p6), .val (.int w), .val (.int hh), .val (.int fi), .val (.int en), .val (.int tp), .val (.ref b2), .unset, .unset, .unset, .unset, .unset] [(.int (q5.toInt32)), (.int (4 : Int32)), (.ref b2)])) _
              refine st16 _ ?_
              show Steps p.tables e below (T16.setTop (mkF m 95 #[.val (.int p1), .val (.int p2), .val (.int p3), .val (.int p4), .val (.long q5), .second, .val (.int p6), .val (.int w), .val (.int hh), .val (.int fi), .val (.int en), .val (.int tp), .val (.ref b2), .unset, .unset, .unset, .unset, .unset] [])) _
              refine XS.aload X16.here hx rfl (hb hby at_95) rfl rfl ?_
              refine XS.iconst X16.here hx rfl (hb hby at_97) ?_
              refine XS.lload X16.here hx rfl (hb hby at_98) rfl ?_
              refine XS.bipush X16.here hx rfl (hb hby at_100) ?_
              show Steps p.tables e below (T16.setTop (mkF m 102 #[.val (.int p1), .val (.int p2), .val (.int p3), .val (.int p4), .val (.long q5), .second, .val (.int p6), .val (.int w), .val (.int hh), .val (.int fi), .val (.int en), .val (.int tp), .val (.ref b2), .unset, .unset, .unset, .unset, .unset] [(.int (32 : Int32)), (.long q5), (.int (5 : Int32)), (.ref b2)])) _
              refine XS.lushr X16.here hx rfl (hb hby at_102) rfl ?_
              refine XS.l2i X16.here hx rfl (hb hby at_103) rfl ?_
              show Steps p.tables e below (T16.setTop (mkF m 104 #[.val (.int p1), .val (.int p2), .val (.int p3), .val (.int p4), .val (.long q5), .second, .val (.int p6), .val (.int w), .val (.int hh), .val (.int fi), .val (.int en), .val (.int tp), .val (.ref b2), .unset, .unset, .unset, .unset, .unset] [(.int (((q5.toUInt64 >>> ((32 : Int32) &&& 0x3f).toInt64.toUInt64).toInt64).toInt32)), (.int (5 : Int32)), (.ref b2)])) _
              refine st19 _ ?_
              show Steps p.tables e below (T19.setTop (mkF m 105 #[.val (.int p1), .val (.int p2), .val (.int p3), .val (.int p4), .val (.long q5), .second, .val (.int p6), .val (.int w), .val (.int hh), .val (.int fi), .val (.int en), .val (.int tp), .val (.ref b2), .unset, .unset, .unset, .unset, .unset] [])) _
              refine XS.bipush X19.here hx rfl (hb hby at_105) ?_
              show Steps p.tables e below (T19.setTop (mkF m 107 #[.val (.int p1), .val (.int p2), .val (.int p3), .val (.int p4), .val (.long q5), .second, .val (.int p6), .val (.int w), .val (.int hh), .val (.int fi), .val (.int en), .val (.int tp), .val (.ref b2), .unset, .unset, .unset, .unset, .unset] [(.int (6 : Int32))])) _
              refine st21 _ ?_
              show Steps p.tables e below (T21.setTop (mkF m 109 #[.val (.int p1), .val (.int p2), .val (.int p3), .val (.int p4), .val (.long q5), .second, .val (.int p6), .val (.int w), .val (.int hh), .val (.int fi), .val (.int en), .val (.int tp), .val (.ref b2), .unset, .unset, .unset, .unset, .unset] [(.ref b21)])) _
              refine XS.astore X21.here hx rfl (hb hby at_109) rfl rfl (l' := #[.val (.int p1), .val (.int p2), .val (.int p3), .val (.int p4), .val (.long q5), .second, .val (.int p6), .val (.int w), .val (.int hh), .val (.int fi), .val (.int en), .val (.int tp), .val (.ref b2), .val (.ref b21), .unset, .unset, .unset, .unset]) rfl ?_
              refine XS.aload X21.here hx rfl (hb hby at_111) rfl rfl ?_
              refine XS.iconst X21.here hx rfl (hb hby at_113) ?_
              refine XS.iconst X21.here hx rfl (hb hby at_114) ?_
              show Steps p.tables e below (T21.setTop (mkF m 115 #[.val (.int p1), .val (.int p2), .val (.int p3), .val (.int p4), .val (.long q5), .second, .val (.int p6), .val (.int w), .val (.int hh), .val (.int fi), .val (.int en), .val (.int tp), .val (.ref b2), .val (.ref b21), .unset, .unset, .unset, .unset] [(.int (-1 : Int32)), (.int (0 : Int32)), (.ref b21)])) _
              refine st23 _ ?_
              show Steps p.tables e below (T23.setTop (mkF m 116 #[.val (.int p1), .val (.int p2), .val (.int p3), .val (.int p4), .val (.long q5), .second, .val (.int p6), .val (.int w), .val (.int hh), .val (.int fi), .val (.int en), .val (.int tp), .val (.ref b2), .val (.ref b21), .unset, .unset, .unset, .unset] [])) _
              refine XS.aload X23.here hx rfl (hb hby at_116) rfl rfl ?_
              refine XS.iconst X23.here hx rfl (hb hby at_118) ?_
              refine XS.iconst X23.here hx rfl (hb hby at_119) ?_
              show Steps p.tables e below (T23.setTop (mkF m 120 #[.val (.int p1), .val (.int p2), .val (.int p3), .val (.int p4), .val (.long q5), .second, .val (.int p6), .val (.int w), .val (.int hh), .val (.int fi), .val (.int en), .val (.int tp), .val (.ref b2), .val (.ref b21), .unset, .unset, .unset, .unset] [(.int (-1 : Int32)), (.int (1 : Int32)), (.ref b21)])) _
              refine st26 _ ?_
              show Steps p.tables e below (T26.setTop (mkF m 121 #[.val (.int p1), .val (.int p2), .val (.int p3), .val (.int p4), .val (.long q5), .second, .val (.int p6), .val (.int w), .val (.int hh), .val (.int fi), .val (.int en), .val (.int tp), .val (.ref b2), .val (.ref b21), .unset, .unset, .unset, .unset] [])) _
              refine XS.aload X26.here hx rfl (hb hby at_121) rfl rfl ?_
              refine XS.iconst X26.here hx rfl (hb hby at_123) ?_
              refine XS.iconst X26.here hx rfl (hb hby at_124) ?_
              show Steps p.tables e below (T26.setTop (mkF m 125 #[.val (.int p1), .val (.int p2), .val (.int p3), .val (.int p4), .val (.long q5), .second, .val (.int p6), .val (.int w), .val (.int hh), .val (.int fi), .val (.int en), .val (.int tp), .val (.ref b2), .val (.ref b21), .unset, .unset, .unset, .unset] [(.int (-1 : Int32)), (.int (2 : Int32)), (.ref b21)])) _
              refine st29 _ ?_
              show Steps p.tables e below (T29.setTop (mkF m 126 #[.val (.int p1), .val (.int p2), .val (.int p3), .val (.int p4), .val (.long q5), .second, .val (.int p6), .val (.int w), .val (.int hh), .val (.int fi), .val (.int en), .val (.int tp), .val (.ref b2), .val (.ref b21), .unset, .unset, .unset, .unset] [])) _
              refine XS.aload X29.here hx rfl (hb hby at_126) rfl rfl ?_
              refine XS.iconst X29.here hx rfl (hb hby at_128) ?_
              refine XS.iconst X29.here hx rfl (hb hby at_129) ?_
              show Steps p.tables e below (T29.setTop (mkF m 130 #[.val (.int p1), .val (.int p2), .val (.int p3), .val (.int p4), .val (.long q5), .second, .val (.int p6), .val (.int w), .val (.int hh), .val (.int fi), .val (.int en), .val (.int tp), .val (.ref b2), .val (.ref b21), .unset, .unset, .unset, .unset] [(.int (-1 : Int32)), (.int (3 : Int32)), (.ref b21)])) _
              refine st32 _ ?_
              show Steps p.tables e below (T32.setTop (mkF m 131 #[.val (.int p1), .val (.int p2), .val (.int p3), .val (.int p4), .val (.long q5), .second, .val (.int p6), .val (.int w), .val (.int hh), .val (.int fi), .val (.int en), .val (.int tp), .val (.ref b2), .val (.ref b21), .unset, .unset, .unset, .unset] [])) _
              refine XS.aload X32.here hx rfl (hb hby at_131) rfl rfl ?_
              refine XS.iconst X32.here hx rfl (hb hby at_133) ?_
              refine XS.iconst X32.here hx rfl (hb hby at_134) ?_
              show Steps p.tables e below (T32.setTop (mkF m 135 #[.val (.int p1), .val (.int p2), .val (.int p3), .val (.int p4), .val (.long q5), .second, .val (.int p6), .val (.int w), .val (.int hh), .val (.int fi), .val (.int en), .val (.int tp), .val (.ref b2), .val (.ref b21), .unset, .unset, .unset, .unset] [(.int (-1 : Int32)), (.int (4 : Int32)), (.ref b21)])) _
              refine st35 _ ?_
              show Steps p.tables e below (T35.setTop (mkF m 136 #[.val (.int p1), .val (.int p2), .val (.int p3), .val (.int p4), .val (.long q5), .second, .val (.int p6), .val (.int w), .val (.int hh), .val (.int fi), .val (.int en), .val (.int tp), .val (.ref b2), .val (.ref b21), .unset, .unset, .unset, .unset] [])) _
              refine XS.aload X35.here hx rfl (hb hby at_136) rfl rfl ?_
              refine XS.iconst X35.here hx rfl (hb hby at_138) ?_
              refine XS.iconst X35.here hx rfl (hb hby at_139) ?_
              show Steps p.tables e below (T35.setTop (mkF m 140 #[.val (.int p1), .val (.int p2), .val (.int p3), .val (.int p4), .val (.long q5), .second, .val (.int p6), .val (.int w), .val (.int hh), .val (.int fi), .val (.int en), .val (.int tp), .val (.ref b2), .val (.ref b21), .unset, .unset, .unset, .unset] [(.int (-1 : Int32)), (.int (5 : Int32)), (.ref b21)])) _
              refine st38 _ ?_
              show Steps p.tables e below (T38.setTop (mkF m 141 #[.val (.int p1), .val (.int p2), .val (.int p3), .val (.int p4), .val (.long q5), .second, .val (.int p6), .val (.int w), .val (.int hh), .val (.int fi), .val (.int en), .val (.int tp), .val (.ref b2), .val (.ref b21), .unset, .unset, .unset, .unset] [])) _
              refine st40 _ ?_
              show Steps p.tables e below (T40.setTop (mkF m 144 #[.val (.int p1), .val (.int p2), .val (.int p3), .val (.int p4), .val (.long q5), .second, .val (.int p6), .val (.int w), .val (.int hh), .val (.int fi), .val (.int en), .val (.int tp), .val (.ref b2), .val (.ref b21), .unset, .unset, .unset, .unset] [(.ref b40)])) _
              refine XS.dup X40.here hx rfl (hb hby at_144) rfl rfl ?_
              show Steps p.tables e below (T40.setTop (mkF m 145 #[.val (.int p1), .val (.int p2), .val (.int p3), .val (.int p4), .val (.long q5), .second, .val (.int p6), .val (.int w), .val (.int hh), .val (.int fi), .val (.int en), .val (.int tp), .val (.ref b2), .val (.ref b21), .unset, .unset, .unset, .unset] [(.ref b40), (.ref b40)])) _
              refine st41.trans ?_
              show Steps p.tables e below (T41.setTop (mkF m 148 #[.val (.int p1), .val (.int p2), .val (.int p3), .val (.int p4), .val (.long q5), .second, .val (.int p6), .val (.int w), .val (.int hh), .val (.int fi), .val (.int en), .val (.int tp), .val (.ref b2), .val (.ref b21), .unset, .unset, .unset, .unset] [(.ref b40)])) _
              refine XS.astore X41.here hx rfl (hb hby at_148) rfl rfl (l' := #[.val (.int p1), .val (.int p2), .val (.int p3), .val (.int p4), .val (.long q5), .second, .val (.int p6), .val (.int w), .val (.int hh), .val (.int fi), .val (.int en), .val (.int tp), .val (.ref b2), .val (.ref b21), .val (.ref b40), .unset, .unset, .unset]) rfl ?_
              exact kt
            show own_End p e below s (T41.setTop (mkF m 150 #[.val (.int p1), .val (.int p2), .val (.int p3), .val (.int p4), .val (.long q5), .second, .val (.int p6), .val (.int w), .val (.int hh), .val (.int fi), .val (.int en), .val (.int tp), .val (.ref b2), .val (.ref b21), .val (.ref b40), .unset, .unset, .unset] [])) (Q0 Z p1 p2 p3 p4 q5 p6 h0 n0) room_1.cells room_1.slots
            have hA := (own_mul hwd hh1 hf he ht).1
            have hB := (own_mul hwd hh1 hf he ht).2.1
            have hC := (own_mul hwd hh1 hf he ht).2.2.1
            have hD := (own_mul hwd hh1 hf he ht).2.2.2
            obtain ⟨cq42, kq42, q42a, q42b, q42c⟩ := isOf hZ e41 A40
            obtain ⟨_, _, ⟨T42, L42, k42, n42⟩, -, X42, ⟨Lc42, hQ42, l42, y42, z42⟩, st42⟩ := X41.virtualBack hx (y := (⟨"com/example/rasterloom/rasterloom/op/InvertOp", "filterRows", "([IIIIII[I)V"⟩ : MethodName)) (z := (⟨"com/example/rasterloom/rasterloom/op/InvertOp", "filterRows", "([IIIIII[I)V"⟩ : MethodName)) hown (mvT hZ (hw _ (List.mem_of_getElem? (i := 19) rfl))) (mvT hZ (hw _ (List.mem_of_getElem? (i := 20) rfl))) (notFace_of_selects (args := #[]) (mvT hZ (hw _ (List.mem_of_getElem? (i := 22) rfl)))) (mvT hZ (hw _ (List.mem_of_getElem? (i := 22) rfl))) (mvT hZ (hw _ (List.mem_of_getElem? (i := 21) rfl))) (by decide) (backOf (W := 0) (rm5 l Z a0 hw [] b40 b2 tp w hh fi en b21 (own_b0_g20 p1 p2 p3 p4 q5 p6 w hh fi en tp) (own_b0_g39 p1 p2 p3 p4 q5 p6 w hh fi en tp) h40 n0 Z40 fA_b2_x40 fA_b21_x40 ne_b2_b21 g_b21 hA hB hC hD) hZ (hw _ (List.mem_of_getElem? (i := 23) rfl)) (hw _ (List.mem_of_getElem? (i := 7) rfl)) (by decide) (by decide)) q42a q42c (g := (mkF m 166 #[.val (.int p1), .val (.int p2), .val (.int p3), .val (.int p4), .val (.long q5), .second, .val (.int p6), .val (.int w), .val (.int hh), .val (.int fi), .val (.int en), .val (.int tp), .val (.ref b2), .val (.ref b21), .val (.ref b40), .unset, .unset, .unset] [(.ref b21), (.int en), (.int fi), (.int hh), (.int w), (.int tp), (.ref b2), (.ref b40)])) rfl (by rw [hml]; rfl) (Steps.refl _) (argsL := [(.ref b2), (.int tp), (.int w), (.int hh), (.int fi), (.int en), (.ref b21)]) (rest := []) (lenOf pd_0_2 rfl) rfl (by show 2 * 0 + _ ≤ _; exact Nat.le_of_eq rfl) (hb hby at_166) (fun _ _ => ⟨rfl, e41, (by decide : 3 + 0 ≤ _), (by decide : 12 + 0 ≤ _)⟩)
            dsimp only [Pt.U, Pt.locs, Pt.cells, Pt.slots] at X42 l42 y42 z42 st42 hQ42
            subst l42 y42 z42
            obtain ⟨rfl, N42q, Kq42, V42_0⟩ := hQ42
            have N42 := Fr.app N41 N42q
            have fA_b2_x42 := (fA_b2_x40.keep Kq42 (ninS ne_b2_b21 nin0))
            have fE_b40_x42 := (A40.keep Kq42)
            have K42 : Keep h0 T42.heap [] := Keep.trans K40 Kq42 (allS (Or.inr sz_b21) all0)
            have Z42 : n0 ≤ T42.heap.size := Nat.le_trans Z40 Kq42.1
            obtain ⟨_, _, ⟨T43, L43, k43, n43⟩, -, X43, ⟨Lc43, hQ43, l43, y43, z43⟩, st43⟩ := Jvm.LawKit.callS X42 hx (y := (⟨"com/example/rasterloom/rasterloom/op/InvertOpFilterRowsPinLaw", "cell", "([I[IIIII)Z"⟩ : MethodName)) hown (mvT hZ (hw _ (List.mem_of_getElem? (i := 24) rfl))) (mvT hZ (hw _ (List.mem_of_getElem? (i := 25) rfl))) (mvT hZ (hw _ (List.mem_of_getElem? (i := 26) rfl))) (mvT hZ (hw _ (List.mem_of_getElem? (i := 27) rfl))) (by decide) (backOf (W := 0) (rm6 l Z a0 hw [] b21 b2 (0 : Int32) (fi * w) (en * w) (tp * w) (own_rows tp w hh fi en (own_b0_g20 p1 p2 p3 p4 q5 p6 w hh fi en tp) (own_b0_g39 p1 p2 p3 p4 q5 p6 w hh fi en tp)) (own_b0_g20 p1 p2 p3 p4 q5 p6 w hh fi en tp) T42.heap n0 Z42 V42_0 fA_b2_x42 (by decide) (by decide) hA hB) hZ (hw _ (List.mem_of_getElem? (i := 27) rfl)) (hw _ (List.mem_of_getElem? (i := 26) rfl)) (by decide) (by decide)) (g := (mkF m 201 #[.val (.int p1), .val (.int p2), .val (.int p3), .val (.int p4), .val (.long q5), .second, .val (.int p6), .val (.int w), .val (.int hh), .val (.int fi), .val (.int en), .val (.int tp), .val (.ref b2), .val (.ref b21), .val (.ref b40), .val (.int (fi * w)), .val (.int (en * w)), .val (.int (tp * w))] [(.int (tp * w)), (.int (en * w)), (.int (fi * w)), (.int (0 : Int32)), (.ref b2), (.ref b21)])) rfl (by rw [hml]; rfl) (argsL := [(.ref b21), (.ref b2), (.int (0 : Int32)), (.int (fi * w)), (.int (en * w)), (.int (tp * w))]) (rest := []) (lenOf pd_0_3 rfl) rfl (by show 2 * 0 + _ ≤ _; exact Nat.le_of_eq rfl) (hb hby at_201) (fun _ _ => ⟨rfl, rfl, (by decide : 3 + 0 ≤ _), (by decide : 12 + 0 ≤ _)⟩)
            dsimp only [Pt.U, Pt.locs, Pt.cells, Pt.slots] at X43 l43 y43 z43 st43 hQ43
            subst l43 y43 z43
            obtain ⟨rfl, N43q, e43⟩ := hQ43
            have N43 := Fr.app N42 N43q
            refine own_pre (A := T43.setTop (mkF m 204 #[.val (.int p1), .val (.int p2), .val (.int p3), .val (.int p4), .val (.long q5), .second, .val (.int p6), .val (.int w), .val (.int hh), .val (.int fi), .val (.int en), .val (.int tp), .val (.ref b2), .val (.ref b21), .val (.ref b40), .val (.int (fi * w)), .val (.int (en * w)), .val (.int (tp * w))] [(.int (own_cell (0 : Int32) (fi * w) (en * w) (tp * w) (own_rows tp w hh fi en (own_b0_g20 p1 p2 p3 p4 q5 p6 w hh fi en tp) (own_b0_g39 p1 p2 p3 p4 q5 p6 w hh fi en tp)) (own_b0_g20 p1 p2 p3 p4 q5 p6 w hh fi en tp)))])) (fun tt kt => ?_) ?_
            · show Steps p.tables e below (T41.setTop (mkF m 150 #[.val (.int p1), .val (.int p2), .val (.int p3), .val (.int p4), .val (.long q5), .second, .val (.int p6), .val (.int w), .val (.int hh), .val (.int fi), .val (.int en), .val (.int tp), .val (.ref b2), .val (.ref b21), .val (.ref b40), .unset, .unset, .unset] [])) _
              refine XS.aload X41.here hx rfl (hb hby at_150) rfl rfl ?_
              refine XS.aload X41.here hx rfl (hb hby at_152) rfl rfl ?_
              refine XS.iload X41.here hx rfl (hb hby at_154) rfl ?_
              refine XS.iload X41.here hx rfl (hb hby at_156) rfl ?_
              show Steps p.tables e below (T41.setTop (mkF m 158 #[.val (.int p1), .val (.int p2), .val (.int p3), .val (.int p4), .val (.long q5), .second, .val (.int p6), .val (.int w), .val (.int hh), .val (.int fi), .val (.int en), .val (.int tp), .val (.ref b2), .val (.ref b21), .val (.ref b40), .unset, .unset, .unset] [(.int w), (.int tp), (.ref b2), (.ref b40)])) _
              refine XS.iload X41.here hx rfl (hb hby at_158) rfl ?_
              refine XS.iload X41.here hx rfl (hb hby at_160) rfl ?_
              refine XS.iload X41.here hx rfl (hb hby at_162) rfl ?_
              refine XS.aload X41.here hx rfl (hb hby at_164) rfl rfl ?_
              show Steps p.tables e below (T41.setTop (mkF m 166 #[.val (.int p1), .val (.int p2), .val (.int p3), .val (.int p4), .val (.long q5), .second, .val (.int p6), .val (.int w), .val (.int hh), .val (.int fi), .val (.int en), .val (.int tp), .val (.ref b2), .val (.ref b21), .val (.ref b40), .unset, .unset, .unset] [(.ref b21), (.int en), (.int fi), (.int hh), (.int w), (.int tp), (.ref b2), (.ref b40)])) _
              refine st42.trans ?_
              show Steps p.tables e below (T42.setTop (mkF m 169 #[.val (.int p1), .val (.int p2), .val (.int p3), .val (.int p4), .val (.long q5), .second, .val (.int p6), .val (.int w), .val (.int hh), .val (.int fi), .val (.int en), .val (.int tp), .val (.ref b2), .val (.ref b21), .val (.ref b40), .unset, .unset, .unset] [])) _
              refine XS.iload X42.here hx rfl (hb hby at_169) rfl ?_
              refine XS.iload X42.here hx rfl (hb hby at_171) rfl ?_
              refine XS.imul X42.here hx rfl (hb hby at_173) rfl ?_
              refine XS.istore X42.here hx rfl (hb hby at_174) rfl (l' := #[.val (.int p1), .val (.int p2), .val (.int p3), .val (.int p4), .val (.long q5), .second, .val (.int p6), .val (.int w), .val (.int hh), .val (.int fi), .val (.int en), .val (.int tp), .val (.ref b2), .val (.ref b21), .val (.ref b40), .val (.int (fi * w)), .unset, .unset]) rfl ?_
              show Steps p.tables e below (T42.setTop (mkF m 176 #[.val (.int p1), .val (.int p2), .val (.int p3), .val (.int p4), .val (.long q5), .second, .val (.int p6), .val (.int w), .val (.int hh), .val (.int fi), .val (.int en), .val (.int tp), .val (.ref b2), .val (.ref b21), .val (.ref b40), .val (.int (fi * w)), .unset, .unset] [])) _
              refine XS.iload X42.here hx rfl (hb hby at_176) rfl ?_
              refine XS.iload X42.here hx rfl (hb hby at_178) rfl ?_
              refine XS.imul X42.here hx rfl (hb hby at_180) rfl ?_
              refine XS.istore X42.here hx rfl (hb hby at_181) rfl (l' := #[.val (.int p1), .val (.int p2), .val (.int p3), .val (.int p4), .val (.long q5), .second, .val (.int p6), .val (.int w), .val (.int hh), .val (.int fi), .val (.int en), .val (.int tp), .val (.ref b2), .val (.ref b21), .val (.ref b40), .val (.int (fi * w)), .val (.int (en * w)), .unset]) rfl ?_
              show Steps p.tables e below (T42.setTop (mkF m 183 #[.val (.int p1), .val (.int p2), .val (.int p3), .val (.int p4), .val (.long q5), .second, .val (.int p6), .val (.int w), .val (.int hh), .val (.int fi), .val (.int en), .val (.int tp), .val (.ref b2), .val (.ref b21), .val (.ref b40), .val (.int (fi * w)), .val (.int (en * w)), .unset] [])) _
              refine XS.iload X42.here hx rfl (hb hby at_183) rfl ?_
              refine XS.iload X42.here hx rfl (hb hby at_185) rfl ?_
              refine XS.imul X42.here hx rfl (hb hby at_187) rfl ?_
              refine XS.istore X42.here hx rfl (hb hby at_188) rfl (l' := #[.val (.int p1), .val (.int p2), .val (.int p3), .val (.int p4), .val (.long q5), .second, .val (.int p6), .val (.int w), .val (.int hh), .val (.int fi), .val (.int en), .val (.int tp), .val (.ref b2), .val (.ref b21), .val (.ref b40), .val (.int (fi * w)), .val (.int (en * w)), .val (.int (tp * w))]) rfl ?_
              show Steps p.tables e below (T42.setTop (mkF m 190 #[.val (.int p1), .val (.int p2), .val (.int p3), .val (.int p4), .val (.long q5), .second, .val (.int p6), .val (.int w), .val (.int hh), .val (.int fi), .val (.int en), .val (.int tp), .val (.ref b2), .val (.ref b21), .val (.ref b40), .val (.int (fi * w)), .val (.int (en * w)), .val (.int (tp * w))] [])) _
              refine XS.aload X42.here hx rfl (hb hby at_190) rfl rfl ?_
              refine XS.aload X42.here hx rfl (hb hby at_192) rfl rfl ?_
              refine XS.iconst X42.here hx rfl (hb hby at_194) ?_
              refine XS.iload X42.here hx rfl (hb hby at_195) rfl ?_
              show Steps p.tables e below (T42.setTop (mkF m 197 #[.val (.int p1), .val (.int p2), .val (.int p3), .val (.int p4), .val (.long q5), .second, .val (.int p6), .val (.int w), .val (.int hh), .val (.int fi), .val (.int en), .val (.int tp), .val (.ref b2), .val (.ref b21), .val (.ref b40), .val (.int (fi * w)), .val (.int (en * w)), .val (.int (tp * w))] [(.int (fi * w)), (.int (0 : Int32)), (.ref b2), (.ref b21)])) _
              refine XS.iload X42.here hx rfl (hb hby at_197) rfl ?_
              refine XS.iload X42.here hx rfl (hb hby at_199) rfl ?_
              show Steps p.tables e below (T42.setTop (mkF m 201 #[.val (.int p1), .val (.int p2), .val (.int p3), .val (.int p4), .val (.long q5), .second, .val (.int p6), .val (.int w), .val (.int hh), .val (.int fi), .val (.int en), .val (.int tp), .val (.ref b2), .val (.ref b21), .val (.ref b40), .val (.int (fi * w)), .val (.int (en * w)), .val (.int (tp * w))] [(.int (tp * w)), (.int (en * w)), (.int (fi * w)), (.int (0 : Int32)), (.ref b2), (.ref b21)])) _
              refine st43 _ ?_
              exact kt
            show own_End p e below s (T43.setTop (mkF m 204 #[.val (.int p1), .val (.int p2), .val (.int p3), .val (.int p4), .val (.long q5), .second, .val (.int p6), .val (.int w), .val (.int hh), .val (.int fi), .val (.int en), .val (.int tp), .val (.ref b2), .val (.ref b21), .val (.ref b40), .val (.int (fi * w)), .val (.int (en * w)), .val (.int (tp * w))] [(.int (own_cell (0 : Int32) (fi * w) (en * w) (tp * w) (own_rows tp w hh fi en (own_b0_g20 p1 p2 p3 p4 q5 p6 w hh fi en tp) (own_b0_g39 p1 p2 p3 p4 q5 p6 w hh fi en tp)) (own_b0_g20 p1 p2 p3 p4 q5 p6 w hh fi en tp)))])) (Q0 Z p1 p2 p3 p4 q5 p6 h0 n0) room_1.cells room_1.slots
            by_cases hc204_44 : (own_cell (0 : Int32) (fi * w) (en * w) (tp * w) (own_rows tp w hh fi en (own_b0_g20 p1 p2 p3 p4 q5 p6 w hh fi en tp) (own_b0_g39 p1 p2 p3 p4 q5 p6 w hh fi en tp)) (own_b0_g20 p1 p2 p3 p4 q5 p6 w hh fi en tp)) = (0 : Int32)
            · refine own_pre (A := T43.setTop (mkF m 297 #[.val (.int p1), .val (.int p2), .val (.int p3), .val (.int p4), .val (.long q5), .second, .val (.int p6), .val (.int w), .val (.int hh), .val (.int fi), .val (.int en), .val (.int tp), .val (.ref b2), .val (.ref b21), .val (.ref b40), .val (.int (fi * w)), .val (.int (en * w)), .val (.int (tp * w))] [(.int (0 : Int32))])) (fun tt kt => ?_) ?_
              · show Steps p.tables e below (T43.setTop (mkF m 204 #[.val (.int p1), .val (.int p2), .val (.int p3), .val (.int p4), .val (.long q5), .second, .val (.int p6), .val (.int w), .val (.int hh), .val (.int fi), .val (.int en), .val (.int tp), .val (.ref b2), .val (.ref b21), .val (.ref b40), .val (.int (fi * w)), .val (.int (en * w)), .val (.int (tp * w))] [(.int (own_cell (0 : Int32) (fi * w) (en * w) (tp * w) (own_rows tp w hh fi en (own_b0_g20 p1 p2 p3 p4 q5 p6 w hh fi en tp) (own_b0_g39 p1 p2 p3 p4 q5 p6 w hh fi en tp)) (own_b0_g20 p1 p2 p3 p4 q5 p6 w hh fi en tp)))])) _
                refine XS.ifYes X43.here hx rfl (pc0 := 204) (pc' := 296) rfl (hb hby at_204) rfl ((if0 _ _).trans (teq hc204_44).1) (by decide) (by decide) ?_
                refine XS.iconst X43.here hx rfl (hb hby at_296) ?_
                exact kt
              show own_End p e below s (T43.setTop (mkF m 297 #[.val (.int p1), .val (.int p2), .val (.int p3), .val (.int p4), .val (.long q5), .second, .val (.int p6), .val (.int w), .val (.int hh), .val (.int fi), .val (.int en), .val (.int tp), .val (.ref b2), .val (.ref b21), .val (.ref b40), .val (.int (fi * w)), .val (.int (en * w)), .val (.int (tp * w))] [(.int (0 : Int32))])) (Q0 Z p1 p2 p3 p4 q5 p6 h0 n0) room_1.cells room_1.slots
              have hv : (own_law p1 p2 p3 p4 q5 p6) = (0 : Int32) := hj.trans (by simp only [own_law_62, if_pos hc204_44])
              obtain ⟨fs, hr, hrun, hended, hW, hsame⟩ := X43.leave (v := some (.int (0 : Int32))) (fun h => by rw [Bd.returns] at h; cases h)
              refine ⟨_, _, ?_, hrun, hended, _, _, rfl, ?_, ⟨_, rfl⟩, hW, hsame.mono (by decide) (by decide)⟩
              · exact retN X43 hx (t := .boolean) Bd.returns (by simp) (hb hby at_297) hr
              · show Q0 Z p1 p2 p3 p4 q5 p6 h0 n0 _ T43.heap _
                rw [e43]
                exact ⟨(congrArg (fun z => some (Value.int z)) hv.symm), N43⟩
            · obtain ⟨_, _, ⟨T45, L45, k45, n45⟩, -, X45, ⟨Lc45, hQ45, l45, y45, z45⟩, st45⟩ := Jvm.LawKit.callS X43 hx (y := (⟨"com/example/rasterloom/rasterloom/op/InvertOpFilterRowsPinLaw", "cell", "([I[IIIII)Z"⟩ : MethodName)) hown (mvT hZ (hw _ (List.mem_of_getElem? (i := 24) rfl))) (mvT hZ (hw _ (List.mem_of_getElem? (i := 25) rfl))) (mvT hZ (hw _ (List.mem_of_getElem? (i := 26) rfl))) (mvT hZ (hw _ (List.mem_of_getElem? (i := 27) rfl))) (by decide) (backOf (W := 0) (rm6 l Z a0 hw [] b21 b2 (1 : Int32) (fi * w) (en * w) (tp * w) (own_rows tp w hh fi en (own_b0_g20 p1 p2 p3 p4 q5 p6 w hh fi en tp) (own_b0_g39 p1 p2 p3 p4 q5 p6 w hh fi en tp)) (own_b0_g20 p1 p2 p3 p4 q5 p6 w hh fi en tp) T42.heap n0 Z42 V42_0 fA_b2_x42 (by decide) (by decide) hA hB) hZ (hw _ (List.mem_of_getElem? (i := 27) rfl)) (hw _ (List.mem_of_getElem? (i := 26) rfl)) (by decide) (by decide)) (g := (mkF m 218 #[.val (.int p1), .val (.int p2), .val (.int p3), .val (.int p4), .val (.long q5), .second, .val (.int p6), .val (.int w), .val (.int hh), .val (.int fi), .val (.int en), .val (.int tp), .val (.ref b2), .val (.ref b21), .val (.ref b40), .val (.int (fi * w)), .val (.int (en * w)), .val (.int (tp * w))] [(.int (tp * w)), (.int (en * w)), (.int (fi * w)), (.int (1 : Int32)), (.ref b2), (.ref b21)])) rfl (by rw [hml]; rfl) (argsL := [(.ref b21), (.ref b2), (.int (1 : Int32)), (.int (fi * w)), (.int (en * w)), (.int (tp * w))]) (rest := []) (lenOf pd_0_3 rfl) rfl (by show 2 * 0 + _ ≤ _; exact Nat.le_of_eq rfl) (hb hby at_218) (fun _ _ => ⟨rfl, e43, (by decide : 3 + 0 ≤ _), (by decide : 12 + 0 ≤ _)⟩)
              dsimp only [Pt.U, Pt.locs, Pt.cells, Pt.slots] at X45 l45 y45 z45 st45 hQ45
              subst l45 y45 z45
              obtain ⟨rfl, N45q, e45⟩ := hQ45
              have N45 := Fr.app N43 N45q
              refine own_pre (A := T45.setTop (mkF m 221 #[.val (.int p1), .val (.int p2), .val (.int p3), .val (.int p4), .val (.long q5), .second, .val (.int p6), .val (.int w), .val (.int hh), .val (.int fi), .val (.int en), .val (.int tp), .val (.ref b2), .val (.ref b21), .val (.ref b40), .val (.int (fi * w)), .val (.int (en * w)), .val (.int (tp * w))] [(.int (own_cell (1 : Int32) (fi * w) (en * w) (tp * w) (own_rows tp w hh fi en (own_b0_g20 p1 p2 p3 p4 q5 p6 w hh fi en tp) (own_b0_g39 p1 p2 p3 p4 q5 p6 w hh fi en tp)) (own_b0_g20 p1 p2 p3 p4 q5 p6 w hh fi en tp)))])) (fun tt kt => ?_) ?_
              · show Steps p.tables e below (T43.setTop (mkF m 204 #[.val (.int p1), .val (.int p2), .val (.int p3), .val (.int p4), .val (.long q5), .second, .val (.int p6), .val (.int w), .val (.int hh), .val (.int fi), .val (.int en), .val (.int tp), .val (.ref b2), .val (.ref b21), .val (.ref b40), .val (.int (fi * w)), .val (.int (en * w)), .val (.int (tp * w))] [(.int (own_cell (0 : Int32) (fi * w) (en * w) (tp * w) (own_rows tp w hh fi en (own_b0_g20 p1 p2 p3 p4 q5 p6 w hh fi en tp) (own_b0_g39 p1 p2 p3 p4 q5 p6 w hh fi en tp)) (own_b0_g20 p1 p2 p3 p4 q5 p6 w hh fi en tp)))])) _
                refine XS.ifNo X43.here hx rfl (hb hby at_204) rfl ((if0 _ _).trans (feq hc204_44).1) ?_
                refine XS.aload X43.here hx rfl (hb hby at_207) rfl rfl ?_
                refine XS.aload X43.here hx rfl (hb hby at_209) rfl rfl ?_
                refine XS.iconst X43.here hx rfl (hb hby at_211) ?_
                show Steps p.tables e below (T43.setTop (mkF m 212 #[.val (.int p1), .val (.int p2), .val (.int p3), .val (.int p4), .val (.long q5), .second, .val (.int p6), .val (.int w), .val (.int hh), .val (.int fi), .val (.int en), .val (.int tp), .val (.ref b2), .val (.ref b21), .val (.ref b40), .val (.int (fi * w)), .val (.int (en * w)), .val (.int (tp * w))] [(.int (1 : Int32)), (.ref b2), (.ref b21)])) _
                refine XS.iload X43.here hx rfl (hb hby at_212) rfl ?_
                refine XS.iload X43.here hx rfl (hb hby at_214) rfl ?_
                refine XS.iload X43.here hx rfl (hb hby at_216) rfl ?_
                show Steps p.tables e below (T43.setTop (mkF m 218 #[.val (.int p1), .val (.int p2), .val (.int p3), .val (.int p4), .val (.long q5), .second, .val (.int p6), .val (.int w), .val (.int hh), .val (.int fi), .val (.int en), .val (.int tp), .val (.ref b2), .val (.ref b21), .val (.ref b40), .val (.int (fi * w)), .val (.int (en * w)), .val (.int (tp * w))] [(.int (tp * w)), (.int (en * w)), (.int (fi * w)), (.int (1 : Int32)), (.ref b2), (.ref b21)])) _
                refine st45 _ ?_
                exact kt
              show own_End p e below s (T45.setTop (mkF m 221 #[.val (.int p1), .val (.int p2), .val (.int p3), .val (.int p4), .val (.long q5), .second, .val (.int p6), .val (.int w), .val (.int hh), .val (.int fi), .val (.int en), .val (.int tp), .val (.ref b2), .val (.ref b21), .val (.ref b40), .val (.int (fi * w)), .val (.int (en * w)), .val (.int (tp * w))] [(.int (own_cell (1 : Int32) (fi * w) (en * w) (tp * w) (own_rows tp w hh fi en (own_b0_g20 p1 p2 p3 p4 q5 p6 w hh fi en tp) (own_b0_g39 p1 p2 p3 p4 q5 p6 w hh fi en tp)) (own_b0_g20 p1 p2 p3 p4 q5 p6 w hh fi en tp)))])) (Q0 Z p1 p2 p3 p4 q5 p6 h0 n0) room_1.cells room_1.slots
              by_cases hc221_46 : (own_cell (1 : Int32) (fi * w) (en * w) (tp * w) (own_rows tp w hh fi en (own_b0_g20 p1 p2 p3 p4 q5 p6 w hh fi en tp) (own_b0_g39 p1 p2 p3 p4 q5 p6 w hh fi en tp)) (own_b0_g20 p1 p2 p3 p4 q5 p6 w hh fi en tp)) = (0 : Int32)
              · refine own_pre (A := T45.setTop (mkF m 297 #[.val (.int p1), .val (.int p2), .val (.int p3), .val (.int p4), .val (.long q5), .second, .val (.int p6), .val (.int w), .val (.int hh), .val (.int fi), .val (.int en), .val (.int tp), .val (.ref b2), .val (.ref b21), .val (.ref b40), .val (.int (fi * w)), .val (.int (en * w)), .val (.int (tp * w))] [(.int (0 : Int32))])) (fun tt kt => ?_) ?_
                · show Steps p.tables e below (T45.setTop (mkF m 221 #[.val (.int p1), .val (.int p2), .val (.int p3), .val (.int p4), .val (.long q5), .second, .val (.int p6), .val (.int w), .val (.int hh), .val (.int fi), .val (.int en), .val (.int tp), .val (.ref b2), .val (.ref b21), .val (.ref b40), .val (.int (fi * w)), .val (.int (en * w)), .val (.int (tp * w))] [(.int (own_cell (1 : Int32) (fi * w) (en * w) (tp * w) (own_rows tp w hh fi en (own_b0_g20 p1 p2 p3 p4 q5 p6 w hh fi en tp) (own_b0_g39 p1 p2 p3 p4 q5 p6 w hh fi en tp)) (own_b0_g20 p1 p2 p3 p4 q5 p6 w hh fi en tp)))])) _
                  refine XS.ifYes X45.here hx rfl (pc0 := 221) (pc' := 296) rfl (hb hby at_221) rfl ((if0 _ _).trans (teq hc221_46).1) (by decide) (by decide) ?_
                  refine XS.iconst X45.here hx rfl (hb hby at_296) ?_
                  exact kt
                show own_End p e below s (T45.setTop (mkF m 297 #[.val (.int p1), .val (.int p2), .val (.int p3), .val (.int p4), .val (.long q5), .second, .val (.int p6), .val (.int w), .val (.int hh), .val (.int fi), .val (.int en), .val (.int tp), .val (.ref b2), .val (.ref b21), .val (.ref b40), .val (.int (fi * w)), .val (.int (en * w)), .val (.int (tp * w))] [(.int (0 : Int32))])) (Q0 Z p1 p2 p3 p4 q5 p6 h0 n0) room_1.cells room_1.slots
                have hv : (own_law p1 p2 p3 p4 q5 p6) = (0 : Int32) := hj.trans (by simp only [own_law_62, if_neg hc204_44, if_pos hc221_46])
                obtain ⟨fs, hr, hrun, hended, hW, hsame⟩ := X45.leave (v := some (.int (0 : Int32))) (fun h => by rw [Bd.returns] at h; cases h)
                refine ⟨_, _, ?_, hrun, hended, _, _, rfl, ?_, ⟨_, rfl⟩, hW, hsame.mono (by decide) (by decide)⟩
                · exact retN X45 hx (t := .boolean) Bd.returns (by simp) (hb hby at_297) hr
                · show Q0 Z p1 p2 p3 p4 q5 p6 h0 n0 _ T45.heap _
                  rw [e45]
                  exact ⟨(congrArg (fun z => some (Value.int z)) hv.symm), N45⟩
              · obtain ⟨_, _, ⟨T47, L47, k47, n47⟩, -, X47, ⟨Lc47, hQ47, l47, y47, z47⟩, st47⟩ := Jvm.LawKit.callS X45 hx (y := (⟨"com/example/rasterloom/rasterloom/op/InvertOpFilterRowsPinLaw", "cell", "([I[IIIII)Z"⟩ : MethodName)) hown (mvT hZ (hw _ (List.mem_of_getElem? (i := 24) rfl))) (mvT hZ (hw _ (List.mem_of_getElem? (i := 25) rfl))) (mvT hZ (hw _ (List.mem_of_getElem? (i := 26) rfl))) (mvT hZ (hw _ (List.mem_of_getElem? (i := 27) rfl))) (by decide) (backOf (W := 0) (rm6 l Z a0 hw [] b21 b2 (2 : Int32) (fi * w) (en * w) (tp * w) (own_rows tp w hh fi en (own_b0_g20 p1 p2 p3 p4 q5 p6 w hh fi en tp) (own_b0_g39 p1 p2 p3 p4 q5 p6 w hh fi en tp)) (own_b0_g20 p1 p2 p3 p4 q5 p6 w hh fi en tp) T42.heap n0 Z42 V42_0 fA_b2_x42 (by decide) (by decide) hA hB) hZ (hw _ (List.mem_of_getElem? (i := 27) rfl)) (hw _ (List.mem_of_getElem? (i := 26) rfl)) (by decide) (by decide)) (g := (mkF m 235 #[.val (.int p1), .val (.int p2), .val (.int p3), .val (.int p4), .val (.long q5), .second, .val (.int p6), .val (.int w), .val (.int hh), .val (.int fi), .val (.int en), .val (.int tp), .val (.ref b2), .val (.ref b21), .val (.ref b40), .val (.int (fi * w)), .val (.int (en * w)), .val (.int (tp * w))] [(.int (tp * w)), (.int (en * w)), (.int (fi * w)), (.int (2 : Int32)), (.ref b2), (.ref b21)])) rfl (by rw [hml]; rfl) (argsL := [(.ref b21), (.ref b2), (.int (2 : Int32)), (.int (fi * w)), (.int (en * w)), (.int (tp * w))]) (rest := []) (lenOf pd_0_3 rfl) rfl (by show 2 * 0 + _ ≤ _; exact Nat.le_of_eq rfl) (hb hby at_235) (fun _ _ => ⟨rfl, e45, (by decide : 3 + 0 ≤ _), (by decide : 12 + 0 ≤ _)⟩)
                dsimp only [Pt.U, Pt.locs, Pt.cells, Pt.slots] at X47 l47 y47 z47 st47 hQ47
                subst l47 y47 z47
                obtain ⟨rfl, N47q, e47⟩ := hQ47
                have N47 := Fr.app N45 N47q
                refine own_pre (A := T47.setTop (mkF m 238 #[.val (.int p1), .val (.int p2), .val (.int p3), .val (.int p4), .val (.long q5), .second, .val (.int p6), .val (.int w), .val (.int hh), .val (.int fi), .val (.int en), .val (.int tp), .val (.ref b2), .val (.ref b21), .val (.ref b40), .val (.int (fi * w)), .val (.int (en * w)), .val (.int (tp * w))] [(.int (own_cell (2 : Int32) (fi * w) (en * w) (tp * w) (own_rows tp w hh fi en (own_b0_g20 p1 p2 p3 p4 q5 p6 w hh fi en tp) (own_b0_g39 p1 p2 p3 p4 q5 p6 w hh fi en tp)) (own_b0_g20 p1 p2 p3 p4 q5 p6 w hh fi en tp)))])) (fun tt kt => ?_) ?_
                · show Steps p.tables e below (T45.setTop (mkF m 221 #[.val (.int p1), .val (.int p2), .val (.int p3), .val (.int p4), .val (.long q5), .second, .val (.int p6), .val (.int w), .val (.int hh), .val (.int fi), .val (.int en), .val (.int tp), .val (.ref b2), .val (.ref b21), .val (.ref b40), .val (.int (fi * w)), .val (.int (en * w)), .val (.int (tp * w))] [(.int (own_cell (1 : Int32) (fi * w) (en * w) (tp * w) (own_rows tp w hh fi en (own_b0_g20 p1 p2 p3 p4 q5 p6 w hh fi en tp) (own_b0_g39 p1 p2 p3 p4 q5 p6 w hh fi en tp)) (own_b0_g20 p1 p2 p3 p4 q5 p6 w hh fi en tp)))])) _
                  refine XS.ifNo X45.here hx rfl (hb hby at_221) rfl ((if0 _ _).trans (feq hc221_46).1) ?_
                  refine XS.aload X45.here hx rfl (hb hby at_224) rfl rfl ?_
                  refine XS.aload X45.here hx rfl (hb hby at_226) rfl rfl ?_
                  refine XS.iconst X45.here hx rfl (hb hby at_228) ?_
                  show Steps p.tables e below (T45.setTop (mkF m 229 #[.val (.int p1), .val (.int p2), .val (.int p3), .val (.int p4), .val (.long q5), .second, .val (.int p6), .val (.int w), .val (.int hh), .val (.int fi), .val (.int en), .val (.int tp), .val (.ref b2), .val (.ref b21), .val (.ref b40), .val (.int (fi * w)), .val (.int (en * w)), .val (.int (tp * w))] [(.int (2 : Int32)), (.ref b2), (.ref b21)])) _
                  refine XS.iload X45.here hx rfl (hb hby at_229) rfl ?_
                  refine XS.iload X45.here hx rfl (hb hby at_231) rfl ?_
                  refine XS.iload X45.here hx rfl (hb hby at_233) rfl ?_
                  show Steps p.tables e below (T45.setTop (mkF m 235 #[.val (.int p1), .val (.int p2), .val (.int p3), .val (.int p4), .val (.long q5), .second, .val (.int p6), .val (.int w), .val (.int hh), .val (.int fi), .val (.int en), .val (.int tp), .val (.ref b2), .val (.ref b21), .val (.ref b40), .val (.int (fi * w)), .val (.int (en * w)), .val (.int (tp * w))] [(.int (tp * w)), (.int (en * w)), (.int (fi * w)), (.int (2 : Int32)), (.ref b2), (.ref b21)])) _
                  refine st47 _ ?_
                  exact kt
                show own_End p e below s (T47.setTop (mkF m 238 #[.val (.int p1), .val (.int p2), .val (.int p3), .val (.int p4), .val (.long q5), .second, .val (.int p6), .val (.int w), .val (.int hh), .val (.int fi), .val (.int en), .val (.int tp), .val (.ref b2), .val (.ref b21), .val (.ref b40), .val (.int (fi * w)), .val (.int (en * w)), .val (.int (tp * w))] [(.int (own_cell (2 : Int32) (fi * w) (en * w) (tp * w) (own_rows tp w hh fi en (own_b0_g20 p1 p2 p3 p4 q5 p6 w hh fi en tp) (own_b0_g39 p1 p2 p3 p4 q5 p6 w hh fi en tp)) (own_b0_g20 p1 p2 p3 p4 q5 p6 w hh fi en tp)))])) (Q0 Z p1 p2 p3 p4 q5 p6 h0 n0) room_1.cells room_1.slots
                by_cases hc238_48 : (own_cell (2 : Int32) (fi * w) (en * w) (tp * w) (own_rows tp w hh fi en (own_b0_g20 p1 p2 p3 p4 q5 p6 w hh fi en tp) (own_b0_g39 p1 p2 p3 p4 q5 p6 w hh fi en tp)) (own_b0_g20 p1 p2 p3 p4 q5 p6 w hh fi en tp)) = (0 : Int32)
                · refine own_pre (A := T47.setTop (mkF m 297 #[.val (.int p1), .val (.int p2), .val (.int p3), .val (.int p4), .val (.long q5), .second, .val (.int p6), .val (.int w), .val (.int hh), .val (.int fi), .val (.int en), .val (.int tp), .val (.ref b2), .val (.ref b21), .val (.ref b40), .val (.int (fi * w)), .val (.int (en * w)), .val (.int (tp * w))] [(.int (0 : Int32))])) (fun tt kt => ?_) ?_
                  · show Steps p.tables e below (T47.setTop (mkF m 238 #[.val (.int p1), .val (.int p2), .val (.int p3), .val (.int p4), .val (.long q5), .second, .val (.int p6), .val (.int w), .val (.int hh), .val (.int fi), .val (.int en), .val (.int tp), .val (.ref b2), .val (.ref b21), .val (.ref b40), .val (.int (fi * w)), .val (.int (en * w)), .val (.int (tp * w))] [(.int (own_cell (2 : Int32) (fi * w) (en * w) (tp * w) (own_rows tp w hh fi en (own_b0_g20 p1 p2 p3 p4 q5 p6 w hh fi en tp) (own_b0_g39 p1 p2 p3 p4 q5 p6 w hh fi en tp)) (own_b0_g20 p1 p2 p3 p4 q5 p6 w hh fi en tp)))])) _
                    refine XS.ifYes X47.here hx rfl (pc0 := 238) (pc' := 296) rfl (hb hby at_238) rfl ((if0 _ _).trans (teq hc238_48).1) (by decide) (by decide) ?_
                    refine XS.iconst X47.here hx rfl (hb hby at_296) ?_
                    exact kt
                  show own_End p e below s (T47.setTop (mkF m 297 #[.val (.int p1), .val (.int p2), .val (.int p3), .val (.int p4), .val (.long q5), .second, .val (.int p6), .val (.int w), .val (.int hh), .val (.int fi), .val (.int en), .val (.int tp), .val (.ref b2), .val (.ref b21), .val (.ref b40), .val (.int (fi * w)), .val (.int (en * w)), .val (.int (tp * w))] [(.int (0 : Int32))])) (Q0 Z p1 p2 p3 p4 q5 p6 h0 n0) room_1.cells room_1.slots
                  have hv : (own_law p1 p2 p3 p4 q5 p6) = (0 : Int32) := hj.trans (by simp only [own_law_62, if_neg hc204_44, if_neg hc221_46, if_pos hc238_48])
                  obtain ⟨fs, hr, hrun, hended, hW, hsame⟩ := X47.leave (v := some (.int (0 : Int32))) (fun h => by rw [Bd.returns] at h; cases h)
                  refine ⟨_, _, ?_, hrun, hended, _, _, rfl, ?_, ⟨_, rfl⟩, hW, hsame.mono (by decide) (by decide)⟩
                  · exact retN X47 hx (t := .boolean) Bd.returns (by simp) (hb hby at_297) hr
                  · show Q0 Z p1 p2 p3 p4 q5 p6 h0 n0 _ T47.heap _
                    rw [e47]
                    exact ⟨(congrArg (fun z => some (Value.int z)) hv.symm), N47⟩
                · obtain ⟨_, _, ⟨T49, L49, k49, n49⟩, -, X49, ⟨Lc49, hQ49, l49, y49, z49⟩, st49⟩ := Jvm.LawKit.callS X47 hx (y := (⟨"com/example/rasterloom/rasterloom/op/InvertOpFilterRowsPinLaw", "cell", "([I[IIIII)Z"⟩ : MethodName)) hown (mvT hZ (hw _ (List.mem_of_getElem? (i := 24) rfl))) (mvT hZ (hw _ (List.mem_of_getElem? (i := 25) rfl))) (mvT hZ (hw _ (List.mem_of_getElem? (i := 26) rfl))) (mvT hZ (hw _ (List.mem_of_getElem? (i := 27) rfl))) (by decide) (backOf (W := 0) (rm6 l Z a0 hw [] b21 b2 (3 : Int32) (fi * w) (en * w) (tp * w) (own_rows tp w hh fi en (own_b0_g20 p1 p2 p3 p4 q5 p6 w hh fi en tp) (own_b0_g39 p1 p2 p3 p4 q5 p6 w hh fi en tp)) (own_b0_g20 p1 p2 p3 p4 q5 p6 w hh fi en tp) T42.heap n0 Z42 V42_0 fA_b2_x42 (by decide) (by decide) hA hB) hZ (hw _ (List.mem_of_getElem? (i := 27) rfl)) (hw _ (List.mem_of_getElem? (i := 26) rfl)) (by decide) (by decide)) (g := (mkF m 252 #[.val (.int p1), .val (.int p2), .val (.int p3), .val (.int p4), .val (.long q5), .second, .val (.int p6), .val (.int w), .val (.int hh), .val (.int fi), .val (.int en), .val (.int tp), .val (.ref b2), .val (.ref b21), .val (.ref b40), .val (.int (fi * w)), .val (.int (en * w)), .val (.int (tp * w))] [(.int (tp * w)), (.int (en * w)), (.int (fi * w)), (.int (3 : Int32)), (.ref b2), (.ref b21)])) rfl (by rw [hml]; rfl) (argsL := [(.ref b21), (.ref b2), (.int (3 : Int32)), (.int (fi * w)), (.int (en * w)), (.int (tp * w))]) (rest := []) (lenOf pd_0_3 rfl) rfl (by show 2 * 0 + _ ≤ _; exact Nat.le_of_eq rfl) (hb hby at_252) (fun _ _ => ⟨rfl, e47, (by decide : 3 + 0 ≤ _), (by decide : 12 + 0 ≤ _)⟩)
                  dsimp only [Pt.U, Pt.locs, Pt.cells, Pt.slots] at X49 l49 y49 z49 st49 hQ49
                  subst l49 y49 z49
                  obtain ⟨rfl, N49q, e49⟩ := hQ49
                  have N49 := Fr.app N47 N49q
                  refine own_pre (A := T49.setTop (mkF m 255 #[.val (.int p1), .val (.int p2), .val (.int p3), .val (.int p4), .val (.long q5), .second, .val (.int p6), .val (.int w), .val (.int hh), .val (.int fi), .val (.int en), .val (.int tp), .val (.ref b2), .val (.ref b21), .val (.ref b40), .val (.int (fi * w)), .val (.int (en * w)), .val (.int (tp * w))] [(.int (own_cell (3 : Int32) (fi * w) (en * w) (tp * w) (own_rows tp w hh fi en (own_b0_g20 p1 p2 p3 p4 q5 p6 w hh fi en tp) (own_b0_g39 p1 p2 p3 p4 q5 p6 w hh fi en tp)) (own_b0_g20 p1 p2 p3 p4 q5 p6 w hh fi en tp)))])) (fun tt kt => ?_) ?_
                  · show Steps p.tables e below (T47.setTop (mkF m 238 #[.val (.int p1), .val (.int p2), .val (.int p3), .val (.int p4), .val (.long q5), .second, .val (.int p6), .val (.int w), .val (.int hh), .val (.int fi), .val (.int en), .val (.int tp), .val (.ref b2), .val (.ref b21), .val (.ref b40), .val (.int (fi * w)), .val (.int (en * w)), .val (.int (tp * w))] [(.int (own_cell (2 : Int32) (fi * w) (en * w) (tp * w) (own_rows tp w hh fi en (own_b0_g20 p1 p2 p3 p4 q5 p6 w hh fi en tp) (own_b0_g39 p1 p2 p3 p4 q5 p6 w hh fi en tp)) (own_b0_g20 p1 p2 p3 p4 q5 p6 w hh fi en tp)))])) _
                    refine XS.ifNo X47.here hx rfl (hb hby at_238) rfl ((if0 _ _).trans (feq hc238_48).1) ?_
                    refine XS.aload X47.here hx rfl (hb hby at_241) rfl rfl ?_
                    refine XS.aload X47.here hx rfl (hb hby at_243) rfl rfl ?_
                    refine XS.iconst X47.here hx rfl (hb hby at_245) ?_
                    show Steps p.tables e below (T47.setTop (mkF m 246 #[.val (.int p1), .val (.int p2), .val (.int p3), .val (.int p4), .val (.long q5), .second, .val (.int p6), .val (.int w), .val (.int hh), .val (.int fi), .val (.int en), .val (.int tp), .val (.ref b2), .val (.ref b21), .val (.ref b40), .val (.int (fi * w)), .val (.int (en * w)), .val (.int (tp * w))] [(.int (3 : Int32)), (.ref b2), (.ref b21)])) _
                    refine XS.iload X47.here hx rfl (hb hby at_246) rfl ?_
                    refine XS.iload X47.here hx rfl (hb hby at_248) rfl ?_
                    refine XS.iload X47.here hx rfl (hb hby at_250) rfl ?_
                    show Steps p.tables e below (T47.setTop (mkF m 252 #[.val (.int p1), .val (.int p2), .val (.int p3), .val (.int p4), .val (.long q5), .second, .val (.int p6), .val (.int w), .val (.int hh), .val (.int fi), .val (.int en), .val (.int tp), .val (.ref b2), .val (.ref b21), .val (.ref b40), .val (.int (fi * w)), .val (.int (en * w)), .val (.int (tp * w))] [(.int (tp * w)), (.int (en * w)), (.int (fi * w)), (.int (3 : Int32)), (.ref b2), (.ref b21)])) _
                    refine st49 _ ?_
                    exact kt
                  show own_End p e below s (T49.setTop (mkF m 255 #[.val (.int p1), .val (.int p2), .val (.int p3), .val (.int p4), .val (.long q5), .second, .val (.int p6), .val (.int w), .val (.int hh), .val (.int fi), .val (.int en), .val (.int tp), .val (.ref b2), .val (.ref b21), .val (.ref b40), .val (.int (fi * w)), .val (.int (en * w)), .val (.int (tp * w))] [(.int (own_cell (3 : Int32) (fi * w) (en * w) (tp * w) (own_rows tp w hh fi en (own_b0_g20 p1 p2 p3 p4 q5 p6 w hh fi en tp) (own_b0_g39 p1 p2 p3 p4 q5 p6 w hh fi en tp)) (own_b0_g20 p1 p2 p3 p4 q5 p6 w hh fi en tp)))])) (Q0 Z p1 p2 p3 p4 q5 p6 h0 n0) room_1.cells room_1.slots
                  by_cases hc255_50 : (own_cell (3 : Int32) (fi * w) (en * w) (tp * w) (own_rows tp w hh fi en (own_b0_g20 p1 p2 p3 p4 q5 p6 w hh fi en tp) (own_b0_g39 p1 p2 p3 p4 q5 p6 w hh fi en tp)) (own_b0_g20 p1 p2 p3 p4 q5 p6 w hh fi en tp)) = (0 : Int32)
                  · refine own_pre (A := T49.setTop (mkF m 297 #[.val (.int p1), .val (.int p2), .val (.int p3), .val (.int p4), .val (.long q5), .second, .val (.int p6), .val (.int w), .val (.int hh), .val (.int fi), .val (.int en), .val (.int tp), .val (.ref b2), .val (.ref b21), .val (.ref b40), .val (.int (fi * w)), .val (.int (en * w)), .val (.int (tp * w))] [(.int (0 : Int32))])) (fun tt kt => ?_) ?_
                    · show Steps p.tables e below (T49.setTop (mkF m 255 #[.val (.int p1), .val (.int p2), .val (.int p3), .val (.int p4), .val (.long q5), .second, .val (.int p6), .val (.int w), .val (.int hh), .val (.int fi), .val (.int en), .val (.int tp), .val (.ref b2), .val (.ref b21), .val (.ref b40), .val (.int (fi * w)), .val (.int (en * w)), .val (.int (tp * w))] [(.int (own_cell (3 : Int32) (fi * w) (en * w) (tp * w) (own_rows tp w hh fi en (own_b0_g20 p1 p2 p3 p4 q5 p6 w hh fi en tp) (own_b0_g39 p1 p2 p3 p4 q5 p6 w hh fi en tp)) (own_b0_g20 p1 p2 p3 p4 q5 p6 w hh fi en tp)))])) _
                      refine XS.ifYes X49.here hx rfl (pc0 := 255) (pc' := 296) rfl (hb hby at_255) rfl ((if0 _ _).trans (teq hc255_50).1) (by decide) (by decide) ?_
                      refine XS.iconst X49.here hx rfl (hb hby at_296) ?_
                      exact kt
                    show own_End p e below s (T49.setTop (mkF m 297 #[.val (.int p1), .val (.int p2), .val (.int p3), .val (.int p4), .val (.long q5), .second, .val (.int p6), .val (.int w), .val (.int hh), .val (.int fi), .val (.int en), .val (.int tp), .val (.ref b2), .val (.ref b21), .val (.ref b40), .val (.int (fi * w)), .val (.int (en * w)), .val (.int (tp * w))] [(.int (0 : Int32))])) (Q0 Z p1 p2 p3 p4 q5 p6 h0 n0) room_1.cells room_1.slots
                    have hv : (own_law p1 p2 p3 p4 q5 p6) = (0 : Int32) := hj.trans (by simp only [own_law_62, if_neg hc204_44, if_neg hc221_46, if_neg hc238_48, if_pos hc255_50])
                    obtain ⟨fs, hr, hrun, hended, hW, hsame⟩ := X49.leave (v := some (.int (0 : Int32))) (fun h => by rw [Bd.returns] at h; cases h)
                    refine ⟨_, _, ?_, hrun, hended, _, _, rfl, ?_, ⟨_, rfl⟩, hW, hsame.mono (by decide) (by decide)⟩
                    · exact retN X49 hx (t := .boolean) Bd.returns (by simp) (hb hby at_297) hr
                    · show Q0 Z p1 p2 p3 p4 q5 p6 h0 n0 _ T49.heap _
                      rw [e49]
                      exact ⟨(congrArg (fun z => some (Value.int z)) hv.symm), N49⟩
                  · obtain ⟨_, _, ⟨T51, L51, k51, n51⟩, -, X51, ⟨Lc51, hQ51, l51, y51, z51⟩, st51⟩ := Jvm.LawKit.callS X49 hx (y := (⟨"com/example/rasterloom/rasterloom/op/InvertOpFilterRowsPinLaw", "cell", "([I[IIIII)Z"⟩ : MethodName)) hown (mvT hZ (hw _ (List.mem_of_getElem? (i := 24) rfl))) (mvT hZ (hw _ (List.mem_of_getElem? (i := 25) rfl))) (mvT hZ (hw _ (List.mem_of_getElem? (i := 26) rfl))) (mvT hZ (hw _ (List.mem_of_getElem? (i := 27) rfl))) (by decide) (backOf (W := 0) (rm6 l Z a0 hw [] b21 b2 (4 : Int32) (fi * w) (en * w) (tp * w) (own_rows tp w hh fi en (own_b0_g20 p1 p2 p3 p4 q5 p6 w hh fi en tp) (own_b0_g39 p1 p2 p3 p4 q5 p6 w hh fi en tp)) (own_b0_g20 p1 p2 p3 p4 q5 p6 w hh fi en tp) T42.heap n0 Z42 V42_0 fA_b2_x42 (by decide) (by decide) hA hB) hZ (hw _ (List.mem_of_getElem? (i := 27) rfl)) (hw _ (List.mem_of_getElem? (i := 26) rfl)) (by decide) (by decide)) (g := (mkF m 269 #[.val (.int p1), .val (.int p2), .val (.int p3), .val (.int p4), .val (.long q5), .second, .val (.int p6), .val (.int w), .val (.int hh), .val (.int fi), .val (.int en), .val (.int tp), .val (.ref b2), .val (.ref b21), .val (.ref b40), .val (.int (fi * w)), .val (.int (en * w)), .val (.int (tp * w))] [(.int (tp * w)), (.int (en * w)), (.int (fi * w)), (.int (4 : Int32)), (.ref b2), (.ref b21)])) rfl (by rw [hml]; rfl) (argsL := [(.ref b21), (.ref b2), (.int (4 : Int32)), (.int (fi * w)), (.int (en * w)), (.int (tp * w))]) (rest := []) (lenOf pd_0_3 rfl) rfl (by show 2 * 0 + _ ≤ _; exact Nat.le_of_eq rfl) (hb hby at_269) (fun _ _ => ⟨rfl, e49, (by decide : 3 + 0 ≤ _), (by decide : 12 + 0 ≤ _)⟩)
                    dsimp only [Pt.U, Pt.locs, Pt.cells, Pt.slots] at X51 l51 y51 z51 st51 hQ51
                    subst l51 y51 z51
                    obtain ⟨rfl, N51q, e51⟩ := hQ51
                    have N51 := Fr.app N49 N51q
                    refine own_pre (A := T51.setTop (mkF m 272 #[.val (.int p1), .val (.int p2), .val (.int p3), .val (.int p4), .val (.long q5), .second, .val (.int p6), .val (.int w), .val (.int hh), .val (.int fi), .val (.int en), .val (.int tp), .val (.ref b2), .val (.ref b21), .val (.ref b40), .val (.int (fi * w)), .val (.int (en * w)), .val (.int (tp * w))] [(.int (own_cell (4 : Int32) (fi * w) (en * w) (tp * w) (own_rows tp w hh fi en (own_b0_g20 p1 p2 p3 p4 q5 p6 w hh fi en tp) (own_b0_g39 p1 p2 p3 p4 q5 p6 w hh fi en tp)) (own_b0_g20 p1 p2 p3 p4 q5 p6 w hh fi en tp)))])) (fun tt kt => ?_) ?_
                    · show Steps p.tables e below (T49.setTop (mkF m 255 #[.val (.int p1), .val (.int p2), .val (.int p3), .val (.int p4), .val (.long q5), .second, .val (.int p6), .val (.int w), .val (.int hh), .val (.int fi), .val (.int en), .val (.int tp), .val (.ref b2), .val (.ref b21), .val (.ref b40), .val (.int (fi * w)), .val (.int (en * w)), .val (.int (tp * w))] [(.int (own_cell (3 : Int32) (fi * w) (en * w) (tp * w) (own_rows tp w hh fi en (own_b0_g20 p1 p2 p3 p4 q5 p6 w hh fi en tp) (own_b0_g39 p1 p2 p3 p4 q5 p6 w hh fi en tp)) (own_b0_g20 p1 p2 p3 p4 q5 p6 w hh fi en tp)))])) _
                      refine XS.ifNo X49.here hx rfl (hb hby at_255) rfl ((if0 _ _).trans (feq hc255_50).1) ?_
                      refine XS.aload X49.here hx rfl (hb hby at_258) rfl rfl ?_
                      refine XS.aload X49.here hx rfl (hb hby at_260) rfl rfl ?_
                      refine XS.iconst X49.here hx rfl (hb hby at_262) ?_
                      show Steps p.tables e below (T49.setTop (mkF m 263 #[.val (.int p1), .val (.int p2), .val (.int p3), .val (.int p4), .val (.long q5), .second, .val (.int p6), .val (.int w), .val (.int hh), .val (.int fi), .val (.int en), .val (.int tp), .val (.ref b2), .val (.ref b21), .val (.ref b40), .val (.int (fi * w)), .val (.int (en * w)), .val (.int (tp * w))] [(.int (4 : Int32)), (.ref b2), (.ref b21)])) _
                      refine XS.iload X49.here hx rfl (hb hby at_263) rfl ?_
                      refine XS.iload X49.here hx rfl (hb hby at_265) rfl ?_
                      refine XS.iload X49.here hx rfl (hb hby at_267) rfl ?_
                      show Steps p.tables e below (T49.setTop (mkF m 269 #[.val (.int p1), .val (.int p2), .val (.int p3), .val (.int p4), .val (.long q5), .second, .val (.int p6), .val (.int w), .val (.int hh), .val (.int fi), .val (.int en), .val (.int tp), .val (.ref b2), .val (.ref b21), .val (.ref b40), .val (.int (fi * w)), .val (.int (en * w)), .val (.int (tp * w))] [(.int (tp * w)), (.int (en * w)), (.int (fi * w)), (.int (4 : Int32)), (.ref b2), (.ref b21)])) _
                      refine st51 _ ?_
                      exact kt
                    show own_End p e below s (T51.setTop (mkF m 272 #[.val (.int p1), .val (.int p2), .val (.int p3), .val (.int p4), .val (.long q5), .second, .val (.int p6), .val (.int w), .val (.int hh), .val (.int fi), .val (.int en), .val (.int tp), .val (.ref b2), .val (.ref b21), .val (.ref b40), .val (.int (fi * w)), .val (.int (en * w)), .val (.int (tp * w))] [(.int (own_cell (4 : Int32) (fi * w) (en * w) (tp * w) (own_rows tp w hh fi en (own_b0_g20 p1 p2 p3 p4 q5 p6 w hh fi en tp) (own_b0_g39 p1 p2 p3 p4 q5 p6 w hh fi en tp)) (own_b0_g20 p1 p2 p3 p4 q5 p6 w hh fi en tp)))])) (Q0 Z p1 p2 p3 p4 q5 p6 h0 n0) room_1.cells room_1.slots
                    by_cases hc272_52 : (own_cell (4 : Int32) (fi * w) (en * w) (tp * w) (own_rows tp w hh fi en (own_b0_g20 p1 p2 p3 p4 q5 p6 w hh fi en tp) (own_b0_g39 p1 p2 p3 p4 q5 p6 w hh fi en tp)) (own_b0_g20 p1 p2 p3 p4 q5 p6 w hh fi en tp)) = (0 : Int32)
                    · refine own_pre (A := T51.setTop (mkF m 297 #[.val (.int p1), .val (.int p2), .val (.int p3), .val (.int p4), .val (.long q5), .second, .val (.int p6), .val (.int w), .val (.int hh), .val (.int fi), .val (.int en), .val (.int tp), .val (.ref b2), .val (.ref b21), .val (.ref b40), .val (.int (fi * w)), .val (.int (en * w)), .val (.int (tp * w))] [(.int (0 : Int32))])) (fun tt kt => ?_) ?_
                      · show Steps p.tables e below (T51.setTop (mkF m 272 #[.val (.int p1), .val (.int p2), .val (.int p3), .val (.int p4), .val (.long q5), .second, .val (.int p6), .val (.int w), .val (.int hh), .val (.int fi), .val (.int en), .val (.int tp), .val (.ref b2), .val (.ref b21), .val (.ref b40), .val (.int (fi * w)), .val (.int (en * w)), .val (.int (tp * w))] [(.int (own_cell (4 : Int32) (fi * w) (en * w) (tp * w) (own_rows tp w hh fi en (own_b0_g20 p1 p2 p3 p4 q5 p6 w hh fi en tp) (own_b0_g39 p1 p2 p3 p4 q5 p6 w hh fi en tp)) (own_b0_g20 p1 p2 p3 p4 q5 p6 w hh fi en tp)))])) _
                        refine XS.ifYes X51.here hx rfl (pc0 := 272) (pc' := 296) rfl (hb hby at_272) rfl ((if0 _ _).trans (teq hc272_52).1) (by decide) (by decide) ?_
                        refine XS.iconst X51.here hx rfl (hb hby at_296) ?_
                        exact kt
                      show own_End p e below s (T51.setTop (mkF m 297 #[.val (.int p1), .val (.int p2), .val (.int p3), .val (.int p4), .val (.long q5), .second, .val (.int p6), .val (.int w), .val (.int hh), .val (.int fi), .val (.int en), .val (.int tp), .val (.ref b2), .val (.ref b21), .val (.ref b40), .val (.int (fi * w)), .val (.int (en * w)), .val (.int (tp * w))] [(.int (0 : Int32))])) (Q0 Z p1 p2 p3 p4 q5 p6 h0 n0) room_1.cells room_1.slots
                      have hv : (own_law p1 p2 p3 p4 q5 p6) = (0 : Int32) := hj.trans (by simp only [own_law_62, if_neg hc204_44, if_neg hc221_46, if_neg hc238_48, if_neg hc255_50, if_pos hc272_52])
                      obtain ⟨fs, hr, hrun, hended, hW, hsame⟩ := X51.leave (v := some (.int (0 : Int32))) (fun h => by rw [Bd.returns] at h; cases h)
                      refine ⟨_, _, ?_, hrun, hended, _, _, rfl, ?_, ⟨_, rfl⟩, hW, hsame.mono (by decide) (by decide)⟩
                      · exact retN X51 hx (t := .boolean) Bd.returns (by simp) (hb hby at_297) hr
                      · show Q0 Z p1 p2 p3 p4 q5 p6 h0 n0 _ T51.heap _
                        rw [e51]
                        exact ⟨(congrArg (fun z => some (Value.int z)) hv.symm), N51⟩
                    · obtain ⟨_, _, ⟨T53, L53, k53, n53⟩, -, X53, ⟨Lc53, hQ53, l53, y53, z53⟩, st53⟩ := Jvm.LawKit.callS X51 hx (y := (⟨"com/example/rasterloom/rasterloom/op/InvertOpFilterRowsPinLaw", "cell", "([I[IIIII)Z"⟩ : MethodName)) hown (mvT hZ (hw _ (List.mem_of_getElem? (i := 24) rfl))) (mvT hZ (hw _ (List.mem_of_getElem? (i := 25) rfl))) (mvT hZ (hw _ (List.mem_of_getElem? (i := 26) rfl))) (mvT hZ (hw _ (List.mem_of_getElem? (i := 27) rfl))) (by decide) (backOf (W := 0) (rm6 l Z a0 hw [] b21 b2 (5 : Int32) (fi * w) (en * w) (tp * w) (own_rows tp w hh fi en (own_b0_g20 p1 p2 p3 p4 q5 p6 w hh fi en tp) (own_b0_g39 p1 p2 p3 p4 q5 p6 w hh fi en tp)) (own_b0_g20 p1 p2 p3 p4 q5 p6 w hh fi en tp) T42.heap n0 Z42 V42_0 fA_b2_x42 (by decide) (by decide) hA hB) hZ (hw _ (List.mem_of_getElem? (i := 27) rfl)) (hw _ (List.mem_of_getElem? (i := 26) rfl)) (by decide) (by decide)) (g := (mkF m 286 #[.val (.int p1), .val (.int p2), .val (.int p3), .val (.int p4), .val (.long q5), .second, .val (.int p6), .val (.int w), .val (.int hh), .val (.int fi), .val (.int en), .val (.int tp), .val (.ref b2), .val (.ref b21), .val (.ref b40), .val (.int (fi * w)), .val (.int (en * w)), .val (.int (tp * w))] [(.int (tp * w)), (.int (en * w)), (.int (fi * w)), (.int (5 : Int32)), (.ref b2), (.ref b21)])) rfl (by rw [hml]; rfl) (argsL := [(.ref b21), (.ref b2), (.int (5 : Int32)), (.int (fi * w)), (.int (en * w)), (.int (tp * w))]) (rest := []) (lenOf pd_0_3 rfl) rfl (by show 2 * 0 + _ ≤ _; exact Nat.le_of_eq rfl) (hb hby at_286) (fun _ _ => ⟨rfl, e51, (by decide : 3 + 0 ≤ _), (by decide : 12 + 0 ≤ _)⟩)
                      dsimp only [Pt.U, Pt.locs, Pt.cells, Pt.slots] at X53 l53 y53 z53 st53 hQ53
                      subst l53 y53 z53
                      obtain ⟨rfl, N53q, e53⟩ := hQ53
                      have N53 := Fr.app N51 N53q
                      refine own_pre (A := T53.setTop (mkF m 289 #[.val (.int p1), .val (.int p2), .val (.int p3), .val (.int p4), .val (.long q5), .second, .val (.int p6), .val (.int w), .val (.int hh), .val (.int fi), .val (.int en), .val (.int tp), .val (.ref b2), .val (.ref b21), .val (.ref b40), .val (.int (fi * w)), .val (.int (en * w)), .val (.int (tp * w))] [(.int (own_cell (5 : Int32) (fi * w) (en * w) (tp * w) (own_rows tp w hh fi en (own_b0_g20 p1 p2 p3 p4 q5 p6 w hh fi en tp) (own_b0_g39 p1 p2 p3 p4 q5 p6 w hh fi en tp)) (own_b0_g20 p1 p2 p3 p4 q5 p6 w hh fi en tp)))])) (fun tt kt => ?_) ?_
                      · show Steps p.tables e below (T51.setTop (mkF m 272 #[.val (.int p1), .val (.int p2), .val (.int p3), .val (.int p4), .val (.long q5), .second, .val (.int p6), .val (.int w), .val (.int hh), .val (.int fi), .val (.int en), .val (.int tp), .val (.ref b2), .val (.ref b21), .val (.ref b40), .val (.int (fi * w)), .val (.int (en * w)), .val (.int (tp * w))] [(.int (own_cell (4 : Int32) (fi * w) (en * w) (tp * w) (own_rows tp w hh fi en (own_b0_g20 p1 p2 p3 p4 q5 p6 w hh fi en tp) (own_b0_g39 p1 p2 p3 p4 q5 p6 w hh fi en tp)) (own_b0_g20 p1 p2 p3 p4 q5 p6 w hh fi en tp)))])) _
                        refine XS.ifNo X51.here hx rfl (hb hby at_272) rfl ((if0 _ _).trans (feq hc272_52).1) ?_
                        refine XS.aload X51.here hx rfl (hb hby at_275) rfl rfl ?_
                        refine XS.aload X51.here hx rfl (hb hby at_277) rfl rfl ?_
                        refine XS.iconst X51.here hx rfl (hb hby at_279) ?_
                        show Steps p.tables e below (T51.setTop (mkF m 280 #[.val (.int p1), .val (.int p2), .val (.int p3), .val (.int p4), .val (.long q5), .second, .val (.int p6), .val (.int w), .val (.int hh), .val (.int fi), .val (.int en), .val (.int tp), .val (.ref b2), .val (.ref b21), .val (.ref b40), .val (.int (fi * w)), .val (.int (en * w)), .val (.int (tp * w))] [(.int (5 : Int32)), (.ref b2), (.ref b21)])) _
                        refine XS.iload X51.here hx rfl (hb hby at_280) rfl ?_
                        refine XS.iload X51.here hx rfl (hb hby at_282) rfl ?_
                        refine XS.iload X51.here hx rfl (hb hby at_284) rfl ?_
                        show Steps p.tables e below (T51.setTop (mkF m 286 #[.val (.int p1), .val (.int p2), .val (.int p3), .val (.int p4), .val (.long q5), .second, .val (.int p6), .val (.int w), .val (.int hh), .val (.int fi), .val (.int en), .val (.int tp), .val (.ref b2), .val (.ref b21), .val (.ref b40), .val (.int (fi * w)), .val (.int (en * w)), .val (.int (tp * w))] [(.int (tp * w)), (.int (en * w)), (.int (fi * w)), (.int (5 : Int32)), (.ref b2), (.ref b21)])) _
                        refine st53 _ ?_
                        exact kt
                      show own_End p e below s (T53.setTop (mkF m 289 #[.val (.int p1), .val (.int p2), .val (.int p3), .val (.int p4), .val (.long q5), .second, .val (.int p6), .val (.int w), .val (.int hh), .val (.int fi), .val (.int en), .val (.int tp), .val (.ref b2), .val (.ref b21), .val (.ref b40), .val (.int (fi * w)), .val (.int (en * w)), .val (.int (tp * w))] [(.int (own_cell (5 : Int32) (fi * w) (en * w) (tp * w) (own_rows tp w hh fi en (own_b0_g20 p1 p2 p3 p4 q5 p6 w hh fi en tp) (own_b0_g39 p1 p2 p3 p4 q5 p6 w hh fi en tp)) (own_b0_g20 p1 p2 p3 p4 q5 p6 w hh fi en tp)))])) (Q0 Z p1 p2 p3 p4 q5 p6 h0 n0) room_1.cells room_1.slots
                      by_cases hc289_54 : (own_cell (5 : Int32) (fi * w) (en * w) (tp * w) (own_rows tp w hh fi en (own_b0_g20 p1 p2 p3 p4 q5 p6 w hh fi en tp) (own_b0_g39 p1 p2 p3 p4 q5 p6 w hh fi en tp)) (own_b0_g20 p1 p2 p3 p4 q5 p6 w hh fi en tp)) = (0 : Int32)
                      · refine own_pre (A := T53.setTop (mkF m 297 #[.val (.int p1), .val (.int p2), .val (.int p3), .val (.int p4), .val (.long q5), .second, .val (.int p6), .val (.int w), .val (.int hh), .val (.int fi), .val (.int en), .val (.int tp), .val (.ref b2), .val (.ref b21), .val (.ref b40), .val (.int (fi * w)), .val (.int (en * w)), .val (.int (tp * w))] [(.int (0 : Int32))])) (fun tt kt => ?_) ?_
                        · show Steps p.tables e below (T53.setTop (mkF m 289 #[.val (.int p1), .val (.int p2), .val (.int p3), .val (.int p4), .val (.long q5), .second, .val (.int p6), .val (.int w), .val (.int hh), .val (.int fi), .val (.int en), .val (.int tp), .val (.ref b2), .val (.ref b21), .val (.ref b40), .val (.int (fi * w)), .val (.int (en * w)), .val (.int (tp * w))] [(.int (own_cell (5 : Int32) (fi * w) (en * w) (tp * w) (own_rows tp w hh fi en (own_b0_g20 p1 p2 p3 p4 q5 p6 w hh fi en tp) (own_b0_g39 p1 p2 p3 p4 q5 p6 w hh fi en tp)) (own_b0_g20 p1 p2 p3 p4 q5 p6 w hh fi en tp)))])) _
                          refine XS.ifYes X53.here hx rfl (pc0 := 289) (pc' := 296) rfl (hb hby at_289) rfl ((if0 _ _).trans (teq hc289_54).1) (by decide) (by decide) ?_
                          refine XS.iconst X53.here hx rfl (hb hby at_296) ?_
                          exact kt
                        show own_End p e below s (T53.setTop (mkF m 297 #[.val (.int p1), .val (.int p2), .val (.int p3), .val (.int p4), .val (.long q5), .second, .val (.int p6), .val (.int w), .val (.int hh), .val (.int fi), .val (.int en), .val (.int tp), .val (.ref b2), .val (.ref b21), .val (.ref b40), .val (.int (fi * w)), .val (.int (en * w)), .val (.int (tp * w))] [(.int (0 : Int32))])) (Q0 Z p1 p2 p3 p4 q5 p6 h0 n0) room_1.cells room_1.slots
                        have hv : (own_law p1 p2 p3 p4 q5 p6) = (0 : Int32) := hj.trans (by simp only [own_law_62, if_neg hc204_44, if_neg hc221_46, if_neg hc238_48, if_neg hc255_50, if_neg hc272_52, if_pos hc289_54])
                        obtain ⟨fs, hr, hrun, hended, hW, hsame⟩ := X53.leave (v := some (.int (0 : Int32))) (fun h => by rw [Bd.returns] at h; cases h)
                        refine ⟨_, _, ?_, hrun, hended, _, _, rfl, ?_, ⟨_, rfl⟩, hW, hsame.mono (by decide) (by decide)⟩
                        · exact retN X53 hx (t := .boolean) Bd.returns (by simp) (hb hby at_297) hr
                        · show Q0 Z p1 p2 p3 p4 q5 p6 h0 n0 _ T53.heap _
                          rw [e53]
                          exact ⟨(congrArg (fun z => some (Value.int z)) hv.symm), N53⟩
                      · refine own_pre (A := T53.setTop (mkF m 297 #[.val (.int p1), .val (.int p2), .val (.int p3), .val (.int p4), .val (.long q5), .second, .val (.int p6), .val (.int w), .val (.int hh), .val (.int fi), .val (.int en), .val (.int tp), .val (.ref b2), .val (.ref b21), .val (.ref b40), .val (.int (fi * w)), .val (.int (en * w)), .val (.int (tp * w))] [(.int (1 : Int32))])) (fun tt kt => ?_) ?_
                        · show Steps p.tables e below (T53.setTop (mkF m 289 #[.val (.int p1), .val (.int p2), .val (.int p3), .val (.int p4), .val (.long q5), .second, .val (.int p6), .val (.int w), .val (.int hh), .val (.int fi), .val (.int en), .val (.int tp), .val (.ref b2), .val (.ref b21), .val (.ref b40), .val (.int (fi * w)), .val (.int (en * w)), .val (.int (tp * w))] [(.int (own_cell (5 : Int32) (fi * w) (en * w) (tp * w) (own_rows tp w hh fi en (own_b0_g20 p1 p2 p3 p4 q5 p6 w hh fi en tp) (own_b0_g39 p1 p2 p3 p4 q5 p6 w hh fi en tp)) (own_b0_g20 p1 p2 p3 p4 q5 p6 w hh fi en tp)))])) _
                          refine XS.ifNo X53.here hx rfl (hb hby at_289) rfl ((if0 _ _).trans (feq hc289_54).1) ?_
                          refine XS.iconst X53.here hx rfl (hb hby at_292) ?_
                          refine XS.goto X53.here hx rfl (pc0 := 293) (pc' := 297) rfl (hb hby at_293) (by decide) (by decide) ?_
                          exact kt
                        show own_End p e below s (T53.setTop (mkF m 297 #[.val (.int p1), .val (.int p2), .val (.int p3), .val (.int p4), .val (.long q5), .second, .val (.int p6), .val (.int w), .val (.int hh), .val (.int fi), .val (.int en), .val (.int tp), .val (.ref b2), .val (.ref b21), .val (.ref b40), .val (.int (fi * w)), .val (.int (en * w)), .val (.int (tp * w))] [(.int (1 : Int32))])) (Q0 Z p1 p2 p3 p4 q5 p6 h0 n0) room_1.cells room_1.slots
                        have hv : (own_law p1 p2 p3 p4 q5 p6) = (1 : Int32) := hj.trans (by simp only [own_law_62, if_neg hc204_44, if_neg hc221_46, if_neg hc238_48, if_neg hc255_50, if_neg hc272_52, if_neg hc289_54])
                        obtain ⟨fs, hr, hrun, hended, hW, hsame⟩ := X53.leave (v := some (.int (1 : Int32))) (fun h => by rw [Bd.returns] at h; cases h)
                        refine ⟨_, _, ?_, hrun, hended, _, _, rfl, ?_, ⟨_, rfl⟩, hW, hsame.mono (by decide) (by decide)⟩
                        · exact retN X53 hx (t := .boolean) Bd.returns (by simp) (hb hby at_297) hr
                        · show Q0 Z p1 p2 p3 p4 q5 p6 h0 n0 _ T53.heap _
                          rw [e53]
                          exact ⟨(congrArg (fun z => some (Value.int z)) hv.symm), N53⟩
          exact j62 _ _ X1 e1 N1 (own_max (fi - (1 : Int32)) (0 : Int32)) (own_tp hf) (hj.trans (by simp only [own_law_52]))
        exact j52 _ _ Xj33 ej33 Nj33 (fi + ((((p6.toUInt32 >>> ((5 : Int32) &&& 31).toUInt32).toInt32) &&& (3 : Int32)) % ((hh - fi) + (1 : Int32)))) (own_en p6 hh1 hf) (hj.trans (by simp only [own_law_33]))
      exact j33 _ _ Xj20 ej20 Nj20 ((((p6.toUInt32 >>> ((3 : Int32) &&& 31).toUInt32).toInt32) &&& (3 : Int32)) % (hh + (1 : Int32))) (own_fi p6 hh1) (hj.trans (by simp only [own_law_20]))
    exact j20 _ _ Xj8 ej8 Nj8 ((1 : Int32) + ((((p6.toUInt32 >>> ((1 : Int32) &&& 31).toUInt32).toInt32) &&& (3 : Int32)) % (3 : Int32))) (own_hh p6) (hj.trans (by simp only [own_law_8]))
  exact j8 _ _ X0 e0 N0 ((1 : Int32) + (p6 &&& (1 : Int32))) (own_w p6) (hj.trans (by simp only [own_law]))
theorem own_nat {i : Int32} (h : 0 ≤ i.toInt) : (i.toNatClampNeg : Int) = i.toInt := by
  show ((i.toInt.toNat : Nat) : Int) = i.toInt
  omega
theorem own_xor (x : Int32) : (x ^^^ (-1 : Int32)).toInt = -x.toInt - 1 := by
  have e : (x ^^^ (-1 : Int32)) = -x - 1 := by
    apply Int32.toBitVec_inj.mp
    show x.toBitVec ^^^ BitVec.allOnes 32 = -x.toBitVec - 1#32
    rw [BitVec.xor_allOnes, BitVec.neg_eq_not_add, BitVec.add_sub_cancel]
  have a := c_ineg x
  have b := c_isub (-x) 1
  have r0 := rng32 x
  have r1 := rng32 (-x)
  have r2 := rng32 (-x - 1)
  have z : (1 : Int32).toInt = 1 := by decide
  rw [e]; omega
theorem own_inv_eq (x : Int32) : own_inv x = ((x ^^^ (-1 : Int32)) &&& (16777215 : Int32)) := by
  apply Int32.toInt_inj.mp
  have m : ((x ^^^ (-1 : Int32)) &&& (16777215 : Int32)).toInt = (x ^^^ (-1 : Int32)).toInt % (2 ^ 24 : Nat) := c_mask _ 16777215 24 (by decide) (by decide)
  have n := own_xor x
  have z : (255 : Int32).toInt = 255 := by decide
  have s1 : (x >>> ((16 : Int32) &&& 31)).toInt = x.toInt / (2 ^ 16 : Nat) := c_ishr x 16 16 (by decide)
  have s2 : (x >>> ((8 : Int32) &&& 31)).toInt = x.toInt / (2 ^ 8 : Nat) := c_ishr x 8 8 (by decide)
  have t1 : ((x >>> ((16 : Int32) &&& 31)) &&& (255 : Int32)).toInt = (x >>> ((16 : Int32) &&& 31)).toInt % (2 ^ 8 : Nat) := c_mask _ 255 8 (by decide) (by decide)
  have t2 : ((x >>> ((8 : Int32) &&& 31)) &&& (255 : Int32)).toInt = (x >>> ((8 : Int32) &&& 31)).toInt % (2 ^ 8 : Nat) := c_mask _ 255 8 (by decide) (by decide)
  have t3 : (x &&& (255 : Int32)).toInt = x.toInt % (2 ^ 8 : Nat) := c_mask _ 255 8 (by decide) (by decide)
  rw [m, n]
  unfold own_inv
  generalize ((x >>> ((16 : Int32) &&& 31)) &&& (255 : Int32)) = A at *
  generalize ((x >>> ((8 : Int32) &&& 31)) &&& (255 : Int32)) = B at *
  generalize (x &&& (255 : Int32)) = C at *
  have a1 := c_isub 255 A
  have a2 := c_isub 255 B
  have a3 := c_isub 255 C
  have r1 := rng32 (255 - A)
  have r2 := rng32 (255 - B)
  have r3 := rng32 (255 - C)
  have b1 : (255 - A).toInt = 255 - A.toInt := by omega
  have b2 : (255 - B).toInt = 255 - B.toInt := by omega
  have b3 : (255 - C).toInt = 255 - C.toInt := by omega
  clear a1 a2 a3 r1 r2 r3
  generalize (255 - A) = U at *
  generalize (255 - B) = V at *
  generalize (255 - C) = W at *
  have c1 : ((U <<< ((16 : Int32) &&& 31)).toInt - U.toInt * (2 ^ 16 : Nat)) % 4294967296 = 0 := c_ishl U 16 16 (by decide)
  have c2 : ((V <<< ((8 : Int32) &&& 31)).toInt - V.toInt * (2 ^ 8 : Nat)) % 4294967296 = 0 := c_ishl V 8 8 (by decide)
  have q1 := rng32 (U <<< ((16 : Int32) &&& 31))
  have q2 := rng32 (V <<< ((8 : Int32) &&& 31))
  have d1 : (U <<< ((16 : Int32) &&& 31)).toInt = U.toInt * 65536 := by omega
  have d2 : (V <<< ((8 : Int32) &&& 31)).toInt = V.toInt * 256 := by omega
  clear c1 c2 q1 q2
  generalize (U <<< ((16 : Int32) &&& 31)) = P at *
  generalize (V <<< ((8 : Int32) &&& 31)) = Q at *
  have o1 := c_or P Q 16 (by decide) 65536 rfl (by omega) (by omega) (by omega)
  have p1 := rng32 (P ||| Q)
  have f1 : (P ||| Q).toInt = P.toInt + Q.toInt := by omega
  clear o1 p1
  generalize (P ||| Q) = S at *
  have o2 := c_or S W 8 (by decide) 256 rfl (by omega) (by omega) (by omega)
  have p2 := rng32 (S ||| W)
  have f2 : (S ||| W).toInt = S.toInt + W.toInt := by omega
  rw [f2]; omega
theorem own_loop (p3 p4 p5 p6 p7 : Int32) (gs g : Nat → Int32) (hA : 0 ≤ (p3 * p4).toInt) (hC : (p7 * p4).toInt ≤ 6) (j : Nat) : ∀ (k : Nat) (ix : Int32) (gg : Nat → Int32), (p3 * p4).toInt ≤ ix.toInt → ix.toInt ≤ (p7 * p4).toInt → (p7 * p4).toInt - ix.toInt < k →
    own_rows_17 p3 p4 p5 p6 p7 gs g ix gg k j = if ix.toInt ≤ j ∧ j < (p7 * p4).toInt then ((gs ((j : Int) - (p3 * p4).toInt).toNat ^^^ (-1 : Int32)) &&& (16777215 : Int32)) else gg j := by
  intro k
  induction k with
  | zero => intro ix gg h1 h2 h3; omega
  | succ k ih =>
    intro ix gg h1 h2 h3
    unfold own_rows_17
    by_cases q : ix < (p7 * p4)
    · have q' := Int32.lt_iff_toInt_lt.mp q
      have z : (1 : Int32).toInt = 1 := by decide
      have a := c_iadd ix 1
      have r := rng32 (ix + 1)
      have e : (ix + 1).toInt = ix.toInt + 1 := by omega
      have ei := own_nat (i := ix) (by omega)
      have s := c_isub ix (p3 * p4)
      have rs := rng32 (ix - p3 * p4)
      have rx := rng32 ix
      have es : (ix - p3 * p4).toInt = ix.toInt - (p3 * p4).toInt := by omega
      rw [if_pos q, ih _ _ (by omega) (by omega) (by omega), e]
      by_cases u : (j : Int) = ix.toInt
      · have u2 : j = ix.toNatClampNeg := by omega
        have u3 : (ix - p3 * p4).toNatClampNeg = ((j : Int) - (p3 * p4).toInt).toNat := by
          show (ix - p3 * p4).toInt.toNat = _
          rw [es, u]
        rw [if_neg (by omega), if_pos (by omega)]
        show (if j = ix.toNatClampNeg then ((gs (ix - p3 * p4).toNatClampNeg ^^^ (-1 : Int32)) &&& (16777215 : Int32)) else gg j) = _
        rw [if_pos u2, u3]
      · have u2 : ¬ j = ix.toNatClampNeg := by omega
        have v : (if j = ix.toNatClampNeg then ((gs (ix - p3 * p4).toNatClampNeg ^^^ (-1 : Int32)) &&& (16777215 : Int32)) else gg j) = gg j := if_neg u2
        by_cases t : ix.toInt ≤ j ∧ j < (p7 * p4).toInt
        · rw [if_pos t, if_pos (by omega)]
        · rw [if_neg t, if_neg (by omega)]; exact v
    · have q' : ¬ ix.toInt < (p7 * p4).toInt := fun u => q (Int32.lt_iff_toInt_lt.mpr u)
      rw [if_neg q, if_neg (by omega)]
theorem own_rows_eq (p3 p4 p5 p6 p7 : Int32) (gs g : Nat → Int32) (hA : 0 ≤ (p3 * p4).toInt) (hB : (p3 * p4).toInt ≤ (p6 * p4).toInt) (hC : (p7 * p4).toInt ≤ 6) (hD : (p6 * p4).toInt ≤ (p7 * p4).toInt) (j : Nat) :
    own_rows p3 p4 p5 p6 p7 gs g j = if (p6 * p4).toInt ≤ j ∧ j < (p7 * p4).toInt then ((gs ((j : Int) - (p3 * p4).toInt).toNat ^^^ (-1 : Int32)) &&& (16777215 : Int32)) else g j := by
  unfold own_rows
  rw [own_loop p3 p4 p5 p6 p7 gs g hA hC j _ _ _ hB hD (by omega)]
theorem own_cell_one (i : Int32) (j : Nat) (hj : i.toInt = j) (p3 p4 p5 p6 p7 : Int32) (gs g : Nat → Int32) (hg : g j = (-1 : Int32)) (hA : 0 ≤ (p3 * p4).toInt) (hB : (p3 * p4).toInt ≤ (p6 * p4).toInt) (hC : (p7 * p4).toInt ≤ 6) (hD : (p6 * p4).toInt ≤ (p7 * p4).toInt) : own_cell i (p6 * p4) (p7 * p4) (p3 * p4) (own_rows p3 p4 p5 p6 p7 gs g) gs = 1 := by
  have ij : i.toNatClampNeg = j := by show i.toInt.toNat = j; omega
  have r := own_rows_eq p3 p4 p5 p6 p7 gs g hA hB hC hD j
  unfold own_cell
  rw [ij]
  by_cases q : i < (p6 * p4)
  · have q' := Int32.lt_iff_toInt_lt.mp q
    rw [if_neg (by omega)] at r
    rw [if_pos q, if_pos (r.trans hg)]
  · have q' : ¬ i.toInt < (p6 * p4).toInt := fun u => q (Int32.lt_iff_toInt_lt.mpr u)
    rw [if_neg q]
    by_cases t : i < (p7 * p4)
    · have t' := Int32.lt_iff_toInt_lt.mp t
      rw [if_pos (by omega)] at r
      have s := c_isub i (p3 * p4)
      have rs := rng32 (i - p3 * p4)
      have ri := rng32 i
      have u3 : (i - p3 * p4).toNatClampNeg = ((j : Int) - (p3 * p4).toInt).toNat := by
        show (i - p3 * p4).toInt.toNat = _
        have : (i - p3 * p4).toInt = i.toInt - (p3 * p4).toInt := by omega
        rw [this, hj]
      rw [if_pos t, r, own_inv_eq, u3, if_pos rfl]
    · have t' : ¬ i.toInt < (p7 * p4).toInt := fun u => t (Int32.lt_iff_toInt_lt.mpr u)
      rw [if_neg (by omega)] at r
      rw [if_neg t, if_pos (r.trans hg)]
theorem own_62 (p1 p2 p3 p4 : Int32) (q5 : Int64) (p6 w hh fi en tp : Int32) (hA : 0 ≤ (tp * w).toInt) (hB : (tp * w).toInt ≤ (fi * w).toInt) (hC : (en * w).toInt ≤ 6) (hD : (fi * w).toInt ≤ (en * w).toInt) : own_law_62 p1 p2 p3 p4 q5 p6 w hh fi en tp = 1 := by
  have z10 : ¬ ((1 : Int32) = 0) := by decide
  unfold own_law_62
  rw [own_cell_one 0 0 (by decide) tp w hh fi en _ _ rfl hA hB hC hD, own_cell_one 1 1 (by decide) tp w hh fi en _ _ rfl hA hB hC hD, own_cell_one 2 2 (by decide) tp w hh fi en _ _ rfl hA hB hC hD, own_cell_one 3 3 (by decide) tp w hh fi en _ _ rfl hA hB hC hD, own_cell_one 4 4 (by decide) tp w hh fi en _ _ rfl hA hB hC hD, own_cell_one 5 5 (by decide) tp w hh fi en _ _ rfl hA hB hC hD]
  simp only [if_neg z10]
theorem own_true (a b c d : Int32) (mix : Int64) (shape : Int32) : own_law a b c d mix shape = 1 := by
  have hwd := own_w shape
  have hh1 := own_hh shape
  unfold own_law own_law_8 own_law_20 own_law_33 own_law_52
  generalize ((1 : Int32) + (shape &&& (1 : Int32))) = w at *
  generalize ((1 : Int32) + ((((shape.toUInt32 >>> ((1 : Int32) &&& 31).toUInt32).toInt32) &&& (3 : Int32)) % (3 : Int32))) = hh at *
  have hf := own_fi shape hh1
  generalize ((((shape.toUInt32 >>> ((3 : Int32) &&& 31).toUInt32).toInt32) &&& (3 : Int32)) % (hh + (1 : Int32))) = fi at *
  have he := own_en shape hh1 hf
  have ht := own_tp hf
  have m := own_mul hwd hh1 hf he ht
  exact own_62 _ _ _ _ _ _ _ _ _ _ _ m.1 m.2.1 m.2.2.1 m.2.2.2

set_option maxRecDepth 65536 in
set_option maxHeartbeats 40000000 in
theorem comes_1 {Post : Tables → Env → Array Value → State → Outcome → State → Prop} (hpost : ∀ tb e args s v u, (limb_1_1.after args s (.returned v) u = true ∧ limb_1_2.after args s (.returned v) u = true ∧ True) → FrameEnd s (.returned v) u (Jvm.fieldLocs frame_1_writes args s ++ Jvm.arrayLocs frame_1_arrays args s ++ Jvm.staticLocs frame_1_statics s) 16 128 → Post tb e args s (.returned v) u) :
    ArmFor flags0 classFile x code maxLocals ret World_1 tables_1 room_1 Calls_1 rest_1 Pre_1 Post := by
  intro l hfl _ _ p e ha hc hk s m args below hf hA hF happ hP
  obtain ⟨hcalls, hrest, hpre⟩ := hP
  obtain ⟨-, -, -, hnamed, -, -, -, hat⟩ := (Spec.applies_iff hf).mp happ
  obtain ⟨hg, hn⟩ := and_e (Cond.before_iff.mp (show (Jvm.Cond.and given_1 narrow_1).before args s = true from hpre))
  obtain ⟨g1, g2⟩ := and_e hg
  obtain ⟨g3, g4⟩ := and_e g2
  obtain ⟨g5, g6⟩ := and_e g4
  obtain ⟨g7, g8⟩ := and_e g6
  obtain ⟨g9, g10⟩ := and_e g8
  obtain ⟨g11, g12⟩ := and_e g10
  obtain ⟨w0, w1, w2, w3, w4, w5, rfl⟩ : ∃ w0 w1 w2 w3 w4 w5 : Value, args = #[w0, w1, w2, w3, w4, w5] := by
    have hs : args.size = 6 := by simpa [Cond.value, given_1] using g1
    obtain ⟨L⟩ := args
    match L, hs with
    | [w0, w1, w2, w3, w4, w5], _ => exact ⟨w0, w1, w2, w3, w4, w5, rfl⟩
  have hw := fun d (hd : d ∈ tables_1) => atoms_spec (ws := Jvm.Cond.code x code maxLocals ret :: tables_1) hat d (List.mem_cons_of_mem _ hd)
  have hfit : Fit s := fun {y c} hc i hi => by
    obtain ⟨ha, rfl⟩ := Array.getElem?_eq_some_iff.mp hc
    have q := List.all_eq_true.mp ((Array.all_eq_true_iff_forall_mem.mp hF) _ (Array.getElem_mem ha)) i (List.mem_range.mpr hi)
    simpa [Array.getElem?_eq_getElem hi] using q
  obtain ⟨i0, ei0⟩ := is_v g3
  obtain rfl : w0 = (.int i0) := Option.some.inj ei0
  obtain ⟨i1, ei1⟩ := is_v g5
  obtain rfl : w1 = (.int i1) := Option.some.inj ei1
  obtain ⟨i2, ei2⟩ := is_v g7
  obtain rfl : w2 = (.int i2) := Option.some.inj ei2
  obtain ⟨i3, ei3⟩ := is_v g9
  obtain rfl : w3 = (.int i3) := Option.some.inj ei3
  obtain ⟨i4, ei4⟩ := isL_v g11
  obtain rfl : w4 = (.long i4) := Option.some.inj ei4
  obtain ⟨i5, ei5⟩ := is_v g12
  obtain rfl : w5 = (.int i5) := Option.some.inj ei5
  obtain ⟨n, o, h1, h2, h3, _, L, rfl, ⟨rfl, N⟩, hq⟩ := rm0 l s _ hw tables_1 i0 i1 i2 i3 i4 i5 s.heap s.heap.size (Nat.le_refl _)  p e ha hc hk s m _ below hf ((Spec.applies_iff_loose hf).mp happ).1 ⟨rfl, State.Warmed39.refl s, rfl⟩ trivial
  refine ⟨n, _, h1, h2, h3, hpost _ _ _ _ _ _ ⟨Cond.after_iff.mpr rfl, Cond.after_iff.mpr (eq_i res_at (Term.int_eval (1)) (congrArg Value.int (own_true i0 i1 i2 i3 i4 i5))), trivial⟩ ⟨hq.1, hq.2.1, (hq.2.2.sift fun y hy => Or.inr (N y hy)).mono (by decide) (by decide)⟩⟩
theorem main_1_1 : Claimed_1_1 := comes_1 fun _ _ _ _ _ _ h hF => ⟨h.1, hF⟩
theorem main_1_2 : Claimed_1_2 := comes_1 fun _ _ _ _ _ _ h hF => ⟨h.2.1, hF⟩
end Jvm.Pilot.@@N@@
namespace Jvm.Pilot.@@N@@
open Jvm Jvm.ClassFile Sem Op Lib Jvm.Free Jvm.Stand Jvm.Pilot.@@N@@.Jvm.D
/-! MADE BY PROGRAM (witnessworld.py) out of the Statement's table words and the real class files: 12 classes; the members and pool entries that the words name. The judged class is class 1, her method 3. -/
namespace start1
open Jvm.ClassFile
def u (s : String) : CpInfo := .utf8 (stringToUtf16 s)
/-- a pool by its gaps: so many unusable entries, then the entry; so many at the end -/
def gap : Nat → List CpInfo → List CpInfo
  | 0, r => r
  | n + 1, r => .unusable :: gap n r
def poolList (es : List (Nat × CpInfo)) (last : Nat) : List CpInfo := es.foldr (fun e r => gap e.1 (e.2 :: r)) (gap last [])
def pool (es : List (Nat × CpInfo)) (last : Nat) : Array CpInfo := ⟨poolList es last⟩
def fileOf (pool : Array CpInfo) (this : Nat) (attrs : Array Attribute := #[]) (ms : Array MethodInfo := #[]) (fl : Nat := 33) (sup : Nat := 0) (ifs : Array Nat := #[]) (fds : Array FieldInfo := #[]) : ClassFile where
  minorVersion := 0
  majorVersion := 65
  constantPool := pool
  accessFlags := fl
  thisClass := this
  superClass := sup
  interfaces := ifs
  fields := fds
  methods := ms
  attributes := attrs
def plain (name : String) (sup : Option ClassId) : Class where
  name := name
  kind := .ordinary
  loader := none
  accessFlags := 33
  super := sup
  interfaces := #[]
  cf := none
  fields := #[]
  methods := #[]
  instanceTypes := #[]
  staticTypes := #[]
  resolved := #[]
  callSites := []
  init := .initialized
  statics := none
  mirror := none

def pool0 : Array CpInfo := pool [(5, u "<init>"), (0, u "()V"), (1, .class_ 10), (1, u "java/lang/Object")] 113

def k0c0 : Code := { maxStack := 0, maxLocals := 1, code := object_method_1_code, exceptionTable := #[], attributes := #[] }
def k0m0 : Method := { name := "<init>", desc := "()V", sig := { parameters := [], returnType := none }, accessFlags := 1, code := some k0c0 }
/-- java/lang/Object -/
def k0 : Class := { plain "java/lang/Object" none with
  accessFlags := 33
  interfaces := #[]
  cf := some (fileOf pool0 8 #[] #[{ accessFlags := 1, nameIndex := 5, descriptorIndex := 6, attributes := #[] }] 33 0 #[] #[])
  fields := #[]
  methods := #[k0m0]
  instanceTypes := #[]
  staticTypes := #[]
  resolved := Array.replicate 124 none
  statics := none }

def pool1 : Array CpInfo := pool [(2, .class_ 4), (0, .nameAndType 5 6), (0, u "java/lang/Object"), (0, u "<init>"), (0, u "()V"), (0, .methodref 8 9), (0, .class_ 10), (0, .nameAndType 11 12), (0, u "com/example/rasterloom/rasterloom/op/InvertOpFilterRowsPinLaw"), (0, u "inv"), (0, u "(I)I"), (0, .methodref 14 15), (0, .class_ 16), (0, .nameAndType 17 18), (0, u "java/lang/Math"), (0, u "max"), (0, u "(II)I"), (0, .class_ 20), (0, u "com/example/rasterloom/rasterloom/op/InvertOp"), (0, .methodref 19 3), (0, .methodref 19 23), (0, .nameAndType 24 25), (0, u "filterRows"), (0, u "([IIIIII[I)V"), (0, .methodref 8 27), (0, .nameAndType 28 29), (0, u "cell"), (0, u "([I[IIIII)Z"), (3, u "law"), (0, u "(IIIIJI)Z")] 4

def k1m0 : Method := { name := "<init>", desc := "()V", sig := { parameters := [], returnType := none }, accessFlags := 2, code := none }
def k1c1 : Code := { maxStack := 3, maxLocals := 4, code := method_2_code, exceptionTable := #[], attributes := #[] }
def k1m1 : Method := { name := "inv", desc := "(I)I", sig := { parameters := [.int], returnType := some .int }, accessFlags := 10, code := some k1c1 }
def k1c2 : Code := { maxStack := 4, maxLocals := 6, code := method_3_code, exceptionTable := #[], attributes := #[] }
def k1m2 : Method := { name := "cell", desc := "([I[IIIII)Z", sig := { parameters := [(.array .int), (.array .int), .int, .int, .int, .int], returnType := some .boolean }, accessFlags := 10, code := some k1c2 }
def k1c3 : Code := { maxStack := 8, maxLocals := 18, code := code, exceptionTable := #[], attributes := #[] }
def k1m3 : Method := { name := "law", desc := "(IIIIJI)Z", sig := { parameters := [.int, .int, .int, .int, .long, .int], returnType := some .boolean }, accessFlags := 9, code := some k1c3 }
/-- com/example/rasterloom/rasterloom/op/InvertOpFilterRowsPinLaw -/
def k1 : Class := { plain "com/example/rasterloom/rasterloom/op/InvertOpFilterRowsPinLaw" (some 0) with
  accessFlags := 49
  interfaces := #[]
  cf := some (fileOf pool1 8 #[] #[{ accessFlags := 2, nameIndex := 5, descriptorIndex := 6, attributes := #[] }, { accessFlags := 10, nameIndex := 11, descriptorIndex := 12, attributes := #[] }, { accessFlags := 10, nameIndex := 28, descriptorIndex := 29, attributes := #[] }, { accessFlags := 9, nameIndex := 33, descriptorIndex := 34, attributes := #[] }] 49 2 #[] #[])
  fields := #[]
  methods := #[k1m0, k1m1, k1m2, k1m3]
  instanceTypes := #[]
  staticTypes := #[]
  resolved := Array.replicate 39 none
  statics := none }

def pool2 : Array CpInfo := pool [(1, .class_ 2), (0, u "java/lang/Math"), (1, .class_ 6), (1, u "java/lang/Object"), (0, u "<init>"), (0, u "()V"), (89, .class_ 100), (1, u "java/lang/Math$RandomNumberGeneratorHolder"), (71, u "negativeZeroFloatBits"), (0, u "J"), (2, u "negativeZeroDoubleBits"), (21, u "max"), (46, u "$assertionsDisabled"), (0, u "Z"), (88, u "(II)I"), (2, u "twoToTheDoubleScaleDown"), (0, u "D"), (4, u "twoToTheDoubleScaleUp"), (9, u "E"), (3, u "PI"), (2, u "TAU"), (2, u "DEGREES_TO_RADIANS"), (0, u "RADIANS_TO_DEGREES")] 94

def k2m0 : Method := { name := "<init>", desc := "()V", sig := { parameters := [], returnType := none }, accessFlags := 2, code := none }
def k2c1 : Code := { maxStack := 2, maxLocals := 2, code := jdk_29_method_65_code, exceptionTable := #[], attributes := #[] }
def k2m1 : Method := { name := "max", desc := "(II)I", sig := { parameters := [.int, .int], returnType := some .int }, accessFlags := 9, code := some k2c1 }
/-- java/lang/Math -/
def k2 : Class := { plain "java/lang/Math" (some 0) with
  accessFlags := 49
  interfaces := #[]
  cf := some (fileOf pool2 1 #[.nestMembers #[98]] #[{ accessFlags := 2, nameIndex := 7, descriptorIndex := 8, attributes := #[] }, { accessFlags := 9, nameIndex := 198, descriptorIndex := 335, attributes := #[] }] 49 4 #[] #[{ accessFlags := 25, nameIndex := 354, descriptorIndex := 339, attributes := #[] }, { accessFlags := 25, nameIndex := 358, descriptorIndex := 339, attributes := #[] }, { accessFlags := 25, nameIndex := 361, descriptorIndex := 339, attributes := #[] }, { accessFlags := 26, nameIndex := 364, descriptorIndex := 339, attributes := #[] }, { accessFlags := 26, nameIndex := 365, descriptorIndex := 339, attributes := #[] }, { accessFlags := 26, nameIndex := 172, descriptorIndex := 173, attributes := #[] }, { accessFlags := 26, nameIndex := 176, descriptorIndex := 173, attributes := #[] }, { accessFlags := 8, nameIndex := 344, descriptorIndex := 339, attributes := #[] }, { accessFlags := 8, nameIndex := 338, descriptorIndex := 339, attributes := #[] }, { accessFlags := 4120, nameIndex := 245, descriptorIndex := 246, attributes := #[] }])
  fields := #[{ name := "E", type := .double, accessFlags := 25, slot := 0, constantValue := 0 }, { name := "PI", type := .double, accessFlags := 25, slot := 1, constantValue := 0 }, { name := "TAU", type := .double, accessFlags := 25, slot := 2, constantValue := 0 }, { name := "DEGREES_TO_RADIANS", type := .double, accessFlags := 26, slot := 3, constantValue := 0 }, { name := "RADIANS_TO_DEGREES", type := .double, accessFlags := 26, slot := 4, constantValue := 0 }, { name := "negativeZeroFloatBits", type := .long, accessFlags := 26, slot := 5, constantValue := 0 }, { name := "negativeZeroDoubleBits", type := .long, accessFlags := 26, slot := 6, constantValue := 0 }, { name := "twoToTheDoubleScaleUp", type := .double, accessFlags := 8, slot := 7, constantValue := 0 }, { name := "twoToTheDoubleScaleDown", type := .double, accessFlags := 8, slot := 8, constantValue := 0 }, { name := "$assertionsDisabled", type := .boolean, accessFlags := 4120, slot := 9, constantValue := 0 }]
  methods := #[k2m0, k2m1]
  instanceTypes := #[]
  staticTypes := #[.double, .double, .double, .double, .double, .long, .long, .double, .double, .boolean]
  resolved := Array.replicate 460 none
  statics := none }

def pool3 : Array CpInfo := pool [(1, u "java/awt/image/BufferedImageOp"), (0, .class_ 1), (0, u "java/lang/Object"), (0, .class_ 3)] 0

/-- java/awt/image/BufferedImageOp -/
def k3 : Class := { plain "java/awt/image/BufferedImageOp" (some 0) with
  accessFlags := 1537
  interfaces := #[]
  cf := some (fileOf pool3 2 #[] #[] 1537 4 #[] #[])
  fields := #[]
  methods := #[]
  instanceTypes := #[]
  staticTypes := #[]
  resolved := Array.replicate 5 none
  statics := none }

def pool4 : Array CpInfo := pool [(3, .methodref 4 5), (0, .class_ 6), (0, .nameAndType 7 8), (0, u "java/lang/Object"), (0, u "<init>"), (0, u "()V"), (40, .class_ 50), (0, u "com/example/rasterloom/rasterloom/op/RgbOp"), (108, .class_ 160), (0, u "com/example/rasterloom/rasterloom/op/RgbOp$Band"), (49, .class_ 211), (0, u "java/awt/image/BufferedImageOp"), (0, u "ALPHA"), (0, u "I"), (1, u "MAX_PIXELS"), (1, u "BAND_PIXELS")] 60

def k4c0 : Code := { maxStack := 1, maxLocals := 1, code := prog_36_method_1_code, exceptionTable := #[], attributes := #[] }
def k4m0 : Method := { name := "<init>", desc := "()V", sig := { parameters := [], returnType := none }, accessFlags := 0, code := some k4c0 }
/-- com/example/rasterloom/rasterloom/op/RgbOp -/
def k4 : Class := { plain "com/example/rasterloom/rasterloom/op/RgbOp" (some 0) with
  accessFlags := 1056
  interfaces := #[3]
  cf := some (fileOf pool4 49 #[.nestMembers #[159]] #[{ accessFlags := 0, nameIndex := 7, descriptorIndex := 8, attributes := #[] }] 1056 4 #[210] #[{ accessFlags := 26, nameIndex := 212, descriptorIndex := 213, attributes := #[] }, { accessFlags := 26, nameIndex := 215, descriptorIndex := 213, attributes := #[] }, { accessFlags := 26, nameIndex := 217, descriptorIndex := 213, attributes := #[] }])
  fields := #[{ name := "ALPHA", type := .int, accessFlags := 26, slot := 0, constantValue := 0 }, { name := "MAX_PIXELS", type := .int, accessFlags := 26, slot := 1, constantValue := 0 }, { name := "BAND_PIXELS", type := .int, accessFlags := 26, slot := 2, constantValue := 0 }]
  methods := #[k4m0]
  instanceTypes := #[]
  staticTypes := #[.int, .int, .int]
  resolved := Array.replicate 278 none
  statics := none }

def pool5 : Array CpInfo := pool [(1, .methodref 2 3), (0, .class_ 4), (0, .nameAndType 5 6), (0, u "com/example/rasterloom/rasterloom/op/RgbOp"), (0, u "<init>"), (0, u "()V"), (0, .integer 16777215), (20, .class_ 29), (0, u "com/example/rasterloom/rasterloom/op/InvertOp"), (2, u "filterRows"), (0, u "([IIIIII[I)V")] 4

def k5c0 : Code := { maxStack := 1, maxLocals := 1, code := prog_27_method_1_code, exceptionTable := #[], attributes := #[] }
def k5m0 : Method := { name := "<init>", desc := "()V", sig := { parameters := [], returnType := none }, accessFlags := 1, code := some k5c0 }
def k5c1 : Code := { maxStack := 5, maxLocals := 11, code := prog_27_method_2_code, exceptionTable := #[], attributes := #[] }
def k5m1 : Method := { name := "filterRows", desc := "([IIIIII[I)V", sig := { parameters := [(.array .int), .int, .int, .int, .int, .int, (.array .int)], returnType := none }, accessFlags := 0, code := some k5c1 }
/-- com/example/rasterloom/rasterloom/op/InvertOp -/
def k5 : Class := { plain "com/example/rasterloom/rasterloom/op/InvertOp" (some 4) with
  accessFlags := 49
  interfaces := #[]
  cf := some (fileOf pool5 28 #[] #[{ accessFlags := 1, nameIndex := 5, descriptorIndex := 6, attributes := #[] }, { accessFlags := 0, nameIndex := 32, descriptorIndex := 33, attributes := #[] }] 49 2 #[] #[])
  fields := #[]
  methods := #[k5m0, k5m1]
  instanceTypes := #[]
  staticTypes := #[]
  resolved := Array.replicate 38 none
  statics := none }

def pool6 : Array CpInfo := pool [(1, u "java/lang/Cloneable"), (0, .class_ 1), (0, u "java/lang/Object"), (0, .class_ 3)] 3

/-- java/lang/Cloneable -/
def k6 : Class := { plain "java/lang/Cloneable" (some 0) with
  accessFlags := 1537
  interfaces := #[]
  cf := some (fileOf pool6 2 #[] #[] 1537 4 #[] #[])
  fields := #[]
  methods := #[]
  instanceTypes := #[]
  staticTypes := #[]
  resolved := Array.replicate 8 none
  statics := none }

def pool7 : Array CpInfo := pool [(1, u "java/io/Serializable"), (0, .class_ 1), (0, u "java/lang/Object"), (0, .class_ 3)] 3

/-- java/io/Serializable -/
def k7 : Class := { plain "java/io/Serializable" (some 0) with
  accessFlags := 1537
  interfaces := #[]
  cf := some (fileOf pool7 2 #[] #[] 1537 4 #[] #[])
  fields := #[]
  methods := #[]
  instanceTypes := #[]
  staticTypes := #[]
  resolved := Array.replicate 8 none
  statics := none }

/-- the primitive byte -/
def k8 : Class := { plain "byte" none with kind := .primitive 'B', accessFlags := 0x411 }
/-- [B -/
def k9 : Class := { plain "[B" (some 0) with kind := .array 8 .byte, interfaces := #[6, 7], accessFlags := 1041 }

/-- the primitive int -/
def k10 : Class := { plain "int" none with kind := .primitive 'I', accessFlags := 0x411 }
/-- [I -/
def k11 : Class := { plain "[I" (some 0) with kind := .array 10 .int, interfaces := #[6, 7], accessFlags := 1041 }

def heap : Heap := #[]
def classes : Array Class := #[k0, k1, k2, k3, k4, k5, k6, k7, k8, k9, k10, k11]
def interned : List (Array UInt16 × Addr) := []
def slotsUsed : Nat := 0
def theMethod : MethodId := ⟨1, 3⟩
def args0 : Array Value := #[.int 5, .int 9, .int 3, .int 9, .long 3, .int 7]
def aboutOver (below : List Frame) : State where
  vm := { classes := classes, interned := interned.toArray }
  heap := heap
  slotsUsed := slotsUsed
  threads := #[{ frames := .invoking theMethod args0 :: below }]
def below0 : List Frame := [.native { method := ⟨0, 0⟩, args := #[] }]
def about1 : State := aboutOver below0
def p0 : Program := .bare "" "" ""
def e0 : Env := launch0.env 0 0 0
theorem w_frames : about1.frames = Frame.invoking theMethod args0 :: below0 := rfl
set_option maxRecDepth 65536 in
theorem w_args : argsFit about1.vm theMethod args0 = true := by decide +kernel
set_option maxRecDepth 65536 in
theorem w_heap : heapFits about1 = true := by decide +kernel
set_option maxRecDepth 65536 in
theorem w_runnable : about1.curStatus? = some .runnable := by decide +kernel
set_option maxRecDepth 65536 in
theorem w_alone : about1.alone = true := by decide +kernel
set_option maxRecDepth 65536 in
theorem w_named : about1.methodNamed? x = some theMethod := by decide +kernel
set_option maxRecDepth 65536 in
theorem w_hears : about1.hears theMethod below0 = true := by decide +kernel
set_option maxRecDepth 65536 in
theorem w_ripe : about1.ripe theMethod args0 below0 = true := by decide +kernel
theorem w_running : about1.status = .running := rfl
set_option maxRecDepth 65536 in
theorem w_room : about1.hasRoom e0.platform room_1 = true :=
  launch0.hasRoom_least _ room_1 (by decide +kernel) (by decide +kernel) (by decide +kernel) (by decide +kernel) (by decide +kernel) (by decide +kernel)
theorem allAtoms_all (ts : List Jvm.Cond) (a : Array Jvm.Value) (st : Jvm.State) : (allAtoms ts).before a st = ts.all (fun c => c.before a st) := by
  induction ts with
  | nil => rfl
  | cons c t ih =>
    show (Jvm.Cond.and c (allAtoms t)).before a st = _
    rw [Jvm.Cond.before_and, ih, List.all_cons]
def words1 : List Jvm.Cond := Jvm.Cond.code x code maxLocals ret :: tables_1
/-- a 'code' word, met by the world's own term for the bytes: nothing is compared byte by byte -/
theorem code_word {y : MethodName} {bytes : ByteArray} {mx : Nat} {rt : Option FieldType} {a : Array Value} {s : State} {m : MethodId} {meth : Method} {c : Code} (h1 : s.methodNamed? y = some m) (h2 : s.vm.method? m = some meth) (h3 : meth.code = some c) (h4 : c.code = bytes)
    (h5 : (c.maxLocals == mx && c.exceptionTable.isEmpty && decide (c.maxStack ≤ mostOperands) && decide (meth.sig.returnType = rt) && !meth.locks && decide (parseMethodDescriptor y.desc = some meth.sig)) = true) : (Jvm.Cond.code y bytes mx rt).before a s = true := by
  simp only [Bool.and_eq_true, beq_iff_eq, Bool.not_eq_true', decide_eq_true_eq] at h5
  obtain ⟨⟨⟨⟨⟨g1, g2⟩, g3⟩, g4⟩, g5⟩, g6⟩ := h5
  simp [Cond.before, Cond.holds, Cond.value, h1, h2, h3, h4, g1, g2, g3, g4, g5, g6]
def isCode : Jvm.Cond → Bool
  | .code _ _ _ _ => true
  | _ => false
theorem all_split {L : List Jvm.Cond} {P : Jvm.Cond → Bool} (h1 : L.all (fun c => isCode c || P c) = true) (h2 : ∀ c ∈ L.filter isCode, P c = true) : L.all P = true := by
  refine List.all_eq_true.mpr fun c hc => ?_
  have h := List.all_eq_true.mp h1 c hc
  rcases Bool.eq_false_or_eq_true (isCode c) with hi | hi
  · exact h2 c (List.mem_filter.mpr ⟨hc, hi⟩)
  · simpa [hi] using h
set_option maxRecDepth 65536 in
theorem w_c0 : (Jvm.Cond.code x code maxLocals ret).before args0 about1 = true := code_word (m := ⟨1, 3⟩) (meth := k1m3) (c := k1c3) (by decide +kernel) rfl rfl rfl (by decide +kernel)
set_option maxRecDepth 65536 in
theorem w_c1 : (Jvm.Cond.code ({ cls := "java/lang/Math", name := "max", desc := "(II)I" } : Jvm.MethodName) jdk_29_method_65_code (2 : Nat) (Option.some Jvm.ClassFile.FieldType.int)).before args0 about1 = true := code_word (m := ⟨2, 1⟩) (meth := k2m1) (c := k2c1) (by decide +kernel) rfl rfl rfl (by decide +kernel)
set_option maxRecDepth 65536 in
theorem w_c2 : (Jvm.Cond.code ({ cls := "com/example/rasterloom/rasterloom/op/InvertOp", name := "<init>", desc := "()V" } : Jvm.MethodName) prog_27_method_1_code (1 : Nat) (Option.none : Option Jvm.ClassFile.FieldType)).before args0 about1 = true := code_word (m := ⟨5, 0⟩) (meth := k5m0) (c := k5c0) (by decide +kernel) rfl rfl rfl (by decide +kernel)
set_option maxRecDepth 65536 in
theorem w_c3 : (Jvm.Cond.code ({ cls := "com/example/rasterloom/rasterloom/op/RgbOp", name := "<init>", desc := "()V" } : Jvm.MethodName) prog_36_method_1_code (1 : Nat) (Option.none : Option Jvm.ClassFile.FieldType)).before args0 about1 = true := code_word (m := ⟨4, 0⟩) (meth := k4m0) (c := k4c0) (by decide +kernel) rfl rfl rfl (by decide +kernel)
set_option maxRecDepth 65536 in
theorem w_c4 : (Jvm.Cond.code ({ cls := "java/lang/Object", name := "<init>", desc := "()V" } : Jvm.MethodName) object_method_1_code (1 : Nat) (Option.none : Option Jvm.ClassFile.FieldType)).before args0 about1 = true := code_word (m := ⟨0, 0⟩) (meth := k0m0) (c := k0c0) (by decide +kernel) rfl rfl rfl (by decide +kernel)
set_option maxRecDepth 65536 in
theorem w_c5 : (Jvm.Cond.code ({ cls := "com/example/rasterloom/rasterloom/op/InvertOp", name := "filterRows", desc := "([IIIIII[I)V" } : Jvm.MethodName) prog_27_method_2_code (11 : Nat) (Option.none : Option Jvm.ClassFile.FieldType)).before args0 about1 = true := code_word (m := ⟨5, 1⟩) (meth := k5m1) (c := k5c1) (by decide +kernel) rfl rfl rfl (by decide +kernel)
set_option maxRecDepth 65536 in
theorem w_c6 : (Jvm.Cond.code ({ cls := "com/example/rasterloom/rasterloom/op/InvertOpFilterRowsPinLaw", name := "cell", desc := "([I[IIIII)Z" } : Jvm.MethodName) method_3_code (6 : Nat) (Option.some Jvm.ClassFile.FieldType.boolean)).before args0 about1 = true := code_word (m := ⟨1, 2⟩) (meth := k1m2) (c := k1c2) (by decide +kernel) rfl rfl rfl (by decide +kernel)
set_option maxRecDepth 65536 in
theorem w_c7 : (Jvm.Cond.code ({ cls := "com/example/rasterloom/rasterloom/op/InvertOpFilterRowsPinLaw", name := "inv", desc := "(I)I" } : Jvm.MethodName) method_2_code (4 : Nat) (Option.some Jvm.ClassFile.FieldType.int)).before args0 about1 = true := code_word (m := ⟨1, 1⟩) (meth := k1m1) (c := k1c1) (by decide +kernel) rfl rfl rfl (by decide +kernel)
def codes1 : List Jvm.Cond := [Jvm.Cond.code x code maxLocals ret, Jvm.Cond.code ({ cls := "java/lang/Math", name := "max", desc := "(II)I" } : Jvm.MethodName) jdk_29_method_65_code (2 : Nat) (Option.some Jvm.ClassFile.FieldType.int), Jvm.Cond.code ({ cls := "com/example/rasterloom/rasterloom/op/InvertOp", name := "<init>", desc := "()V" } : Jvm.MethodName) prog_27_method_1_code (1 : Nat) (Option.none : Option Jvm.ClassFile.FieldType), Jvm.Cond.code ({ cls := "com/example/rasterloom/rasterloom/op/RgbOp", name := "<init>", desc := "()V" } : Jvm.MethodName) prog_36_method_1_code (1 : Nat) (Option.none : Option Jvm.ClassFile.FieldType), Jvm.Cond.code ({ cls := "java/lang/Object", name := "<init>", desc := "()V" } : Jvm.MethodName) object_method_1_code (1 : Nat) (Option.none : Option Jvm.ClassFile.FieldType), Jvm.Cond.code ({ cls := "com/example/rasterloom/rasterloom/op/InvertOp", name := "filterRows", desc := "([IIIIII[I)V" } : Jvm.MethodName) prog_27_method_2_code (11 : Nat) (Option.none : Option Jvm.ClassFile.FieldType), Jvm.Cond.code ({ cls := "com/example/rasterloom/rasterloom/op/InvertOpFilterRowsPinLaw", name := "cell", desc := "([I[IIIII)Z" } : Jvm.MethodName) method_3_code (6 : Nat) (Option.some Jvm.ClassFile.FieldType.boolean), Jvm.Cond.code ({ cls := "com/example/rasterloom/rasterloom/op/InvertOpFilterRowsPinLaw", name := "inv", desc := "(I)I" } : Jvm.MethodName) method_2_code (4 : Nat) (Option.some Jvm.ClassFile.FieldType.int)]
set_option maxRecDepth 65536 in
theorem codes_eq : words1.filter isCode = codes1 := rfl
theorem w_codes : ∀ c ∈ words1.filter isCode, c.before args0 about1 = true := by
  rw [codes_eq]
  intro c hc
  simp only [codes1, List.mem_cons, List.not_mem_nil, or_false] at hc
  rcases hc with rfl | rfl | rfl | rfl | rfl | rfl | rfl | rfl
  · exact w_c0
  · exact w_c1
  · exact w_c2
  · exact w_c3
  · exact w_c4
  · exact w_c5
  · exact w_c6
  · exact w_c7
set_option maxRecDepth 65536 in
theorem w_t1 : (words1.take 24).all (fun c => isCode c || c.before args0 about1) = true := by decide +kernel
set_option maxRecDepth 65536 in
theorem w_t2 : (words1.drop 24).all (fun c => isCode c || c.before args0 about1) = true := by decide +kernel
theorem w_tables : (allAtoms (Jvm.Cond.code x code maxLocals ret :: tables_1)).before args0 about1 = true := by
  rw [allAtoms_all]
  show words1.all (fun c => c.before args0 about1) = true
  refine all_split ?_ w_codes
  rw [← List.take_append_drop 24 words1, List.all_append, w_t1, w_t2]
  rfl
set_option maxRecDepth 65536 in
theorem w_case : (Jvm.Cond.and given_1 narrow_1).before args0 about1 = true := by decide +kernel
theorem w_applies : (headSpec (Jvm.Cond.code x code maxLocals ret :: tables_1) room_1).applies x e0.platform about1 = true :=
  (Spec.applies_iff w_frames).mpr ⟨w_running, w_runnable, w_alone, w_named, w_hears, w_ripe, w_room, w_tables⟩
theorem atStart : AtStart classFile x code maxLocals ret World_1 tables_1 room_1 Calls_1 rest_1 Pre_1 launch0 p0 e0 about1 theMethod args0 below0 :=
  ⟨lists_1, trivial, launch0.admits_env _ _ _, launch0.least_env, fairChoices_fair.cas, fairChoices_fair.clock, w_frames, w_args, w_heap, w_applies, trivial, trivial, w_case⟩
end start1
theorem witness_1 : WitnessClaimed_1 := ⟨start1.p0, start1.e0, start1.about1, start1.theMethod, start1.args0, start1.below0, start1.atStart⟩
end Jvm.Pilot.@@N@@
