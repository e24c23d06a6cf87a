import JvmDerived
import JvmDerived.Pilot.@@N@@Statement
import JvmDerived.Pilot.@@N@@Code
set_option linter.unusedVariables false
set_option linter.unusedSimpArgs false
namespace Jvm.RoadKit
open Sem ClassFile Op Lib Jvm.Stand Jvm.Free Jvm.LawKit
section New
variable {p : Program} {l : Launch} {e : Env} {R : Room} {s : State} {m : MethodId} {args : Array Value} {below : List Frame} {meth : Method} {c : Code} {T : State} {locs : List Loc} {cells slots : Nat}
theorem retI (X : Stand p l e R s m args below meth c T locs cells slots) (hx : p.tables.exec = Jvm.exec) {pc : Nat} {Ls : Array Slot} {z : Int32} {rest : List Value} (hret : meth.sig.returnType = some .int) (hd : decode c.code pc = .ok (.ireturn, 1)) {fs : List Frame}
    (hl : ∀ (f : JFrame) (acts : List Action), f.method = m → f.locked = none → f.entered = [] → (doReturn e (T.setTop f) acts (some (.int z))).1 = T.setFrames fs) : Steps p.tables e below (T.setTop (mkF m pc Ls (.int z :: rest))) (T.setFrames fs) := by
  have hm' : T.vm.method? m = some meth := X.method'
  have hn : narrow .int (.int z) = .int z := rfl
  show Steps p.tables e below (T.setTop { method := m, pc := pc, locals := Ls, stack := _ :: rest, locked := none }) _
  jvm_step X.here [X.here.top, hx, hd, hm', hret, hn]
  first | (intro acts; rw [hl _ acts rfl rfl rfl]) | rw [hl _ _ rfl rfl rfl]
  exact Steps.refl _
end New
/-- the run from the state A ends as asked: what is left of the goal while one walks -/
def own_End (p : Program) (e : Env) (below : List Frame) (s A : State) (W : Option Value → Heap → List Loc → Prop) (k n : Nat) : Prop :=
  ∃ s₂ o, Steps p.tables e below A s₂ ∧ s₂.status = .running ∧ Ended s₂ below o ∧ ∃ v L, o = .returned v ∧ W v s₂.heap L ∧ FrameEnd s o s₂ L k n
theorem own_pre {p : Program} {e : Env} {below : List Frame} {s A B : State} {W : Option Value → Heap → List Loc → Prop} {k n : Nat} (f : ∀ t, Steps p.tables e below A t → Steps p.tables e below B t) (h : own_End p e below s A W k n) : own_End p e below s B W k n := by
  obtain ⟨s₂, o, h1, h2⟩ := h; exact ⟨s₂, o, f _ h1, h2⟩
end Jvm.RoadKit
namespace Jvm.RoadKit
open Sem ClassFile Op Lib Jvm.Stand Jvm.Free Jvm.LawKit
/-- an array of n places, the i-th of which holds f i -/
def own_Arr (Z : State) (h : Heap) (a : Addr) (ty : FieldType) (n : Int32) (f : Nat → Value) : Prop := ∃ c : Cell, Arr Z h a c ty ∧ c.slots.size = n.toNatClampNeg ∧ ¬ n < 0 ∧ ∀ i, i < n.toNatClampNeg → c.slots[i]? = some (f i)
section Arrays
variable {Z : State} {h h' : Heap} {a b : Addr} {ty : FieldType} {n j : Int32} {f f' : Nat → Value} {sl : Nat} {v : Value} {ws : List Addr}
theorem own_Arr.lt (F : own_Arr Z h a ty n f) : a < h.size := by obtain ⟨c, A, -⟩ := F; exact A.lt
theorem own_Arr.ext (F : own_Arr Z h a ty n f) (E : Ext h h') : own_Arr Z h' a ty n f := by obtain ⟨c, A, r⟩ := F; exact ⟨c, A.ext E, r⟩
theorem own_Arr.other (F : own_Arr Z h b ty n f) (W : Wr h h' a sl v) (q : b ≠ a) : own_Arr Z h' b ty n f := by obtain ⟨c, A, r⟩ := F; exact ⟨c, A.other W q, r⟩
theorem own_Arr.keep (F : own_Arr Z h a ty n f) (K : Keep h h' ws) (q : a ∉ ws) : own_Arr Z h' a ty n f := by obtain ⟨c, A, r⟩ := F; exact ⟨c, ⟨K.2.1 a c A.1 q, A.2⟩, r⟩
theorem own_Arr.new {k : ClassId} (A : Arr Z h a (newA k ty n) ty) (q : ¬ n < 0) (hf : ∀ i, f i = defaultValue ty) : own_Arr Z h a ty n f :=
  ⟨_, A, sz_new _ _ _, q, fun i hi => by rw [hf]; simp [newA, hi]⟩
theorem own_Arr.set {α : Type} (w : α → Value) {g g' : Nat → α} {x : α} {q : Nat} (F : own_Arr Z h a ty n (fun i => w (g i))) (W : Wr h h' a j.toNatClampNeg (w x)) (hj : j.toNatClampNeg = q) (hg : ∀ i, g' i = if i = q then x else g i) : own_Arr Z h' a ty n (fun i => w (g' i)) := by
  obtain ⟨c, A, r1, r2, r3⟩ := F
  subst hj
  refine ⟨_, A.same W, by rw [sz_set]; exact r1, r2, fun i hi => ?_⟩
  show _ = some (w (g' i))
  rw [hg]
  by_cases e : i = j.toNatClampNeg
  · subst e
    rw [if_pos rfl]; simp [Cell.setSlot, r1, hi]
  · rw [if_neg e]
    rw [← r3 i hi]; exact Array.getElem?_setIfInBounds_ne (Ne.symm e)
theorem own_Arr.congr {α : Type} (w : α → Value) {g g' : Nat → α} (F : own_Arr Z h a ty n (fun i => w (g i))) (hg : ∀ i, i < n.toNatClampNeg → g' i = g i) : own_Arr Z h a ty n (fun i => w (g' i)) := by
  obtain ⟨c, A, r1, r2, r3⟩ := F
  exact ⟨c, A, r1, r2, fun i hi => by show _ = some (w (g' i)); rw [hg i hi]; exact r3 i hi⟩
theorem own_at {c : Cell} (S : c.slots.size = n.toNatClampNeg) (G : ∀ i, i < n.toNatClampNeg → c.slots[i]? = some (f i)) (hj : ¬ (j < 0 ∨ c.slots.size ≤ j.toNatClampNeg)) : c.slots[j.toNatClampNeg]? = some (f j.toNatClampNeg) := G _ (by rw [← S]; exact Nat.lt_of_not_le fun y => hj (Or.inr y))
theorem own_nn {n : Int32} (h : ¬ n < 0) : 0 ≤ n.toInt ∧ n.toInt = n.toNatClampNeg := by
  have e := nat_of h
  exact ⟨by omega, e⟩
theorem own_Arr.nn (F : own_Arr Z h a ty n f) : 0 ≤ n.toInt ∧ n.toInt = n.toNatClampNeg := by obtain ⟨c, A, r1, r2, r3⟩ := F; exact own_nn r2
theorem own_ge0 {i : Int32} (h : 0 ≤ i.toInt) : ¬ i < 0 := fun q => by
  have := Int32.lt_iff_toInt_lt.mp q
  have z : (0 : Int32).toInt = 0 := by decide
  omega
theorem own_inb {i n : Int32} (h0 : 0 ≤ i.toInt) (h : i < n) : ¬ i < 0 ∧ i < n := ⟨own_ge0 h0, h⟩
theorem own_inb2 {i n : Int32} (h0 : 0 ≤ i.toInt) (h : i.toInt < n.toInt) : ¬ i < 0 ∧ i < n := ⟨own_ge0 h0, Int32.lt_iff_toInt_lt.mpr h⟩
theorem own_next {i n : Int32} (h0 : 0 ≤ i.toInt) (h : i < n) : (i + 1).toInt = i.toInt + 1 ∧ i.toInt < n.toInt := by
  have q := Int32.lt_iff_toInt_lt.mp h
  have a := c_iadd i 1
  have z : (1 : Int32).toInt = 1 := by decide
  have r1 := rng32 (i + 1)
  have r2 := rng32 n
  omega
end Arrays
end Jvm.RoadKit
namespace Jvm.Pilot.@@N@@
open Jvm Jvm.ClassFile Sem Op Lib Jvm.Free Jvm.Stand Jvm.LawKit Jvm.RoadKit Bundle Jvm.Pilot.@@N@@.Jvm.D
def own_show_5 (p2 : Int32) (g : Nat → Int32) (n : Int32) (acc : Int64) (i : Int32) : Nat → Int64
  | 0 => 0
  | k + 1 => (if i < n then (if (g i.toNatClampNeg) = p2 then (own_show_5 p2 g n (acc ||| ((1 : Int64) <<< (i &&& 0x3f).toInt64)) (i + (1 : Int32)) k) else (own_show_5 p2 g n (acc ||| (0 : Int64)) (i + (1 : Int32)) k)) else acc)
def own_show (p2 : Int32) (g : Nat → Int32) (n : Int32) : Int64 := (own_show_5 p2 g n (0 : Int64) (0 : Int32) (n.toNatClampNeg + 1))
theorem d1_0 : decode prog_13_method_16_code 0 = .ok (.lconst 0, 1) := by decide +kernel
theorem d1_1 : decode prog_13_method_16_code 1 = .ok (.lstore_n 2, 1) := by decide +kernel
theorem d1_2 : decode prog_13_method_16_code 2 = .ok (.iconst 0, 1) := by decide +kernel
theorem d1_3 : decode prog_13_method_16_code 3 = .ok (.istore 4, 2) := by decide +kernel
theorem d1_5 : decode prog_13_method_16_code 5 = .ok (.iload 4, 2) := by decide +kernel
theorem d1_7 : decode prog_13_method_16_code 7 = .ok (.aload_n 0, 1) := by decide +kernel
theorem d1_8 : decode prog_13_method_16_code 8 = .ok (.arraylength, 1) := by decide +kernel
theorem d1_9 : decode prog_13_method_16_code 9 = .ok (.if_icmp .ge 28, 3) := by decide +kernel
theorem d1_12 : decode prog_13_method_16_code 12 = .ok (.lload_n 2, 1) := by decide +kernel
theorem d1_13 : decode prog_13_method_16_code 13 = .ok (.aload_n 0, 1) := by decide +kernel
theorem d1_14 : decode prog_13_method_16_code 14 = .ok (.iload 4, 2) := by decide +kernel
theorem d1_16 : decode prog_13_method_16_code 16 = .ok (.iaload, 1) := by decide +kernel
theorem d1_17 : decode prog_13_method_16_code 17 = .ok (.iload_n 1, 1) := by decide +kernel
theorem d1_18 : decode prog_13_method_16_code 18 = .ok (.if_icmp .ne 10, 3) := by decide +kernel
theorem d1_21 : decode prog_13_method_16_code 21 = .ok (.lconst 1, 1) := by decide +kernel
theorem d1_22 : decode prog_13_method_16_code 22 = .ok (.iload 4, 2) := by decide +kernel
theorem d1_24 : decode prog_13_method_16_code 24 = .ok (.lshl, 1) := by decide +kernel
theorem d1_25 : decode prog_13_method_16_code 25 = .ok (.goto 4, 3) := by decide +kernel
theorem d1_28 : decode prog_13_method_16_code 28 = .ok (.lconst 0, 1) := by decide +kernel
theorem d1_29 : decode prog_13_method_16_code 29 = .ok (.lor, 1) := by decide +kernel
theorem d1_30 : decode prog_13_method_16_code 30 = .ok (.lstore_n 2, 1) := by decide +kernel
theorem d1_31 : decode prog_13_method_16_code 31 = .ok (.iinc 4 1, 3) := by decide +kernel
theorem d1_34 : decode prog_13_method_16_code 34 = .ok (.goto (-29), 3) := by decide +kernel
theorem d1_37 : decode prog_13_method_16_code 37 = .ok (.lload_n 2, 1) := by decide +kernel
theorem d1_38 : decode prog_13_method_16_code 38 = .ok (.lreturn, 1) := by decide +kernel
theorem pn_1 : plainName "com/example/scratchline/scratchline/game/Cascade" = true := by first | (simp [plainName, overriddenIn]; done) | decide +kernel
theorem ef_1 (m : MethodId) (x0 : Addr) (x1 : Int32) : entryFrame m #[(.ref x0), (.int x1)] 5 = mkF m 0 #[.val (.ref x0), .val (.int x1), .unset, .unset, .unset] [] := by first | (simp [entryFrame, mkF, argsToLocals, Value.category]; done) | rfl
def Q1 (Z : State) (a1 : Addr) (p2 : Int32) (g : Nat → Int32) (n : Int32) (h0 : Heap) (n0 : Nat) (v : Option Value) (h : Heap) (L : List Loc) : Prop := v = some (.long (own_show p2 g n)) ∧ Fr n0 L ∧ h = h0
set_option maxRecDepth 65536 in
set_option maxHeartbeats 40000000 in
theorem rm1 (l : Launch) (Z : State) (a0 : Array Value) (hw : ∀ d ∈ tables_1, d.before a0 Z = true) (ws : List Jvm.Cond) (a1 : Addr) (p2 : Int32) (g : Nat → Int32) (n : Int32) (h0 : Heap) (n0 : Nat) (Z0 : n0 ≤ h0.size) (V_a1 : own_Arr Z h0 a1 .int n (fun i => Value.int (g i))) :
    MetFree l (⟨"com/example/scratchline/scratchline/game/Cascade", "showing", "([II)J"⟩ : MethodName) (head1 (Jvm.Cond.code (⟨"com/example/scratchline/scratchline/game/Cascade", "showing", "([II)J"⟩ : MethodName) prog_13_method_16_code 5 (some .long) :: ws) ({ frames := 0, cells := 0, slots := 0, locals := 0 } : Room)) (fun a U => a = #[(.ref a1), (.int p2)] ∧ Z.Warmed39 U.vm ∧ U.heap = h0) (fun _ _ _ _ _ => True) (fun _ U o U' => ∃ v L, o = .returned v ∧ Q1 Z a1 p2 g n h0 n0 v U'.heap L ∧ FrameEnd U o U' L ({ frames := 0, cells := 0, slots := 0, locals := 0 } : Room).cells ({ frames := 0, cells := 0, slots := 0, locals := 0 } : Room).slots) := by
  refine MetFree.of_bodySF (plainFor_of_name pn_1) hisR ?_
  intro p e s m args below meth c s₁ Bd hml0 hP hK
  obtain ⟨rfl, hZ, hh⟩ := hP
  have hx := Bd.exec
  have hby := Bd.bytes
  have hml : c.maxLocals = 5 := hml0
  have hown : s.vm.findClass "com/example/scratchline/scratchline/game/Cascade" = some m.cls := findClass_of_methodNamed Bd.named
  have hnm := (name_of_methodNamed Bd.named Bd.method).1
  have X0 : Stand p l e ({ frames := 0, cells := 0, slots := 0, locals := 0 } : Room) s m #[(.ref a1), (.int p2)] below meth c s₁ [] 0 0 := Stand.of_body Bd
  have e0 : s₁.heap = h0 := by rw [← hh, Bd.state]; rfl
  have N0 := Fr.nil n0
  show own_End p e below s (s₁.setTop (entryFrame m #[(.ref a1), (.int p2)] 5)) (Q1 Z a1 p2 g n h0 n0) ({ frames := 0, cells := 0, slots := 0, locals := 0 } : Room).cells ({ frames := 0, cells := 0, slots := 0, locals := 0 } : Room).slots
  refine own_pre (A := s₁.setTop (mkF m 0 #[.val (.ref a1), .val (.int p2), .unset, .unset, .unset] [])) (fun tt kt => castTop (ef_1 m a1 p2) kt) ?_
  show own_End p e below s (s₁.setTop (mkF m 0 #[.val (.ref a1), .val (.int p2), .unset, .unset, .unset] [])) (Q1 Z a1 p2 g n h0 n0) ({ frames := 0, cells := 0, slots := 0, locals := 0 } : Room).cells ({ frames := 0, cells := 0, slots := 0, locals := 0 } : Room).slots
  have hj : own_show p2 g n = own_show p2 g n := rfl
  refine own_pre (A := s₁.setTop (mkF m 5 #[.val (.ref a1), .val (.int p2), .val (.long (0 : Int64)), .second, .val (.int (0 : Int32))] [])) (fun tt kt => ?_) ?_
  · show Steps p.tables e below (s₁.setTop (mkF m 0 #[.val (.ref a1), .val (.int p2), .unset, .unset, .unset] [])) _
    refine XS.lconst X0.here hx rfl (hb hby d1_0) ?_
    refine XS.lstoreN X0.here hx rfl (hb hby d1_1) rfl (l' := #[.val (.ref a1), .val (.int p2), .val (.long (0 : Int64)), .second, .unset]) rfl ?_
    refine XS.iconst X0.here hx rfl (hb hby d1_2) ?_
    refine XS.istore X0.here hx rfl (hb hby d1_3) rfl (l' := #[.val (.ref a1), .val (.int p2), .val (.long (0 : Int64)), .second, .val (.int (0 : Int32))]) rfl ?_
    exact kt
  show own_End p e below s (s₁.setTop (mkF m 5 #[.val (.ref a1), .val (.int p2), .val (.long (0 : Int64)), .second, .val (.int (0 : Int32))] [])) (Q1 Z a1 p2 g n h0 n0) ({ frames := 0, cells := 0, slots := 0, locals := 0 } : Room).cells ({ frames := 0, cells := 0, slots := 0, locals := 0 } : Room).slots
  have j5 : ∀ (k : Nat)  (Tj5 : State) (Lj5 : List Loc) (Xj5 : Stand p l e ({ frames := 0, cells := 0, slots := 0, locals := 0 } : Room) s m #[(.ref a1), (.int p2)] below meth c Tj5 Lj5 0 0) (ej5 : Tj5.heap = h0) (Nj5 : Fr n0 Lj5) (acc : Int64) (i : Int32)  (hi0 : 0 ≤ i.toInt) (hin : i.toInt ≤ n.toInt) (hk : n.toInt - i.toInt < k), own_show p2 g n = own_show_5 p2 g n acc i k → own_End p e below s (Tj5.setTop (mkF m 5 #[.val (.ref a1), .val (.int p2), .val (.long acc), .second, .val (.int i)] [])) (Q1 Z a1 p2 g n h0 n0) ({ frames := 0, cells := 0, slots := 0, locals := 0 } : Room).cells ({ frames := 0, cells := 0, slots := 0, locals := 0 } : Room).slots := by
    intro k
    induction k with
    | zero =>
      intro Tj5 Lj5 Xj5 ej5 Nj5 acc i  hi0 hin hk hj
      exfalso; omega
    | succ k ih =>
      intro Tj5 Lj5 Xj5 ej5 Nj5 acc i  hi0 hin hk hj
      obtain ⟨cl1, Ar1, S1, Nn1, G1⟩ := id V_a1
      refine own_pre (A := Tj5.setTop (mkF m 9 #[.val (.ref a1), .val (.int p2), .val (.long acc), .second, .val (.int i)] [(.int n), (.int i)])) (fun tt kt => ?_) ?_
      · show Steps p.tables e below (Tj5.setTop (mkF m 5 #[.val (.ref a1), .val (.int p2), .val (.long acc), .second, .val (.int i)] [])) _
        refine XS.iload Xj5.here hx rfl (hb hby d1_5) rfl ?_
        refine XS.aloadN Xj5.here hx rfl (hb hby d1_7) rfl rfl ?_
        show Steps p.tables e below (Tj5.setTop (mkF m 8 #[.val (.ref a1), .val (.int p2), .val (.long acc), .second, .val (.int i)] [(.ref a1), (.int i)])) _
        refine Xj5.arraylength hx (by rw [ej5]; exact Ar1.1) (State.isArrayOf_alike hZ.alike Ar1.2.1) (g := (mkF m 8 #[.val (.ref a1), .val (.int p2), .val (.long acc), .second, .val (.int i)] [(.ref a1), (.int i)])) rfl rfl (hb hby d1_8) _ ?_
        rw [len_of S1 Nn1]
        exact kt
      show own_End p e below s (Tj5.setTop (mkF m 9 #[.val (.ref a1), .val (.int p2), .val (.long acc), .second, .val (.int i)] [(.int n), (.int i)])) (Q1 Z a1 p2 g n h0 n0) ({ frames := 0, cells := 0, slots := 0, locals := 0 } : Room).cells ({ frames := 0, cells := 0, slots := 0, locals := 0 } : Room).slots
      by_cases hc9_2 : i < n
      · obtain ⟨cl3, Ar3, S3, Nn3, G3⟩ := id V_a1
        have hin3 : ¬ (i < 0 ∨ cl3.slots.size ≤ i.toNatClampNeg) := inb_of S3 (own_inb hi0 hc9_2 : ¬ i < 0 ∧ i < n)
        have hat3 : cl3.slots[i.toNatClampNeg]? = some (.int (g i.toNatClampNeg)) := own_at S3 G3 hin3
        refine own_pre (A := Tj5.setTop (mkF m 18 #[.val (.ref a1), .val (.int p2), .val (.long acc), .second, .val (.int i)] [(.int p2), (.int (g i.toNatClampNeg)), (.long acc)])) (fun tt kt => ?_) ?_
        · show Steps p.tables e below (Tj5.setTop (mkF m 9 #[.val (.ref a1), .val (.int p2), .val (.long acc), .second, .val (.int i)] [(.int n), (.int i)])) _
          refine XS.icmpNo Xj5.here hx rfl (hb hby d1_9) rfl (tlt hc9_2).2.1 ?_
          refine XS.lloadN Xj5.here hx rfl (hb hby d1_12) rfl ?_
          refine XS.aloadN Xj5.here hx rfl (hb hby d1_13) rfl rfl ?_
          refine XS.iload Xj5.here hx rfl (hb hby d1_14) rfl ?_
          show Steps p.tables e below (Tj5.setTop (mkF m 16 #[.val (.ref a1), .val (.int p2), .val (.long acc), .second, .val (.int i)] [(.int i), (.ref a1), (.long acc)])) _
          refine Xj5.iaload hx (j := i) (v := (.int (g i.toNatClampNeg))) (by rw [ej5]; exact Ar3.1) (State.isArrayOf_alike hZ.alike Ar3.2.1) Ar3.2.2 hin3 hat3 (g := (mkF m 16 #[.val (.ref a1), .val (.int p2), .val (.long acc), .second, .val (.int i)] [(.int i), (.ref a1), (.long acc)])) rfl rfl (hb hby d1_16) _ ?_
          show Steps p.tables e below (Tj5.setTop (mkF m 17 #[.val (.ref a1), .val (.int p2), .val (.long acc), .second, .val (.int i)] [(.int (g i.toNatClampNeg)), (.long acc)])) _
          refine XS.iloadN Xj5.here hx rfl (hb hby d1_17) rfl ?_
          exact kt
        show own_End p e below s (Tj5.setTop (mkF m 18 #[.val (.ref a1), .val (.int p2), .val (.long acc), .second, .val (.int i)] [(.int p2), (.int (g i.toNatClampNeg)), (.long acc)])) (Q1 Z a1 p2 g n h0 n0) ({ frames := 0, cells := 0, slots := 0, locals := 0 } : Room).cells ({ frames := 0, cells := 0, slots := 0, locals := 0 } : Room).slots
        by_cases hc18_4 : (g i.toNatClampNeg) = p2
        · refine own_pre (A := Tj5.setTop (mkF m 5 #[.val (.ref a1), .val (.int p2), .val (.long (acc ||| ((1 : Int64) <<< (i &&& 0x3f).toInt64))), .second, .val (.int (i + (1 : Int32)))] [])) (fun tt kt => ?_) ?_
          · show Steps p.tables e below (Tj5.setTop (mkF m 18 #[.val (.ref a1), .val (.int p2), .val (.long acc), .second, .val (.int i)] [(.int p2), (.int (g i.toNatClampNeg)), (.long acc)])) _
            refine XS.icmpNo Xj5.here hx rfl (hb hby d1_18) rfl (teq hc18_4).2 ?_
            refine XS.lconst Xj5.here hx rfl (hb hby d1_21) ?_
            refine XS.iload Xj5.here hx rfl (hb hby d1_22) rfl ?_
            refine XS.lshl Xj5.here hx rfl (hb hby d1_24) rfl ?_
            show Steps p.tables e below (Tj5.setTop (mkF m 25 #[.val (.ref a1), .val (.int p2), .val (.long acc), .second, .val (.int i)] [(.long ((1 : Int64) <<< (i &&& 0x3f).toInt64)), (.long acc)])) _
            refine XS.goto Xj5.here hx rfl (pc0 := 25) (pc' := 29) rfl (hb hby d1_25) (by decide) (by decide) ?_
            refine XS.lor Xj5.here hx rfl (hb hby d1_29) rfl ?_
            refine XS.lstoreN Xj5.here hx rfl (hb hby d1_30) rfl (l' := #[.val (.ref a1), .val (.int p2), .val (.long (acc ||| ((1 : Int64) <<< (i &&& 0x3f).toInt64))), .second, .val (.int i)]) rfl ?_
            refine XS.iinc Xj5.here hx rfl (hb hby d1_31) rfl (l' := #[.val (.ref a1), .val (.int p2), .val (.long (acc ||| ((1 : Int64) <<< (i &&& 0x3f).toInt64))), .second, .val (.int (i + (1 : Int32)))]) rfl ?_
            show Steps p.tables e below (Tj5.setTop (mkF m 34 #[.val (.ref a1), .val (.int p2), .val (.long (acc ||| ((1 : Int64) <<< (i &&& 0x3f).toInt64))), .second, .val (.int (i + (1 : Int32)))] [])) _
            refine XS.goto Xj5.here hx rfl (pc0 := 34) (pc' := 5) rfl (hb hby d1_34) (by decide) (by decide) ?_
            exact kt
          show own_End p e below s (Tj5.setTop (mkF m 5 #[.val (.ref a1), .val (.int p2), .val (.long (acc ||| ((1 : Int64) <<< (i &&& 0x3f).toInt64))), .second, .val (.int (i + (1 : Int32)))] [])) (Q1 Z a1 p2 g n h0 n0) ({ frames := 0, cells := 0, slots := 0, locals := 0 } : Room).cells ({ frames := 0, cells := 0, slots := 0, locals := 0 } : Room).slots
          exact ih _ _ Xj5 ej5 Nj5 (acc ||| ((1 : Int64) <<< (i &&& 0x3f).toInt64)) (i + (1 : Int32))  (by have := own_next hi0 hc9_2; omega) (by have := own_next hi0 hc9_2; omega) (by have := own_next hi0 hc9_2; omega) (hj.trans (by simp only [own_show_5, if_pos hc9_2, if_pos hc18_4]))
        · refine own_pre (A := Tj5.setTop (mkF m 5 #[.val (.ref a1), .val (.int p2), .val (.long (acc ||| (0 : Int64))), .second, .val (.int (i + (1 : Int32)))] [])) (fun tt kt => ?_) ?_
          · show Steps p.tables e below (Tj5.setTop (mkF m 18 #[.val (.ref a1), .val (.int p2), .val (.long acc), .second, .val (.int i)] [(.int p2), (.int (g i.toNatClampNeg)), (.long acc)])) _
            refine XS.icmpYes Xj5.here hx rfl (pc0 := 18) (pc' := 28) rfl (hb hby d1_18) rfl (feq hc18_4).2 (by decide) (by decide) ?_
            refine XS.lconst Xj5.here hx rfl (hb hby d1_28) ?_
            refine XS.lor Xj5.here hx rfl (hb hby d1_29) rfl ?_
            refine XS.lstoreN Xj5.here hx rfl (hb hby d1_30) rfl (l' := #[.val (.ref a1), .val (.int p2), .val (.long (acc ||| (0 : Int64))), .second, .val (.int i)]) rfl ?_
            show Steps p.tables e below (Tj5.setTop (mkF m 31 #[.val (.ref a1), .val (.int p2), .val (.long (acc ||| (0 : Int64))), .second, .val (.int i)] [])) _
            refine XS.iinc Xj5.here hx rfl (hb hby d1_31) rfl (l' := #[.val (.ref a1), .val (.int p2), .val (.long (acc ||| (0 : Int64))), .second, .val (.int (i + (1 : Int32)))]) rfl ?_
            refine XS.goto Xj5.here hx rfl (pc0 := 34) (pc' := 5) rfl (hb hby d1_34) (by decide) (by decide) ?_
            exact kt
          show own_End p e below s (Tj5.setTop (mkF m 5 #[.val (.ref a1), .val (.int p2), .val (.long (acc ||| (0 : Int64))), .second, .val (.int (i + (1 : Int32)))] [])) (Q1 Z a1 p2 g n h0 n0) ({ frames := 0, cells := 0, slots := 0, locals := 0 } : Room).cells ({ frames := 0, cells := 0, slots := 0, locals := 0 } : Room).slots
          exact ih _ _ Xj5 ej5 Nj5 (acc ||| (0 : Int64)) (i + (1 : Int32))  (by have := own_next hi0 hc9_2; omega) (by have := own_next hi0 hc9_2; omega) (by have := own_next hi0 hc9_2; omega) (hj.trans (by simp only [own_show_5, if_pos hc9_2, if_neg hc18_4]))
      · refine own_pre (A := Tj5.setTop (mkF m 38 #[.val (.ref a1), .val (.int p2), .val (.long acc), .second, .val (.int i)] [(.long acc)])) (fun tt kt => ?_) ?_
        · show Steps p.tables e below (Tj5.setTop (mkF m 9 #[.val (.ref a1), .val (.int p2), .val (.long acc), .second, .val (.int i)] [(.int n), (.int i)])) _
          refine XS.icmpYes Xj5.here hx rfl (pc0 := 9) (pc' := 37) rfl (hb hby d1_9) rfl (flt hc9_2).2.1 (by decide) (by decide) ?_
          refine XS.lloadN Xj5.here hx rfl (hb hby d1_37) rfl ?_
          exact kt
        show own_End p e below s (Tj5.setTop (mkF m 38 #[.val (.ref a1), .val (.int p2), .val (.long acc), .second, .val (.int i)] [(.long acc)])) (Q1 Z a1 p2 g n h0 n0) ({ frames := 0, cells := 0, slots := 0, locals := 0 } : Room).cells ({ frames := 0, cells := 0, slots := 0, locals := 0 } : Room).slots
        have hv : (own_show p2 g n) = acc := hj.trans (by simp only [own_show_5, if_neg hc9_2])
        obtain ⟨fs, hr, hrun, hended, hW, hsame⟩ := Xj5.leave (v := some (.long acc)) (fun h => by rw [Bd.returns] at h; cases h)
        refine ⟨_, _, ?_, hrun, hended, _, _, rfl, ?_, ⟨_, rfl⟩, hW, hsame.mono (by decide) (by decide)⟩
        · exact Xj5.lreturnOut hx Bd.returns (hb hby d1_38) hr
        · show Q1 Z a1 p2 g n h0 n0 _ Tj5.heap _
          rw [ej5]
          exact ⟨(congrArg (fun z => some (Value.long z)) hv.symm), Nj5, rfl⟩
  exact j5 (n.toNatClampNeg + 1) _ _ X0 e0 N0 (0 : Int64) (0 : Int32)  (by decide) (by have := V_a1.nn; have z : (0 : Int32).toInt = 0 := (by decide); omega) (by have := V_a1.nn; have z : (0 : Int32).toInt = 0 := (by decide); omega) (hj.trans (by simp only [own_show]))
theorem own_n (x : Int32) : 0 ≤ ((x &&& (2147483647 : Int32)) % (65 : Int32)).toInt ∧ ((x &&& (2147483647 : Int32)) % (65 : Int32)).toInt ≤ 64 := by
  have e1 : (x &&& (2147483647 : Int32)).toInt = x.toInt % (2 ^ 31 : Nat) := c_mask x 2147483647 31 (by decide) (by decide)
  have k : (65 : Int32).toInt = 65 := by decide
  have e2 := (c_irem (x &&& (2147483647 : Int32)) 65 65 k).1 (by omega)
  omega
theorem own_pos {n : Int32} (h : (0 : Int32) < n) : ¬ n = (0 : Int32) := fun q => by subst q; exact absurd h (by decide)
theorem own_i (x n : Int32) (h : (0 : Int32) < n) : 0 ≤ ((x &&& (2147483647 : Int32)) % n).toInt ∧ ((x &&& (2147483647 : Int32)) % n).toInt < n.toInt := by
  have e1 : (x &&& (2147483647 : Int32)).toInt = x.toInt % (2 ^ 31 : Nat) := c_mask x 2147483647 31 (by decide) (by decide)
  have k : (0 : Int32).toInt = 0 := by decide
  have h' := Int32.lt_iff_toInt_lt.mp h
  have e2 := (c_iremV (x &&& (2147483647 : Int32)) n).1 (by omega) (by omega)
  omega
def own_b0_g5 (p1 : Int32) (p2 : Int32) (p3 : Int32) (p4 : Int32) (p5 : Int32) (p6 : Int32) (n : Int32) (low : Int64) (ex : Int64) (pi : Int32) (pj : Int32) : Nat → Int32 := fun ii => if ii = pi.toNatClampNeg then p4 else (fun _ => (0 : Int32)) ii
def own_b0_g8 (p1 : Int32) (p2 : Int32) (p3 : Int32) (p4 : Int32) (p5 : Int32) (p6 : Int32) (n : Int32) (low : Int64) (ex : Int64) (pi : Int32) (pj : Int32) : Nat → Int32 := fun ii => if ii = pj.toNatClampNeg then p5 else (own_b0_g5 p1 p2 p3 p4 p5 p6 n low ex pi pj) ii
def own_law_197 (p1 : Int32) (p2 : Int32) (p3 : Int32) (p4 : Int32) (p5 : Int32) (p6 : Int32) (n : Int32) (low : Int64) (ex : Int64) (pi : Int32) (pj : Int32) (bi : Int64) (bj : Int64) (ab : Int32) : Int32 := (if ((own_b0_g8 p1 p2 p3 p4 p5 p6 n low ex pi pj) pi.toNatClampNeg) = ab then (if (own_show p6 (own_b0_g8 p1 p2 p3 p4 p5 p6 n low ex pi pj) n) = ((((ex &&& (((1 : Int64) <<< (pi &&& 0x3f).toInt64) ^^^ (-1 : Int64))) ||| bi) &&& (((1 : Int64) <<< (pj &&& 0x3f).toInt64) ^^^ (-1 : Int64))) ||| bj) then (1 : Int32) else (0 : Int32)) else (if (own_show p6 (own_b0_g8 p1 p2 p3 p4 p5 p6 n low ex pi pj) n) = ((((ex &&& (((1 : Int64) <<< (pi &&& 0x3f).toInt64) ^^^ (-1 : Int64))) ||| bi) &&& (((1 : Int64) <<< (pj &&& 0x3f).toInt64) ^^^ (-1 : Int64))) ||| bj) then (0 : Int32) else (0 : Int32)))
def own_law_149 (p1 : Int32) (p2 : Int32) (p3 : Int32) (p4 : Int32) (p5 : Int32) (p6 : Int32) (n : Int32) (low : Int64) (ex : Int64) (pi : Int32) (pj : Int32) (bi : Int64) (bj : Int64) : Int32 := (if ((own_b0_g8 p1 p2 p3 p4 p5 p6 n low ex pi pj) pj.toNatClampNeg) = p5 then (if pi = pj then (own_law_197 p1 p2 p3 p4 p5 p6 n low ex pi pj bi bj p5) else (own_law_197 p1 p2 p3 p4 p5 p6 n low ex pi pj bi bj p4)) else (if (own_show p6 (own_b0_g8 p1 p2 p3 p4 p5 p6 n low ex pi pj) n) = ((((ex &&& (((1 : Int64) <<< (pi &&& 0x3f).toInt64) ^^^ (-1 : Int64))) ||| bi) &&& (((1 : Int64) <<< (pj &&& 0x3f).toInt64) ^^^ (-1 : Int64))) ||| bj) then (0 : Int32) else (0 : Int32)))
def own_law_118 (p1 : Int32) (p2 : Int32) (p3 : Int32) (p4 : Int32) (p5 : Int32) (p6 : Int32) (n : Int32) (low : Int64) (ex : Int64) (pi : Int32) (pj : Int32) (bi : Int64) : Int32 := (if p5 = p6 then (own_law_149 p1 p2 p3 p4 p5 p6 n low ex pi pj bi ((1 : Int64) <<< (pj &&& 0x3f).toInt64)) else (own_law_149 p1 p2 p3 p4 p5 p6 n low ex pi pj bi (0 : Int64)))
def own_law_78 (p1 : Int32) (p2 : Int32) (p3 : Int32) (p4 : Int32) (p5 : Int32) (p6 : Int32) (n : Int32) (low : Int64) (ex : Int64) (pi : Int32) (pj : Int32) : Int32 := (if p4 = p6 then (own_law_118 p1 p2 p3 p4 p5 p6 n low ex pi pj ((1 : Int64) <<< (pi &&& 0x3f).toInt64)) else (own_law_118 p1 p2 p3 p4 p5 p6 n low ex pi pj (0 : Int64)))
def own_law_69 (p1 : Int32) (p2 : Int32) (p3 : Int32) (p4 : Int32) (p5 : Int32) (p6 : Int32) (n : Int32) (low : Int64) (ex : Int64) (pi : Int32) : Int32 := (own_law_78 p1 p2 p3 p4 p5 p6 n low ex pi ((p3 &&& (2147483647 : Int32)) % n))
def own_law_47 (p1 : Int32) (p2 : Int32) (p3 : Int32) (p4 : Int32) (p5 : Int32) (p6 : Int32) (n : Int32) (low : Int64) (ex : Int64) : Int32 := (if (0 : Int32) < n then (own_law_69 p1 p2 p3 p4 p5 p6 n low ex ((p2 &&& (2147483647 : Int32)) % n)) else (if (own_show p6 (fun _ => (0 : Int32)) n) = ex then (1 : Int32) else (0 : Int32)))
def own_law_34 (p1 : Int32) (p2 : Int32) (p3 : Int32) (p4 : Int32) (p5 : Int32) (p6 : Int32) (n : Int32) (low : Int64) : Int32 := (if p6 = (0 : Int32) then (own_law_47 p1 p2 p3 p4 p5 p6 n low low) else (own_law_47 p1 p2 p3 p4 p5 p6 n low (0 : Int64)))
def own_law_9 (p1 : Int32) (p2 : Int32) (p3 : Int32) (p4 : Int32) (p5 : Int32) (p6 : Int32) (n : Int32) : Int32 := (if n = (64 : Int32) then (own_law_34 p1 p2 p3 p4 p5 p6 n (-1 : Int64)) else (own_law_34 p1 p2 p3 p4 p5 p6 n (((1 : Int64) <<< (n &&& 0x3f).toInt64) - (1 : Int64))))
def own_law (p1 : Int32) (p2 : Int32) (p3 : Int32) (p4 : Int32) (p5 : Int32) (p6 : Int32) : Int32 := (own_law_9 p1 p2 p3 p4 p5 p6 ((p1 &&& (2147483647 : Int32)) % (65 : Int32)))
theorem pn_0 : plainName "com/example/scratchline/scratchline/game/CascadeShowingPinLaw" = true := by first | (simp [plainName, overriddenIn]; done) | decide +kernel
theorem pd_0_0 : parseMethodDescriptor "([II)J" = some ⟨[(.array .int), .int], some .long⟩ := by decide +kernel
theorem ef_0 (m : MethodId) (x0 : Int32) (x1 : Int32) (x2 : Int32) (x3 : Int32) (x4 : Int32) (x5 : Int32) : entryFrame m #[(.int x0), (.int x1), (.int x2), (.int x3), (.int x4), (.int x5)] maxLocals = mkF m 0 #[.val (.int x0), .val (.int x1), .val (.int x2), .val (.int x3), .val (.int x4), .val (.int x5), .unset, .unset, .unset, .unset, .unset, .unset, .unset, .unset, .unset, .unset, .unset, .unset] [] := by first | (simp [entryFrame, mkF, argsToLocals, Value.category, maxLocals]; done) | rfl
def Q0 (Z : State) (p1 : Int32) (p2 : Int32) (p3 : Int32) (p4 : Int32) (p5 : Int32) (p6 : Int32) (h0 : Heap) (n0 : Nat) (v : Option Value) (h : Heap) (L : List Loc) : Prop := v = some (.int (own_law p1 p2 p3 p4 p5 p6)) ∧ Fr n0 L
set_option maxRecDepth 65536 in
set_option maxHeartbeats 40000000 in
theorem rm0 (l : Launch) (Z : State) (a0 : Array Value) (hw : ∀ d ∈ tables_1, d.before a0 Z = true) (ws : List Jvm.Cond) (p1 : Int32) (p2 : Int32) (p3 : Int32) (p4 : Int32) (p5 : Int32) (p6 : Int32) (h0 : Heap) (n0 : Nat) (Z0 : n0 ≤ h0.size) :
    MetFree l x (head1 (Jvm.Cond.code x code maxLocals ret :: ws) room_1) (fun a U => a = #[(.int p1), (.int p2), (.int p3), (.int p4), (.int p5), (.int p6)] ∧ Z.Warmed39 U.vm ∧ U.heap = h0) (fun _ _ _ _ _ => True) (fun _ U o U' => ∃ v L, o = .returned v ∧ Q0 Z p1 p2 p3 p4 p5 p6 h0 n0 v U'.heap L ∧ FrameEnd U o U' L room_1.cells room_1.slots) := by
  refine MetFree.of_bodySF (plainFor_of_name pn_0) hisR ?_
  intro p e s m args below meth c s₁ Bd hml0 hP hK
  obtain ⟨rfl, hZ, hh⟩ := hP
  have hx := Bd.exec
  have hby := Bd.bytes
  have hml : c.maxLocals = 18 := hml0
  have hown : s.vm.findClass "com/example/scratchline/scratchline/game/CascadeShowingPinLaw" = some m.cls := findClass_of_methodNamed Bd.named
  have hnm := (name_of_methodNamed Bd.named Bd.method).1
  have X0 : Stand p l e room_1 s m #[(.int p1), (.int p2), (.int p3), (.int p4), (.int p5), (.int p6)] below meth c s₁ [] 0 0 := Stand.of_body Bd
  have e0 : s₁.heap = h0 := by rw [← hh, Bd.state]; rfl
  have N0 := Fr.nil n0
  show own_End p e below s (s₁.setTop (entryFrame m #[(.int p1), (.int p2), (.int p3), (.int p4), (.int p5), (.int p6)] maxLocals)) (Q0 Z p1 p2 p3 p4 p5 p6 h0 n0) room_1.cells room_1.slots
  refine own_pre (A := s₁.setTop (mkF m 0 #[.val (.int p1), .val (.int p2), .val (.int p3), .val (.int p4), .val (.int p5), .val (.int p6), .unset, .unset, .unset, .unset, .unset, .unset, .unset, .unset, .unset, .unset, .unset, .unset] [])) (fun tt kt => castTop (ef_0 m p1 p2 p3 p4 p5 p6) kt) ?_
  show own_End p e below s (s₁.setTop (mkF m 0 #[.val (.int p1), .val (.int p2), .val (.int p3), .val (.int p4), .val (.int p5), .val (.int p6), .unset, .unset, .unset, .unset, .unset, .unset, .unset, .unset, .unset, .unset, .unset, .unset] [])) (Q0 Z p1 p2 p3 p4 p5 p6 h0 n0) room_1.cells room_1.slots
  have hj : own_law p1 p2 p3 p4 p5 p6 = own_law p1 p2 p3 p4 p5 p6 := rfl
  refine own_pre (A := s₁.setTop (mkF m 9 #[.val (.int p1), .val (.int p2), .val (.int p3), .val (.int p4), .val (.int p5), .val (.int p6), .val (.int ((p1 &&& (2147483647 : Int32)) % (65 : Int32))), .unset, .unset, .unset, .unset, .unset, .unset, .unset, .unset, .unset, .unset, .unset] [])) (fun tt kt => ?_) ?_
  · show Steps p.tables e below (s₁.setTop (mkF m 0 #[.val (.int p1), .val (.int p2), .val (.int p3), .val (.int p4), .val (.int p5), .val (.int p6), .unset, .unset, .unset, .unset, .unset, .unset, .unset, .unset, .unset, .unset, .unset, .unset] [])) _
    refine XS.iloadN X0.here hx rfl (hb hby at_0) rfl ?_
    show Steps p.tables e below (s₁.setTop (mkF m 1 #[.val (.int p1), .val (.int p2), .val (.int p3), .val (.int p4), .val (.int p5), .val (.int p6), .unset, .unset, .unset, .unset, .unset, .unset, .unset, .unset, .unset, .unset, .unset, .unset] [(.int p1)])) _
    refine X0.ldcInt hx hown (mvT hZ (hw _ (List.mem_of_getElem? (i := 0) rfl))) (g := (mkF m 1 #[.val (.int p1), .val (.int p2), .val (.int p3), .val (.int p4), .val (.int p5), .val (.int p6), .unset, .unset, .unset, .unset, .unset, .unset, .unset, .unset, .unset, .unset, .unset, .unset] [(.int p1)])) rfl (hb hby at_1) _ ?_
    show Steps p.tables e below (s₁.setTop (mkF m 3 #[.val (.int p1), .val (.int p2), .val (.int p3), .val (.int p4), .val (.int p5), .val (.int p6), .unset, .unset, .unset, .unset, .unset, .unset, .unset, .unset, .unset, .unset, .unset, .unset] [(.int (2147483647 : Int32)), (.int p1)])) _
    refine XS.iand X0.here hx rfl (hb hby at_3) rfl ?_
    refine XS.bipush X0.here hx rfl (hb hby at_4) ?_
    refine iremM X0 hx rfl (hb hby at_6) rfl (by decide : ¬ ((65 : Int32) = (0 : Int32))) ?_
    refine XS.istore X0.here hx rfl (hb hby at_7) rfl (l' := #[.val (.int p1), .val (.int p2), .val (.int p3), .val (.int p4), .val (.int p5), .val (.int p6), .val (.int ((p1 &&& (2147483647 : Int32)) % (65 : Int32))), .unset, .unset, .unset, .unset, .unset, .unset, .unset, .unset, .unset, .unset, .unset]) rfl ?_
    exact kt
  show own_End p e below s (s₁.setTop (mkF m 9 #[.val (.int p1), .val (.int p2), .val (.int p3), .val (.int p4), .val (.int p5), .val (.int p6), .val (.int ((p1 &&& (2147483647 : Int32)) % (65 : Int32))), .unset, .unset, .unset, .unset, .unset, .unset, .unset, .unset, .unset, .unset, .unset] [])) (Q0 Z p1 p2 p3 p4 p5 p6 h0 n0) room_1.cells room_1.slots
  have j9 : ∀ (Tj9 : State) (Lj9 : List Loc) (Xj9 : Stand p l e room_1 s m #[(.int p1), (.int p2), (.int p3), (.int p4), (.int p5), (.int p6)] below meth c Tj9 Lj9 0 0) (ej9 : Tj9.heap = h0) (Nj9 : Fr n0 Lj9) (n : Int32) (hn0 : 0 ≤ n.toInt) (hn1 : n.toInt ≤ 64), own_law p1 p2 p3 p4 p5 p6 = own_law_9 p1 p2 p3 p4 p5 p6 n → own_End p e below s (Tj9.setTop (mkF m 9 #[.val (.int p1), .val (.int p2), .val (.int p3), .val (.int p4), .val (.int p5), .val (.int p6), .val (.int n), .unset, .unset, .unset, .unset, .unset, .unset, .unset, .unset, .unset, .unset, .unset] [])) (Q0 Z p1 p2 p3 p4 p5 p6 h0 n0) room_1.cells room_1.slots := by
    intro Tj9 Lj9 Xj9 ej9 Nj9 n hn0 hn1 hj
    obtain ⟨T1, h1, k1, X1, e1, E1, A1, st1⟩ := newP Xj9 hx hZ (hw _ (List.mem_of_getElem? (i := 1) rfl)) ej9 (g := (mkF m 11 #[.val (.int p1), .val (.int p2), .val (.int p3), .val (.int p4), .val (.int p5), .val (.int p6), .val (.int n), .unset, .unset, .unset, .unset, .unset, .unset, .unset, .unset, .unset, .unset, .unset] [(.int n)])) rfl (hb hby at_11) rfl (own_ge0 hn0) (cap := 64) (by have := own_nn (own_ge0 hn0); omega) (by decide) (by decide) (by decide)
    obtain ⟨b1, g1⟩ : ∃ z, z = h0.size := ⟨_, rfl⟩
    rw [← g1] at A1 st1
    have g_b1 : n0 ≤ b1 := Nat.le_trans Z0 (Nat.le_of_eq g1.symm)
    have sz_b1 : h0.size ≤ b1 := Nat.le_trans (show Keep h0 h0 [] from (Keep.refl h0 _)).1 (Nat.le_of_eq g1.symm)
    have K1 : Keep h0 h1 [] := Keep.ext (Keep.refl h0 _) E1
    have Z1 : n0 ≤ h1.size := Nat.le_trans Z0 E1.1
    have V1 : own_Arr Z h1 b1 .int n (fun i => Value.int ((fun _ => (0 : Int32)) i)) := own_Arr.new A1 (own_ge0 hn0) (fun _ => rfl)
    refine own_pre (A := T1.setTop (mkF m 19 #[.val (.int p1), .val (.int p2), .val (.int p3), .val (.int p4), .val (.int p5), .val (.int p6), .val (.int n), .val (.ref b1), .unset, .unset, .unset, .unset, .unset, .unset, .unset, .unset, .unset, .unset] [(.int (64 : Int32)), (.int n)])) (fun tt kt => ?_) ?_
    · show Steps p.tables e below (Tj9.setTop (mkF m 9 #[.val (.int p1), .val (.int p2), .val (.int p3), .val (.int p4), .val (.int p5), .val (.int p6), .val (.int n), .unset, .unset, .unset, .unset, .unset, .unset, .unset, .unset, .unset, .unset, .unset] [])) _
      refine XS.iload Xj9.here hx rfl (hb hby at_9) rfl ?_
      show Steps p.tables e below (Tj9.setTop (mkF m 11 #[.val (.int p1), .val (.int p2), .val (.int p3), .val (.int p4), .val (.int p5), .val (.int p6), .val (.int n), .unset, .unset, .unset, .unset, .unset, .unset, .unset, .unset, .unset, .unset, .unset] [(.int n)])) _
      refine st1 _ ?_
      show Steps p.tables e below (T1.setTop (mkF m 13 #[.val (.int p1), .val (.int p2), .val (.int p3), .val (.int p4), .val (.int p5), .val (.int p6), .val (.int n), .unset, .unset, .unset, .unset, .unset, .unset, .unset, .unset, .unset, .unset, .unset] [(.ref b1)])) _
      refine XS.astore X1.here hx rfl (hb hby at_13) rfl rfl (l' := #[.val (.int p1), .val (.int p2), .val (.int p3), .val (.int p4), .val (.int p5), .val (.int p6), .val (.int n), .val (.ref b1), .unset, .unset, .unset, .unset, .unset, .unset, .unset, .unset, .unset, .unset]) rfl ?_
      refine XS.iload X1.here hx rfl (hb hby at_15) rfl ?_
      refine XS.bipush X1.here hx rfl (hb hby at_17) ?_
      exact kt
    show own_End p e below s (T1.setTop (mkF m 19 #[.val (.int p1), .val (.int p2), .val (.int p3), .val (.int p4), .val (.int p5), .val (.int p6), .val (.int n), .val (.ref b1), .unset, .unset, .unset, .unset, .unset, .unset, .unset, .unset, .unset, .unset] [(.int (64 : Int32)), (.int n)])) (Q0 Z p1 p2 p3 p4 p5 p6 h0 n0) room_1.cells room_1.slots
    have j34 : ∀ (Tj34 : State) (Lj34 : List Loc) (Xj34 : Stand p l e room_1 s m #[(.int p1), (.int p2), (.int p3), (.int p4), (.int p5), (.int p6)] below meth c Tj34 Lj34 1 64) (ej34 : Tj34.heap = h1) (Nj34 : Fr n0 Lj34) (low : Int64) , own_law p1 p2 p3 p4 p5 p6 = own_law_34 p1 p2 p3 p4 p5 p6 n low → own_End p e below s (Tj34.setTop (mkF m 34 #[.val (.int p1), .val (.int p2), .val (.int p3), .val (.int p4), .val (.int p5), .val (.int p6), .val (.int n), .val (.ref b1), .unset, .unset, .unset, .unset, .unset, .unset, .unset, .unset, .unset, .unset] [(.long low)])) (Q0 Z p1 p2 p3 p4 p5 p6 h0 n0) room_1.cells room_1.slots := by
      intro Tj34 Lj34 Xj34 ej34 Nj34 low  hj
      refine own_pre (A := Tj34.setTop (mkF m 38 #[.val (.int p1), .val (.int p2), .val (.int p3), .val (.int p4), .val (.int p5), .val (.int p6), .val (.int n), .val (.ref b1), .val (.long low), .second, .unset, .unset, .unset, .unset, .unset, .unset, .unset, .unset] [(.int p6)])) (fun tt kt => ?_) ?_
      · show Steps p.tables e below (Tj34.setTop (mkF m 34 #[.val (.int p1), .val (.int p2), .val (.int p3), .val (.int p4), .val (.int p5), .val (.int p6), .val (.int n), .val (.ref b1), .unset, .unset, .unset, .unset, .unset, .unset, .unset, .unset, .unset, .unset] [(.long low)])) _
        refine XS.lstore Xj34.here hx rfl (hb hby at_34) rfl (l' := #[.val (.int p1), .val (.int p2), .val (.int p3), .val (.int p4), .val (.int p5), .val (.int p6), .val (.int n), .val (.ref b1), .val (.long low), .second, .unset, .unset, .unset, .unset, .unset, .unset, .unset, .unset]) rfl ?_
        refine XS.iload Xj34.here hx rfl (hb hby at_36) rfl ?_
        exact kt
      show own_End p e below s (Tj34.setTop (mkF m 38 #[.val (.int p1), .val (.int p2), .val (.int p3), .val (.int p4), .val (.int p5), .val (.int p6), .val (.int n), .val (.ref b1), .val (.long low), .second, .unset, .unset, .unset, .unset, .unset, .unset, .unset, .unset] [(.int p6)])) (Q0 Z p1 p2 p3 p4 p5 p6 h0 n0) room_1.cells room_1.slots
      have j47 : ∀ (Tj47 : State) (Lj47 : List Loc) (Xj47 : Stand p l e room_1 s m #[(.int p1), (.int p2), (.int p3), (.int p4), (.int p5), (.int p6)] below meth c Tj47 Lj47 1 64) (ej47 : Tj47.heap = h1) (Nj47 : Fr n0 Lj47) (ex : Int64) , own_law p1 p2 p3 p4 p5 p6 = own_law_47 p1 p2 p3 p4 p5 p6 n low ex → own_End p e below s (Tj47.setTop (mkF m 47 #[.val (.int p1), .val (.int p2), .val (.int p3), .val (.int p4), .val (.int p5), .val (.int p6), .val (.int n), .val (.ref b1), .val (.long low), .second, .unset, .unset, .unset, .unset, .unset, .unset, .unset, .unset] [(.long ex)])) (Q0 Z p1 p2 p3 p4 p5 p6 h0 n0) room_1.cells room_1.slots := by
        intro Tj47 Lj47 Xj47 ej47 Nj47 ex  hj
        refine own_pre (A := Tj47.setTop (mkF m 57 #[.val (.int p1), .val (.int p2), .val (.int p3), .val (.int p4), .val (.int p5), .val (.int p6), .val (.int n), .val (.ref b1), .val (.long low), .second, .val (.long ex), .second, .val (.int (0 : Int32)), .val (.int (0 : Int32)), .unset, .unset, .unset, .unset] [(.int n)])) (fun tt kt => ?_) ?_
        · show Steps p.tables e below (Tj47.setTop (mkF m 47 #[.val (.int p1), .val (.int p2), .val (.int p3), .val (.int p4), .val (.int p5), .val (.int p6), .val (.int n), .val (.ref b1), .val (.long low), .second, .unset, .unset, .unset, .unset, .unset, .unset, .unset, .unset] [(.long ex)])) _
          refine XS.lstore Xj47.here hx rfl (hb hby at_47) rfl (l' := #[.val (.int p1), .val (.int p2), .val (.int p3), .val (.int p4), .val (.int p5), .val (.int p6), .val (.int n), .val (.ref b1), .val (.long low), .second, .val (.long ex), .second, .unset, .unset, .unset, .unset, .unset, .unset]) rfl ?_
          refine XS.iconst Xj47.here hx rfl (hb hby at_49) ?_
          refine XS.istore Xj47.here hx rfl (hb hby at_50) rfl (l' := #[.val (.int p1), .val (.int p2), .val (.int p3), .val (.int p4), .val (.int p5), .val (.int p6), .val (.int n), .val (.ref b1), .val (.long low), .second, .val (.long ex), .second, .val (.int (0 : Int32)), .unset, .unset, .unset, .unset, .unset]) rfl ?_
          refine XS.iconst Xj47.here hx rfl (hb hby at_52) ?_
          show Steps p.tables e below (Tj47.setTop (mkF m 53 #[.val (.int p1), .val (.int p2), .val (.int p3), .val (.int p4), .val (.int p5), .val (.int p6), .val (.int n), .val (.ref b1), .val (.long low), .second, .val (.long ex), .second, .val (.int (0 : Int32)), .unset, .unset, .unset, .unset, .unset] [(.int (0 : Int32))])) _
          refine XS.istore Xj47.here hx rfl (hb hby at_53) rfl (l' := #[.val (.int p1), .val (.int p2), .val (.int p3), .val (.int p4), .val (.int p5), .val (.int p6), .val (.int n), .val (.ref b1), .val (.long low), .second, .val (.long ex), .second, .val (.int (0 : Int32)), .val (.int (0 : Int32)), .unset, .unset, .unset, .unset]) rfl ?_
          refine XS.iload Xj47.here hx rfl (hb hby at_55) rfl ?_
          exact kt
        show own_End p e below s (Tj47.setTop (mkF m 57 #[.val (.int p1), .val (.int p2), .val (.int p3), .val (.int p4), .val (.int p5), .val (.int p6), .val (.int n), .val (.ref b1), .val (.long low), .second, .val (.long ex), .second, .val (.int (0 : Int32)), .val (.int (0 : Int32)), .unset, .unset, .unset, .unset] [(.int n)])) (Q0 Z p1 p2 p3 p4 p5 p6 h0 n0) room_1.cells room_1.slots
        by_cases hc57_2 : (0 : Int32) < n
        · refine own_pre (A := Tj47.setTop (mkF m 69 #[.val (.int p1), .val (.int p2), .val (.int p3), .val (.int p4), .val (.int p5), .val (.int p6), .val (.int n), .val (.ref b1), .val (.long low), .second, .val (.long ex), .second, .val (.int ((p2 &&& (2147483647 : Int32)) % n)), .val (.int (0 : Int32)), .unset, .unset, .unset, .unset] [])) (fun tt kt => ?_) ?_
          · show Steps p.tables e below (Tj47.setTop (mkF m 57 #[.val (.int p1), .val (.int p2), .val (.int p3), .val (.int p4), .val (.int p5), .val (.int p6), .val (.int n), .val (.ref b1), .val (.long low), .second, .val (.long ex), .second, .val (.int (0 : Int32)), .val (.int (0 : Int32)), .unset, .unset, .unset, .unset] [(.int n)])) _
            refine XS.ifNo Xj47.here hx rfl (hb hby at_57) rfl ((if0 _ _).trans (tlt hc57_2).2.2.2) ?_
            refine XS.iloadN Xj47.here hx rfl (hb hby at_60) rfl ?_
            show Steps p.tables e below (Tj47.setTop (mkF m 61 #[.val (.int p1), .val (.int p2), .val (.int p3), .val (.int p4), .val (.int p5), .val (.int p6), .val (.int n), .val (.ref b1), .val (.long low), .second, .val (.long ex), .second, .val (.int (0 : Int32)), .val (.int (0 : Int32)), .unset, .unset, .unset, .unset] [(.int p2)])) _
            refine Xj47.ldcInt hx hown (mvT hZ (hw _ (List.mem_of_getElem? (i := 0) rfl))) (g := (mkF m 61 #[.val (.int p1), .val (.int p2), .val (.int p3), .val (.int p4), .val (.int p5), .val (.int p6), .val (.int n), .val (.ref b1), .val (.long low), .second, .val (.long ex), .second, .val (.int (0 : Int32)), .val (.int (0 : Int32)), .unset, .unset, .unset, .unset] [(.int p2)])) rfl (hb hby at_61) _ ?_
            show Steps p.tables e below (Tj47.setTop (mkF m 63 #[.val (.int p1), .val (.int p2), .val (.int p3), .val (.int p4), .val (.int p5), .val (.int p6), .val (.int n), .val (.ref b1), .val (.long low), .second, .val (.long ex), .second, .val (.int (0 : Int32)), .val (.int (0 : Int32)), .unset, .unset, .unset, .unset] [(.int (2147483647 : Int32)), (.int p2)])) _
            refine XS.iand Xj47.here hx rfl (hb hby at_63) rfl ?_
            refine XS.iload Xj47.here hx rfl (hb hby at_64) rfl ?_
            refine iremM Xj47 hx rfl (hb hby at_66) rfl (own_pos hc57_2) ?_
            refine XS.istore Xj47.here hx rfl (hb hby at_67) rfl (l' := #[.val (.int p1), .val (.int p2), .val (.int p3), .val (.int p4), .val (.int p5), .val (.int p6), .val (.int n), .val (.ref b1), .val (.long low), .second, .val (.long ex), .second, .val (.int ((p2 &&& (2147483647 : Int32)) % n)), .val (.int (0 : Int32)), .unset, .unset, .unset, .unset]) rfl ?_
            exact kt
          show own_End p e below s (Tj47.setTop (mkF m 69 #[.val (.int p1), .val (.int p2), .val (.int p3), .val (.int p4), .val (.int p5), .val (.int p6), .val (.int n), .val (.ref b1), .val (.long low), .second, .val (.long ex), .second, .val (.int ((p2 &&& (2147483647 : Int32)) % n)), .val (.int (0 : Int32)), .unset, .unset, .unset, .unset] [])) (Q0 Z p1 p2 p3 p4 p5 p6 h0 n0) room_1.cells room_1.slots
          have j69 : ∀ (Tj69 : State) (Lj69 : List Loc) (Xj69 : Stand p l e room_1 s m #[(.int p1), (.int p2), (.int p3), (.int p4), (.int p5), (.int p6)] below meth c Tj69 Lj69 1 64) (ej69 : Tj69.heap = h1) (Nj69 : Fr n0 Lj69) (pi : Int32) (hi0 : 0 ≤ pi.toInt) (hi1 : pi.toInt < n.toInt), own_law p1 p2 p3 p4 p5 p6 = own_law_69 p1 p2 p3 p4 p5 p6 n low ex pi → own_End p e below s (Tj69.setTop (mkF m 69 #[.val (.int p1), .val (.int p2), .val (.int p3), .val (.int p4), .val (.int p5), .val (.int p6), .val (.int n), .val (.ref b1), .val (.long low), .second, .val (.long ex), .second, .val (.int pi), .val (.int (0 : Int32)), .unset, .unset, .unset, .unset] [])) (Q0 Z p1 p2 p3 p4 p5 p6 h0 n0) room_1.cells room_1.slots := by
            intro Tj69 Lj69 Xj69 ej69 Nj69 pi hi0 hi1 hj
            refine own_pre (A := Tj69.setTop (mkF m 78 #[.val (.int p1), .val (.int p2), .val (.int p3), .val (.int p4), .val (.int p5), .val (.int p6), .val (.int n), .val (.ref b1), .val (.long low), .second, .val (.long ex), .second, .val (.int pi), .val (.int ((p3 &&& (2147483647 : Int32)) % n)), .unset, .unset, .unset, .unset] [])) (fun tt kt => ?_) ?_
            · show Steps p.tables e below (Tj69.setTop (mkF m 69 #[.val (.int p1), .val (.int p2), .val (.int p3), .val (.int p4), .val (.int p5), .val (.int p6), .val (.int n), .val (.ref b1), .val (.long low), .second, .val (.long ex), .second, .val (.int pi), .val (.int (0 : Int32)), .unset, .unset, .unset, .unset] [])) _
              refine XS.iloadN Xj69.here hx rfl (hb hby at_69) rfl ?_
              show Steps p.tables e below (Tj69.setTop (mkF m 70 #[.val (.int p1), .val (.int p2), .val (.int p3), .val (.int p4), .val (.int p5), .val (.int p6), .val (.int n), .val (.ref b1), .val (.long low), .second, .val (.long ex), .second, .val (.int pi), .val (.int (0 : Int32)), .unset, .unset, .unset, .unset] [(.int p3)])) _
              refine Xj69.ldcInt hx hown (mvT hZ (hw _ (List.mem_of_getElem? (i := 0) rfl))) (g := (mkF m 70 #[.val (.int p1), .val (.int p2), .val (.int p3), .val (.int p4), .val (.int p5), .val (.int p6), .val (.int n), .val (.ref b1), .val (.long low), .second, .val (.long ex), .second, .val (.int pi), .val (.int (0 : Int32)), .unset, .unset, .unset, .unset] [(.int p3)])) rfl (hb hby at_70) _ ?_
              show Steps p.tables e below (Tj69.setTop (mkF m 72 #[.val (.int p1), .val (.int p2), .val (.int p3), .val (.int p4), .val (.int p5), .val (.int p6), .val (.int n), .val (.ref b1), .val (.long low), .second, .val (.long ex), .second, .val (.int pi), .val (.int (0 : Int32)), .unset, .unset, .unset, .unset] [(.int (2147483647 : Int32)), (.int p3)])) _
              refine XS.iand Xj69.here hx rfl (hb hby at_72) rfl ?_
              refine XS.iload Xj69.here hx rfl (hb hby at_73) rfl ?_
              refine iremM Xj69 hx rfl (hb hby at_75) rfl (own_pos hc57_2) ?_
              refine XS.istore Xj69.here hx rfl (hb hby at_76) rfl (l' := #[.val (.int p1), .val (.int p2), .val (.int p3), .val (.int p4), .val (.int p5), .val (.int p6), .val (.int n), .val (.ref b1), .val (.long low), .second, .val (.long ex), .second, .val (.int pi), .val (.int ((p3 &&& (2147483647 : Int32)) % n)), .unset, .unset, .unset, .unset]) rfl ?_
              exact kt
            show own_End p e below s (Tj69.setTop (mkF m 78 #[.val (.int p1), .val (.int p2), .val (.int p3), .val (.int p4), .val (.int p5), .val (.int p6), .val (.int n), .val (.ref b1), .val (.long low), .second, .val (.long ex), .second, .val (.int pi), .val (.int ((p3 &&& (2147483647 : Int32)) % n)), .unset, .unset, .unset, .unset] [])) (Q0 Z p1 p2 p3 p4 p5 p6 h0 n0) room_1.cells room_1.slots
            have j78 : ∀ (Tj78 : State) (Lj78 : List Loc) (Xj78 : Stand p l e room_1 s m #[(.int p1), (.int p2), (.int p3), (.int p4), (.int p5), (.int p6)] below meth c Tj78 Lj78 1 64) (ej78 : Tj78.heap = h1) (Nj78 : Fr n0 Lj78) (pj : Int32) (hj0 : 0 ≤ pj.toInt) (hj1 : pj.toInt < n.toInt), own_law p1 p2 p3 p4 p5 p6 = own_law_78 p1 p2 p3 p4 p5 p6 n low ex pi pj → own_End p e below s (Tj78.setTop (mkF m 78 #[.val (.int p1), .val (.int p2), .val (.int p3), .val (.int p4), .val (.int p5), .val (.int p6), .val (.int n), .val (.ref b1), .val (.long low), .second, .val (.long ex), .second, .val (.int pi), .val (.int pj), .unset, .unset, .unset, .unset] [])) (Q0 Z p1 p2 p3 p4 p5 p6 h0 n0) room_1.cells room_1.slots := by
              intro Tj78 Lj78 Xj78 ej78 Nj78 pj hj0 hj1 hj
              obtain ⟨cl3, Ar3, S3, Nn3, G3⟩ := id V1
              have hin3 : ¬ (pi < 0 ∨ cl3.slots.size ≤ pi.toNatClampNeg) := inb_of S3 (own_inb2 hi0 hi1 : ¬ pi < 0 ∧ pi < n)
              obtain ⟨T4, h4, X4, e4, W4, st4⟩ := stI Xj78 hx hZ ej78 Ar3 (j := pi) hin3 (g := (mkF m 83 #[.val (.int p1), .val (.int p2), .val (.int p3), .val (.int p4), .val (.int p5), .val (.int p6), .val (.int n), .val (.ref b1), .val (.long low), .second, .val (.long ex), .second, .val (.int pi), .val (.int pj), .unset, .unset, .unset, .unset] [(.int p4), (.int pi), (.ref b1)])) rfl rfl (hb hby at_83)
              have V4 : own_Arr Z h4 b1 .int n (fun i => Value.int ((own_b0_g5 p1 p2 p3 p4 p5 p6 n low ex pi pj) i)) := own_Arr.set (w := Value.int) (g := (fun _ => (0 : Int32))) (x := p4) V1 W4 rfl (fun i => rfl)
              have N4 := Fr.snoc X4 Nj78 g_b1
              have K4 : Keep h0 h4 [] := Keep.wr K1 W4 (Or.inr sz_b1)
              have Z4 : n0 ≤ h4.size := Nat.le_trans Z1 (Nat.le_of_eq W4.size.symm)
              obtain ⟨cl6, Ar6, S6, Nn6, G6⟩ := id V4
              have hin6 : ¬ (pj < 0 ∨ cl6.slots.size ≤ pj.toNatClampNeg) := inb_of S6 (own_inb2 hj0 hj1 : ¬ pj < 0 ∧ pj < n)
              obtain ⟨T7, h7, X7, e7, W7, st7⟩ := stI X4 hx hZ e4 Ar6 (j := pj) hin6 (g := (mkF m 90 #[.val (.int p1), .val (.int p2), .val (.int p3), .val (.int p4), .val (.int p5), .val (.int p6), .val (.int n), .val (.ref b1), .val (.long low), .second, .val (.long ex), .second, .val (.int pi), .val (.int pj), .unset, .unset, .unset, .unset] [(.int p5), (.int pj), (.ref b1)])) rfl rfl (hb hby at_90)
              have V7 : own_Arr Z h7 b1 .int n (fun i => Value.int ((own_b0_g8 p1 p2 p3 p4 p5 p6 n low ex pi pj) i)) := own_Arr.set (w := Value.int) (g := (own_b0_g5 p1 p2 p3 p4 p5 p6 n low ex pi pj)) (x := p5) V4 W7 rfl (fun i => rfl)
              have N7 := Fr.snoc X7 N4 g_b1
              have K7 : Keep h0 h7 [] := Keep.wr K4 W7 (Or.inr sz_b1)
              have Z7 : n0 ≤ h7.size := Nat.le_trans Z4 (Nat.le_of_eq W7.size.symm)
              refine own_pre (A := T7.setTop (mkF m 109 #[.val (.int p1), .val (.int p2), .val (.int p3), .val (.int p4), .val (.int p5), .val (.int p6), .val (.int n), .val (.ref b1), .val (.long low), .second, .val (.long ex), .second, .val (.int pi), .val (.int pj), .val (.long ((1 : Int64) <<< (pi &&& 0x3f).toInt64)), .second, .unset, .unset] [(.int p6), (.int p4), (.long (ex &&& (((1 : Int64) <<< (pi &&& 0x3f).toInt64) ^^^ (-1 : Int64))))])) (fun tt kt => ?_) ?_
              · show Steps p.tables e below (Tj78.setTop (mkF m 78 #[.val (.int p1), .val (.int p2), .val (.int p3), .val (.int p4), .val (.int p5), .val (.int p6), .val (.int n), .val (.ref b1), .val (.long low), .second, .val (.long ex), .second, .val (.int pi), .val (.int pj), .unset, .unset, .unset, .unset] [])) _
                refine XS.aload Xj78.here hx rfl (hb hby at_78) rfl rfl ?_
                refine XS.iload Xj78.here hx rfl (hb hby at_80) rfl ?_
                refine XS.iloadN Xj78.here hx rfl (hb hby at_82) rfl ?_
                show Steps p.tables e below (Tj78.setTop (mkF m 83 #[.val (.int p1), .val (.int p2), .val (.int p3), .val (.int p4), .val (.int p5), .val (.int p6), .val (.int n), .val (.ref b1), .val (.long low), .second, .val (.long ex), .second, .val (.int pi), .val (.int pj), .unset, .unset, .unset, .unset] [(.int p4), (.int pi), (.ref b1)])) _
                refine st4 _ ?_
                show Steps p.tables e below (T4.setTop (mkF m 84 #[.val (.int p1), .val (.int p2), .val (.int p3), .val (.int p4), .val (.int p5), .val (.int p6), .val (.int n), .val (.ref b1), .val (.long low), .second, .val (.long ex), .second, .val (.int pi), .val (.int pj), .unset, .unset, .unset, .unset] [])) _
                refine XS.aload X4.here hx rfl (hb hby at_84) rfl rfl ?_
                refine XS.iload X4.here hx rfl (hb hby at_86) rfl ?_
                refine XS.iload X4.here hx rfl (hb hby at_88) rfl ?_
                show Steps p.tables e below (T4.setTop (mkF m 90 #[.val (.int p1), .val (.int p2), .val (.int p3), .val (.int p4), .val (.int p5), .val (.int p6), .val (.int n), .val (.ref b1), .val (.long low), .second, .val (.long ex), .second, .val (.int pi), .val (.int pj), .unset, .unset, .unset, .unset] [(.int p5), (.int pj), (.ref b1)])) _
                refine st7 _ ?_
                show Steps p.tables e below (T7.setTop (mkF m 91 #[.val (.int p1), .val (.int p2), .val (.int p3), .val (.int p4), .val (.int p5), .val (.int p6), .val (.int n), .val (.ref b1), .val (.long low), .second, .val (.long ex), .second, .val (.int pi), .val (.int pj), .unset, .unset, .unset, .unset] [])) _
                refine XS.lconst X7.here hx rfl (hb hby at_91) ?_
                refine XS.iload X7.here hx rfl (hb hby at_92) rfl ?_
                refine XS.lshl X7.here hx rfl (hb hby at_94) rfl ?_
                refine XS.lstore X7.here hx rfl (hb hby at_95) rfl (l' := #[.val (.int p1), .val (.int p2), .val (.int p3), .val (.int p4), .val (.int p5), .val (.int p6), .val (.int n), .val (.ref b1), .val (.long low), .second, .val (.long ex), .second, .val (.int pi), .val (.int pj), .val (.long ((1 : Int64) <<< (pi &&& 0x3f).toInt64)), .second, .unset, .unset]) rfl ?_
                show Steps p.tables e below (T7.setTop (mkF m 97 #[.val (.int p1), .val (.int p2), .val (.int p3), .val (.int p4), .val (.int p5), .val (.int p6), .val (.int n), .val (.ref b1), .val (.long low), .second, .val (.long ex), .second, .val (.int pi), .val (.int pj), .val (.long ((1 : Int64) <<< (pi &&& 0x3f).toInt64)), .second, .unset, .unset] [])) _
                refine XS.lload X7.here hx rfl (hb hby at_97) rfl ?_
                refine XS.lload X7.here hx rfl (hb hby at_99) rfl ?_
                show Steps p.tables e below (T7.setTop (mkF m 101 #[.val (.int p1), .val (.int p2), .val (.int p3), .val (.int p4), .val (.int p5), .val (.int p6), .val (.int n), .val (.ref b1), .val (.long low), .second, .val (.long ex), .second, .val (.int pi), .val (.int pj), .val (.long ((1 : Int64) <<< (pi &&& 0x3f).toInt64)), .second, .unset, .unset] [(.long ((1 : Int64) <<< (pi &&& 0x3f).toInt64)), (.long ex)])) _
                refine X7.ldc2Long hx hown (mvT hZ (hw _ (List.mem_of_getElem? (i := 6) rfl))) (g := (mkF m 101 #[.val (.int p1), .val (.int p2), .val (.int p3), .val (.int p4), .val (.int p5), .val (.int p6), .val (.int n), .val (.ref b1), .val (.long low), .second, .val (.long ex), .second, .val (.int pi), .val (.int pj), .val (.long ((1 : Int64) <<< (pi &&& 0x3f).toInt64)), .second, .unset, .unset] [(.long ((1 : Int64) <<< (pi &&& 0x3f).toInt64)), (.long ex)])) rfl (hb hby at_101) _ ?_
                show Steps p.tables e below (T7.setTop (mkF m 104 #[.val (.int p1), .val (.int p2), .val (.int p3), .val (.int p4), .val (.int p5), .val (.int p6), .val (.int n), .val (.ref b1), .val (.long low), .second, .val (.long ex), .second, .val (.int pi), .val (.int pj), .val (.long ((1 : Int64) <<< (pi &&& 0x3f).toInt64)), .second, .unset, .unset] [(.long (-1 : Int64)), (.long ((1 : Int64) <<< (pi &&& 0x3f).toInt64)), (.long ex)])) _
                refine XS.lxor X7.here hx rfl (hb hby at_104) rfl ?_
                refine XS.land X7.here hx rfl (hb hby at_105) rfl ?_
                refine XS.iloadN X7.here hx rfl (hb hby at_106) rfl ?_
                refine XS.iload X7.here hx rfl (hb hby at_107) rfl ?_
                exact kt
              show own_End p e below s (T7.setTop (mkF m 109 #[.val (.int p1), .val (.int p2), .val (.int p3), .val (.int p4), .val (.int p5), .val (.int p6), .val (.int n), .val (.ref b1), .val (.long low), .second, .val (.long ex), .second, .val (.int pi), .val (.int pj), .val (.long ((1 : Int64) <<< (pi &&& 0x3f).toInt64)), .second, .unset, .unset] [(.int p6), (.int p4), (.long (ex &&& (((1 : Int64) <<< (pi &&& 0x3f).toInt64) ^^^ (-1 : Int64))))])) (Q0 Z p1 p2 p3 p4 p5 p6 h0 n0) room_1.cells room_1.slots
              have j118 : ∀ (Tj118 : State) (Lj118 : List Loc) (Xj118 : Stand p l e room_1 s m #[(.int p1), (.int p2), (.int p3), (.int p4), (.int p5), (.int p6)] below meth c Tj118 Lj118 1 64) (ej118 : Tj118.heap = h7) (Nj118 : Fr n0 Lj118) (bi : Int64) , own_law p1 p2 p3 p4 p5 p6 = own_law_118 p1 p2 p3 p4 p5 p6 n low ex pi pj bi → own_End p e below s (Tj118.setTop (mkF m 118 #[.val (.int p1), .val (.int p2), .val (.int p3), .val (.int p4), .val (.int p5), .val (.int p6), .val (.int n), .val (.ref b1), .val (.long low), .second, .val (.long ex), .second, .val (.int pi), .val (.int pj), .val (.long ((1 : Int64) <<< (pi &&& 0x3f).toInt64)), .second, .unset, .unset] [(.long bi), (.long (ex &&& (((1 : Int64) <<< (pi &&& 0x3f).toInt64) ^^^ (-1 : Int64))))])) (Q0 Z p1 p2 p3 p4 p5 p6 h0 n0) room_1.cells room_1.slots := by
                intro Tj118 Lj118 Xj118 ej118 Nj118 bi  hj
                refine own_pre (A := Tj118.setTop (mkF m 140 #[.val (.int p1), .val (.int p2), .val (.int p3), .val (.int p4), .val (.int p5), .val (.int p6), .val (.int n), .val (.ref b1), .val (.long low), .second, .val (.long ((ex &&& (((1 : Int64) <<< (pi &&& 0x3f).toInt64) ^^^ (-1 : Int64))) ||| bi)), .second, .val (.int pi), .val (.int pj), .val (.long ((1 : Int64) <<< (pi &&& 0x3f).toInt64)), .second, .val (.long ((1 : Int64) <<< (pj &&& 0x3f).toInt64)), .second] [(.int p6), (.int p5), (.long (((ex &&& (((1 : Int64) <<< (pi &&& 0x3f).toInt64) ^^^ (-1 : Int64))) ||| bi) &&& (((1 : Int64) <<< (pj &&& 0x3f).toInt64) ^^^ (-1 : Int64))))])) (fun tt kt => ?_) ?_
                · show Steps p.tables e below (Tj118.setTop (mkF m 118 #[.val (.int p1), .val (.int p2), .val (.int p3), .val (.int p4), .val (.int p5), .val (.int p6), .val (.int n), .val (.ref b1), .val (.long low), .second, .val (.long ex), .second, .val (.int pi), .val (.int pj), .val (.long ((1 : Int64) <<< (pi &&& 0x3f).toInt64)), .second, .unset, .unset] [(.long bi), (.long (ex &&& (((1 : Int64) <<< (pi &&& 0x3f).toInt64) ^^^ (-1 : Int64))))])) _
                  refine XS.lor Xj118.here hx rfl (hb hby at_118) rfl ?_
                  refine XS.lstore Xj118.here hx rfl (hb hby at_119) rfl (l' := #[.val (.int p1), .val (.int p2), .val (.int p3), .val (.int p4), .val (.int p5), .val (.int p6), .val (.int n), .val (.ref b1), .val (.long low), .second, .val (.long ((ex &&& (((1 : Int64) <<< (pi &&& 0x3f).toInt64) ^^^ (-1 : Int64))) ||| bi)), .second, .val (.int pi), .val (.int pj), .val (.long ((1 : Int64) <<< (pi &&& 0x3f).toInt64)), .second, .unset, .unset]) rfl ?_
                  refine XS.lconst Xj118.here hx rfl (hb hby at_121) ?_
                  refine XS.iload Xj118.here hx rfl (hb hby at_122) rfl ?_
                  show Steps p.tables e below (Tj118.setTop (mkF m 124 #[.val (.int p1), .val (.int p2), .val (.int p3), .val (.int p4), .val (.int p5), .val (.int p6), .val (.int n), .val (.ref b1), .val (.long low), .second, .val (.long ((ex &&& (((1 : Int64) <<< (pi &&& 0x3f).toInt64) ^^^ (-1 : Int64))) ||| bi)), .second, .val (.int pi), .val (.int pj), .val (.long ((1 : Int64) <<< (pi &&& 0x3f).toInt64)), .second, .unset, .unset] [(.int pj), (.long (1 : Int64))])) _
                  refine XS.lshl Xj118.here hx rfl (hb hby at_124) rfl ?_
                  refine XS.lstore Xj118.here hx rfl (hb hby at_125) rfl (l' := #[.val (.int p1), .val (.int p2), .val (.int p3), .val (.int p4), .val (.int p5), .val (.int p6), .val (.int n), .val (.ref b1), .val (.long low), .second, .val (.long ((ex &&& (((1 : Int64) <<< (pi &&& 0x3f).toInt64) ^^^ (-1 : Int64))) ||| bi)), .second, .val (.int pi), .val (.int pj), .val (.long ((1 : Int64) <<< (pi &&& 0x3f).toInt64)), .second, .val (.long ((1 : Int64) <<< (pj &&& 0x3f).toInt64)), .second]) rfl ?_
                  refine XS.lload Xj118.here hx rfl (hb hby at_127) rfl ?_
                  refine XS.lload Xj118.here hx rfl (hb hby at_129) rfl ?_
                  show Steps p.tables e below (Tj118.setTop (mkF m 131 #[.val (.int p1), .val (.int p2), .val (.int p3), .val (.int p4), .val (.int p5), .val (.int p6), .val (.int n), .val (.ref b1), .val (.long low), .second, .val (.long ((ex &&& (((1 : Int64) <<< (pi &&& 0x3f).toInt64) ^^^ (-1 : Int64))) ||| bi)), .second, .val (.int pi), .val (.int pj), .val (.long ((1 : Int64) <<< (pi &&& 0x3f).toInt64)), .second, .val (.long ((1 : Int64) <<< (pj &&& 0x3f).toInt64)), .second] [(.long ((1 : Int64) <<< (pj &&& 0x3f).toInt64)), (.long ((ex &&& (((1 : Int64) <<< (pi &&& 0x3f).toInt64) ^^^ (-1 : Int64))) ||| bi))])) _
                  refine Xj118.ldc2Long hx hown (mvT hZ (hw _ (List.mem_of_getElem? (i := 6) rfl))) (g := (mkF m 131 #[.val (.int p1), .val (.int p2), .val (.int p3), .val (.int p4), .val (.int p5), .val (.int p6), .val (.int n), .val (.ref b1), .val (.long low), .second, .val (.long ((ex &&& (((1 : Int64) <<< (pi &&& 0x3f).toInt64) ^^^ (-1 : Int64))) ||| bi)), .second, .val (.int pi), .val (.int pj), .val (.long ((1 : Int64) <<< (pi &&& 0x3f).toInt64)), .second, .val (.long ((1 : Int64) <<< (pj &&& 0x3f).toInt64)), .second] [(.long ((1 : Int64) <<< (pj &&& 0x3f).toInt64)), (.long ((ex &&& (((1 : Int64) <<< (pi &&& 0x3f).toInt64) ^^^ (-1 : Int64))) ||| bi))])) rfl (hb hby at_131) _ ?_
                  show Steps p.tables e below (Tj118.setTop (mkF m 134 #[.val (.int p1), .val (.int p2), .val (.int p3), .val (.int p4), .val (.int p5), .val (.int p6), .val (.int n), .val (.ref b1), .val (.long low), .second, .val (.long ((ex &&& (((1 : Int64) <<< (pi &&& 0x3f).toInt64) ^^^ (-1 : Int64))) ||| bi)), .second, .val (.int pi), .val (.int pj), .val (.long ((1 : Int64) <<< (pi &&& 0x3f).toInt64)), .second, .val (.long ((1 : Int64) <<< (pj &&& 0x3f).toInt64)), .second] [(.long (-1 : Int64)), (.long ((1 : Int64) <<< (pj &&& 0x3f).toInt64)), (.long ((ex &&& (((1 : Int64) <<< (pi &&& 0x3f).toInt64) ^^^ (-1 : Int64))) ||| bi))])) _
                  refine XS.lxor Xj118.here hx rfl (hb hby at_134) rfl ?_
                  refine XS.land Xj118.here hx rfl (hb hby at_135) rfl ?_
                  refine XS.iload Xj118.here hx rfl (hb hby at_136) rfl ?_
                  refine XS.iload Xj118.here hx rfl (hb hby at_138) rfl ?_
                  exact kt
                show own_End p e below s (Tj118.setTop (mkF m 140 #[.val (.int p1), .val (.int p2), .val (.int p3), .val (.int p4), .val (.int p5), .val (.int p6), .val (.int n), .val (.ref b1), .val (.long low), .second, .val (.long ((ex &&& (((1 : Int64) <<< (pi &&& 0x3f).toInt64) ^^^ (-1 : Int64))) ||| bi)), .second, .val (.int pi), .val (.int pj), .val (.long ((1 : Int64) <<< (pi &&& 0x3f).toInt64)), .second, .val (.long ((1 : Int64) <<< (pj &&& 0x3f).toInt64)), .second] [(.int p6), (.int p5), (.long (((ex &&& (((1 : Int64) <<< (pi &&& 0x3f).toInt64) ^^^ (-1 : Int64))) ||| bi) &&& (((1 : Int64) <<< (pj &&& 0x3f).toInt64) ^^^ (-1 : Int64))))])) (Q0 Z p1 p2 p3 p4 p5 p6 h0 n0) room_1.cells room_1.slots
                have j149 : ∀ (Tj149 : State) (Lj149 : List Loc) (Xj149 : Stand p l e room_1 s m #[(.int p1), (.int p2), (.int p3), (.int p4), (.int p5), (.int p6)] below meth c Tj149 Lj149 1 64) (ej149 : Tj149.heap = h7) (Nj149 : Fr n0 Lj149) (bj : Int64) , own_law p1 p2 p3 p4 p5 p6 = own_law_149 p1 p2 p3 p4 p5 p6 n low ex pi pj bi bj → own_End p e below s (Tj149.setTop (mkF m 149 #[.val (.int p1), .val (.int p2), .val (.int p3), .val (.int p4), .val (.int p5), .val (.int p6), .val (.int n), .val (.ref b1), .val (.long low), .second, .val (.long ((ex &&& (((1 : Int64) <<< (pi &&& 0x3f).toInt64) ^^^ (-1 : Int64))) ||| bi)), .second, .val (.int pi), .val (.int pj), .val (.long ((1 : Int64) <<< (pi &&& 0x3f).toInt64)), .second, .val (.long ((1 : Int64) <<< (pj &&& 0x3f).toInt64)), .second] [(.long bj), (.long (((ex &&& (((1 : Int64) <<< (pi &&& 0x3f).toInt64) ^^^ (-1 : Int64))) ||| bi) &&& (((1 : Int64) <<< (pj &&& 0x3f).toInt64) ^^^ (-1 : Int64))))])) (Q0 Z p1 p2 p3 p4 p5 p6 h0 n0) room_1.cells room_1.slots := by
                  intro Tj149 Lj149 Xj149 ej149 Nj149 bj  hj
                  obtain ⟨_, _, ⟨T9, L9, k9, n9⟩, -, X9, ⟨Lc9, hQ9, l9, y9, z9⟩, st9⟩ := Jvm.LawKit.callS Xj149 hx (y := (⟨"com/example/scratchline/scratchline/game/Cascade", "showing", "([II)J"⟩ : MethodName)) hown (mvT hZ (hw _ (List.mem_of_getElem? (i := 2) rfl))) (mvT hZ (hw _ (List.mem_of_getElem? (i := 3) rfl))) (mvT hZ (hw _ (List.mem_of_getElem? (i := 4) rfl))) (mvT hZ (hw _ (List.mem_of_getElem? (i := 5) rfl))) (by decide) (backOf (W := 0) (rm1 l Z a0 hw [] b1 p6 (own_b0_g8 p1 p2 p3 p4 p5 p6 n low ex pi pj) n h7 n0 Z7 V7) hZ (hw _ (List.mem_of_getElem? (i := 5) rfl)) (hw _ (List.mem_of_getElem? (i := 4) rfl)) (by decide) (by decide)) (g := (mkF m 156 #[.val (.int p1), .val (.int p2), .val (.int p3), .val (.int p4), .val (.int p5), .val (.int p6), .val (.int n), .val (.ref b1), .val (.long low), .second, .val (.long ((((ex &&& (((1 : Int64) <<< (pi &&& 0x3f).toInt64) ^^^ (-1 : Int64))) ||| bi) &&& (((1 : Int64) <<< (pj &&& 0x3f).toInt64) ^^^ (-1 : Int64))) ||| bj)), .second, .val (.int pi), .val (.int pj), .val (.long ((1 : Int64) <<< (pi &&& 0x3f).toInt64)), .second, .val (.long ((1 : Int64) <<< (pj &&& 0x3f).toInt64)), .second] [(.int p6), (.ref b1)])) rfl (by rw [hml]; rfl) (argsL := [(.ref b1), (.int p6)]) (rest := []) (lenOf pd_0_0 rfl) rfl (by show 2 * 0 + _ ≤ _; exact Nat.le_of_eq rfl) (hb hby at_156) (fun _ _ => ⟨rfl, ej149, (by decide : 1 + 0 ≤ _), (by decide : 64 + 0 ≤ _)⟩)
                  dsimp only [Pt.U, Pt.locs, Pt.cells, Pt.slots] at X9 l9 y9 z9 st9 hQ9
                  subst l9 y9 z9
                  obtain ⟨rfl, N9q, e9⟩ := hQ9
                  have N9 := Fr.app Nj149 N9q
                  obtain ⟨cl10, Ar10, S10, Nn10, G10⟩ := id V7
                  have hin10 : ¬ (pj < 0 ∨ cl10.slots.size ≤ pj.toNatClampNeg) := inb_of S10 (own_inb2 hj0 hj1 : ¬ pj < 0 ∧ pj < n)
                  have hat10 : cl10.slots[pj.toNatClampNeg]? = some (.int ((own_b0_g8 p1 p2 p3 p4 p5 p6 n low ex pi pj) pj.toNatClampNeg)) := own_at S10 G10 hin10
                  refine own_pre (A := T9.setTop (mkF m 176 #[.val (.int p1), .val (.int p2), .val (.int p3), .val (.int p4), .val (.int p5), .val (.int p6), .val (.int n), .val (.ref b1), .val (.long low), .second, .val (.long ((((ex &&& (((1 : Int64) <<< (pi &&& 0x3f).toInt64) ^^^ (-1 : Int64))) ||| bi) &&& (((1 : Int64) <<< (pj &&& 0x3f).toInt64) ^^^ (-1 : Int64))) ||| bj)), .second, .val (.int pi), .val (.int pj), .val (.long (own_show p6 (own_b0_g8 p1 p2 p3 p4 p5 p6 n low ex pi pj) n)), .second, .val (.int (1 : Int32)), .unset] [(.int p5), (.int ((own_b0_g8 p1 p2 p3 p4 p5 p6 n low ex pi pj) pj.toNatClampNeg))])) (fun tt kt => ?_) ?_
                  · show Steps p.tables e below (Tj149.setTop (mkF m 149 #[.val (.int p1), .val (.int p2), .val (.int p3), .val (.int p4), .val (.int p5), .val (.int p6), .val (.int n), .val (.ref b1), .val (.long low), .second, .val (.long ((ex &&& (((1 : Int64) <<< (pi &&& 0x3f).toInt64) ^^^ (-1 : Int64))) ||| bi)), .second, .val (.int pi), .val (.int pj), .val (.long ((1 : Int64) <<< (pi &&& 0x3f).toInt64)), .second, .val (.long ((1 : Int64) <<< (pj &&& 0x3f).toInt64)), .second] [(.long bj), (.long (((ex &&& (((1 : Int64) <<< (pi &&& 0x3f).toInt64) ^^^ (-1 : Int64))) ||| bi) &&& (((1 : Int64) <<< (pj &&& 0x3f).toInt64) ^^^ (-1 : Int64))))])) _
                    refine XS.lor Xj149.here hx rfl (hb hby at_149) rfl ?_
                    refine XS.lstore Xj149.here hx rfl (hb hby at_150) rfl (l' := #[.val (.int p1), .val (.int p2), .val (.int p3), .val (.int p4), .val (.int p5), .val (.int p6), .val (.int n), .val (.ref b1), .val (.long low), .second, .val (.long ((((ex &&& (((1 : Int64) <<< (pi &&& 0x3f).toInt64) ^^^ (-1 : Int64))) ||| bi) &&& (((1 : Int64) <<< (pj &&& 0x3f).toInt64) ^^^ (-1 : Int64))) ||| bj)), .second, .val (.int pi), .val (.int pj), .val (.long ((1 : Int64) <<< (pi &&& 0x3f).toInt64)), .second, .val (.long ((1 : Int64) <<< (pj &&& 0x3f).toInt64)), .second]) rfl ?_
                    refine XS.aload Xj149.here hx rfl (hb hby at_152) rfl rfl ?_
                    refine XS.iload Xj149.here hx rfl (hb hby at_154) rfl ?_
                    show Steps p.tables e below (Tj149.setTop (mkF m 156 #[.val (.int p1), .val (.int p2), .val (.int p3), .val (.int p4), .val (.int p5), .val (.int p6), .val (.int n), .val (.ref b1), .val (.long low), .second, .val (.long ((((ex &&& (((1 : Int64) <<< (pi &&& 0x3f).toInt64) ^^^ (-1 : Int64))) ||| bi) &&& (((1 : Int64) <<< (pj &&& 0x3f).toInt64) ^^^ (-1 : Int64))) ||| bj)), .second, .val (.int pi), .val (.int pj), .val (.long ((1 : Int64) <<< (pi &&& 0x3f).toInt64)), .second, .val (.long ((1 : Int64) <<< (pj &&& 0x3f).toInt64)), .second] [(.int p6), (.ref b1)])) _
                    refine st9 _ ?_
                    show Steps p.tables e below (T9.setTop (mkF m 159 #[.val (.int p1), .val (.int p2), .val (.int p3), .val (.int p4), .val (.int p5), .val (.int p6), .val (.int n), .val (.ref b1), .val (.long low), .second, .val (.long ((((ex &&& (((1 : Int64) <<< (pi &&& 0x3f).toInt64) ^^^ (-1 : Int64))) ||| bi) &&& (((1 : Int64) <<< (pj &&& 0x3f).toInt64) ^^^ (-1 : Int64))) ||| bj)), .second, .val (.int pi), .val (.int pj), .val (.long ((1 : Int64) <<< (pi &&& 0x3f).toInt64)), .second, .val (.long ((1 : Int64) <<< (pj &&& 0x3f).toInt64)), .second] [(.long (own_show p6 (own_b0_g8 p1 p2 p3 p4 p5 p6 n low ex pi pj) n))])) _
                    refine XS.lstore X9.here hx rfl (hb hby at_159) rfl (l' := #[.val (.int p1), .val (.int p2), .val (.int p3), .val (.int p4), .val (.int p5), .val (.int p6), .val (.int n), .val (.ref b1), .val (.long low), .second, .val (.long ((((ex &&& (((1 : Int64) <<< (pi &&& 0x3f).toInt64) ^^^ (-1 : Int64))) ||| bi) &&& (((1 : Int64) <<< (pj &&& 0x3f).toInt64) ^^^ (-1 : Int64))) ||| bj)), .second, .val (.int pi), .val (.int pj), .val (.long (own_show p6 (own_b0_g8 p1 p2 p3 p4 p5 p6 n low ex pi pj) n)), .second, .val (.long ((1 : Int64) <<< (pj &&& 0x3f).toInt64)), .second]) rfl ?_
                    refine XS.iconst X9.here hx rfl (hb hby at_161) ?_
                    refine XS.istore X9.here hx rfl (hb hby at_162) rfl (l' := #[.val (.int p1), .val (.int p2), .val (.int p3), .val (.int p4), .val (.int p5), .val (.int p6), .val (.int n), .val (.ref b1), .val (.long low), .second, .val (.long ((((ex &&& (((1 : Int64) <<< (pi &&& 0x3f).toInt64) ^^^ (-1 : Int64))) ||| bi) &&& (((1 : Int64) <<< (pj &&& 0x3f).toInt64) ^^^ (-1 : Int64))) ||| bj)), .second, .val (.int pi), .val (.int pj), .val (.long (own_show p6 (own_b0_g8 p1 p2 p3 p4 p5 p6 n low ex pi pj) n)), .second, .val (.int (1 : Int32)), .unset]) rfl ?_
                    refine XS.iload X9.here hx rfl (hb hby at_164) rfl ?_
                    show Steps p.tables e below (T9.setTop (mkF m 166 #[.val (.int p1), .val (.int p2), .val (.int p3), .val (.int p4), .val (.int p5), .val (.int p6), .val (.int n), .val (.ref b1), .val (.long low), .second, .val (.long ((((ex &&& (((1 : Int64) <<< (pi &&& 0x3f).toInt64) ^^^ (-1 : Int64))) ||| bi) &&& (((1 : Int64) <<< (pj &&& 0x3f).toInt64) ^^^ (-1 : Int64))) ||| bj)), .second, .val (.int pi), .val (.int pj), .val (.long (own_show p6 (own_b0_g8 p1 p2 p3 p4 p5 p6 n low ex pi pj) n)), .second, .val (.int (1 : Int32)), .unset] [(.int n)])) _
                    refine XS.ifNo X9.here hx rfl (hb hby at_166) rfl ((if0 _ _).trans (tlt (hc57_2 : (0 : Int32) < n)).2.2.2) ?_
                    refine XS.aload X9.here hx rfl (hb hby at_169) rfl rfl ?_
                    refine XS.iload X9.here hx rfl (hb hby at_171) rfl ?_
                    show Steps p.tables e below (T9.setTop (mkF m 173 #[.val (.int p1), .val (.int p2), .val (.int p3), .val (.int p4), .val (.int p5), .val (.int p6), .val (.int n), .val (.ref b1), .val (.long low), .second, .val (.long ((((ex &&& (((1 : Int64) <<< (pi &&& 0x3f).toInt64) ^^^ (-1 : Int64))) ||| bi) &&& (((1 : Int64) <<< (pj &&& 0x3f).toInt64) ^^^ (-1 : Int64))) ||| bj)), .second, .val (.int pi), .val (.int pj), .val (.long (own_show p6 (own_b0_g8 p1 p2 p3 p4 p5 p6 n low ex pi pj) n)), .second, .val (.int (1 : Int32)), .unset] [(.int pj), (.ref b1)])) _
                    refine X9.iaload hx (j := pj) (v := (.int ((own_b0_g8 p1 p2 p3 p4 p5 p6 n low ex pi pj) pj.toNatClampNeg))) (by rw [e9]; exact Ar10.1) (State.isArrayOf_alike hZ.alike Ar10.2.1) Ar10.2.2 hin10 hat10 (g := (mkF m 173 #[.val (.int p1), .val (.int p2), .val (.int p3), .val (.int p4), .val (.int p5), .val (.int p6), .val (.int n), .val (.ref b1), .val (.long low), .second, .val (.long ((((ex &&& (((1 : Int64) <<< (pi &&& 0x3f).toInt64) ^^^ (-1 : Int64))) ||| bi) &&& (((1 : Int64) <<< (pj &&& 0x3f).toInt64) ^^^ (-1 : Int64))) ||| bj)), .second, .val (.int pi), .val (.int pj), .val (.long (own_show p6 (own_b0_g8 p1 p2 p3 p4 p5 p6 n low ex pi pj) n)), .second, .val (.int (1 : Int32)), .unset] [(.int pj), (.ref b1)])) rfl rfl (hb hby at_173) _ ?_
                    show Steps p.tables e below (T9.setTop (mkF m 174 #[.val (.int p1), .val (.int p2), .val (.int p3), .val (.int p4), .val (.int p5), .val (.int p6), .val (.int n), .val (.ref b1), .val (.long low), .second, .val (.long ((((ex &&& (((1 : Int64) <<< (pi &&& 0x3f).toInt64) ^^^ (-1 : Int64))) ||| bi) &&& (((1 : Int64) <<< (pj &&& 0x3f).toInt64) ^^^ (-1 : Int64))) ||| bj)), .second, .val (.int pi), .val (.int pj), .val (.long (own_show p6 (own_b0_g8 p1 p2 p3 p4 p5 p6 n low ex pi pj) n)), .second, .val (.int (1 : Int32)), .unset] [(.int ((own_b0_g8 p1 p2 p3 p4 p5 p6 n low ex pi pj) pj.toNatClampNeg))])) _
                    refine XS.iload X9.here hx rfl (hb hby at_174) rfl ?_
                    exact kt
                  show own_End p e below s (T9.setTop (mkF m 176 #[.val (.int p1), .val (.int p2), .val (.int p3), .val (.int p4), .val (.int p5), .val (.int p6), .val (.int n), .val (.ref b1), .val (.long low), .second, .val (.long ((((ex &&& (((1 : Int64) <<< (pi &&& 0x3f).toInt64) ^^^ (-1 : Int64))) ||| bi) &&& (((1 : Int64) <<< (pj &&& 0x3f).toInt64) ^^^ (-1 : Int64))) ||| bj)), .second, .val (.int pi), .val (.int pj), .val (.long (own_show p6 (own_b0_g8 p1 p2 p3 p4 p5 p6 n low ex pi pj) n)), .second, .val (.int (1 : Int32)), .unset] [(.int p5), (.int ((own_b0_g8 p1 p2 p3 p4 p5 p6 n low ex pi pj) pj.toNatClampNeg))])) (Q0 Z p1 p2 p3 p4 p5 p6 h0 n0) room_1.cells room_1.slots
                  by_cases hc176_11 : ((own_b0_g8 p1 p2 p3 p4 p5 p6 n low ex pi pj) pj.toNatClampNeg) = p5
                  · obtain ⟨cl12, Ar12, S12, Nn12, G12⟩ := id V7
                    have hin12 : ¬ (pi < 0 ∨ cl12.slots.size ≤ pi.toNatClampNeg) := inb_of S12 (own_inb2 hi0 hi1 : ¬ pi < 0 ∧ pi < n)
                    have hat12 : cl12.slots[pi.toNatClampNeg]? = some (.int ((own_b0_g8 p1 p2 p3 p4 p5 p6 n low ex pi pj) pi.toNatClampNeg)) := own_at S12 G12 hin12
                    refine own_pre (A := T9.setTop (mkF m 188 #[.val (.int p1), .val (.int p2), .val (.int p3), .val (.int p4), .val (.int p5), .val (.int p6), .val (.int n), .val (.ref b1), .val (.long low), .second, .val (.long ((((ex &&& (((1 : Int64) <<< (pi &&& 0x3f).toInt64) ^^^ (-1 : Int64))) ||| bi) &&& (((1 : Int64) <<< (pj &&& 0x3f).toInt64) ^^^ (-1 : Int64))) ||| bj)), .second, .val (.int pi), .val (.int pj), .val (.long (own_show p6 (own_b0_g8 p1 p2 p3 p4 p5 p6 n low ex pi pj) n)), .second, .val (.int (1 : Int32)), .unset] [(.int pj), (.int pi), (.int ((own_b0_g8 p1 p2 p3 p4 p5 p6 n low ex pi pj) pi.toNatClampNeg))])) (fun tt kt => ?_) ?_
                    · show Steps p.tables e below (T9.setTop (mkF m 176 #[.val (.int p1), .val (.int p2), .val (.int p3), .val (.int p4), .val (.int p5), .val (.int p6), .val (.int n), .val (.ref b1), .val (.long low), .second, .val (.long ((((ex &&& (((1 : Int64) <<< (pi &&& 0x3f).toInt64) ^^^ (-1 : Int64))) ||| bi) &&& (((1 : Int64) <<< (pj &&& 0x3f).toInt64) ^^^ (-1 : Int64))) ||| bj)), .second, .val (.int pi), .val (.int pj), .val (.long (own_show p6 (own_b0_g8 p1 p2 p3 p4 p5 p6 n low ex pi pj) n)), .second, .val (.int (1 : Int32)), .unset] [(.int p5), (.int ((own_b0_g8 p1 p2 p3 p4 p5 p6 n low ex pi pj) pj.toNatClampNeg))])) _
                      refine XS.icmpNo X9.here hx rfl (hb hby at_176) rfl (teq hc176_11).2 ?_
                      refine XS.aload X9.here hx rfl (hb hby at_179) rfl rfl ?_
                      refine XS.iload X9.here hx rfl (hb hby at_181) rfl ?_
                      show Steps p.tables e below (T9.setTop (mkF m 183 #[.val (.int p1), .val (.int p2), .val (.int p3), .val (.int p4), .val (.int p5), .val (.int p6), .val (.int n), .val (.ref b1), .val (.long low), .second, .val (.long ((((ex &&& (((1 : Int64) <<< (pi &&& 0x3f).toInt64) ^^^ (-1 : Int64))) ||| bi) &&& (((1 : Int64) <<< (pj &&& 0x3f).toInt64) ^^^ (-1 : Int64))) ||| bj)), .second, .val (.int pi), .val (.int pj), .val (.long (own_show p6 (own_b0_g8 p1 p2 p3 p4 p5 p6 n low ex pi pj) n)), .second, .val (.int (1 : Int32)), .unset] [(.int pi), (.ref b1)])) _
                      refine X9.iaload hx (j := pi) (v := (.int ((own_b0_g8 p1 p2 p3 p4 p5 p6 n low ex pi pj) pi.toNatClampNeg))) (by rw [e9]; exact Ar12.1) (State.isArrayOf_alike hZ.alike Ar12.2.1) Ar12.2.2 hin12 hat12 (g := (mkF m 183 #[.val (.int p1), .val (.int p2), .val (.int p3), .val (.int p4), .val (.int p5), .val (.int p6), .val (.int n), .val (.ref b1), .val (.long low), .second, .val (.long ((((ex &&& (((1 : Int64) <<< (pi &&& 0x3f).toInt64) ^^^ (-1 : Int64))) ||| bi) &&& (((1 : Int64) <<< (pj &&& 0x3f).toInt64) ^^^ (-1 : Int64))) ||| bj)), .second, .val (.int pi), .val (.int pj), .val (.long (own_show p6 (own_b0_g8 p1 p2 p3 p4 p5 p6 n low ex pi pj) n)), .second, .val (.int (1 : Int32)), .unset] [(.int pi), (.ref b1)])) rfl rfl (hb hby at_183) _ ?_
                      show Steps p.tables e below (T9.setTop (mkF m 184 #[.val (.int p1), .val (.int p2), .val (.int p3), .val (.int p4), .val (.int p5), .val (.int p6), .val (.int n), .val (.ref b1), .val (.long low), .second, .val (.long ((((ex &&& (((1 : Int64) <<< (pi &&& 0x3f).toInt64) ^^^ (-1 : Int64))) ||| bi) &&& (((1 : Int64) <<< (pj &&& 0x3f).toInt64) ^^^ (-1 : Int64))) ||| bj)), .second, .val (.int pi), .val (.int pj), .val (.long (own_show p6 (own_b0_g8 p1 p2 p3 p4 p5 p6 n low ex pi pj) n)), .second, .val (.int (1 : Int32)), .unset] [(.int ((own_b0_g8 p1 p2 p3 p4 p5 p6 n low ex pi pj) pi.toNatClampNeg))])) _
                      refine XS.iload X9.here hx rfl (hb hby at_184) rfl ?_
                      refine XS.iload X9.here hx rfl (hb hby at_186) rfl ?_
                      exact kt
                    show own_End p e below s (T9.setTop (mkF m 188 #[.val (.int p1), .val (.int p2), .val (.int p3), .val (.int p4), .val (.int p5), .val (.int p6), .val (.int n), .val (.ref b1), .val (.long low), .second, .val (.long ((((ex &&& (((1 : Int64) <<< (pi &&& 0x3f).toInt64) ^^^ (-1 : Int64))) ||| bi) &&& (((1 : Int64) <<< (pj &&& 0x3f).toInt64) ^^^ (-1 : Int64))) ||| bj)), .second, .val (.int pi), .val (.int pj), .val (.long (own_show p6 (own_b0_g8 p1 p2 p3 p4 p5 p6 n low ex pi pj) n)), .second, .val (.int (1 : Int32)), .unset] [(.int pj), (.int pi), (.int ((own_b0_g8 p1 p2 p3 p4 p5 p6 n low ex pi pj) pi.toNatClampNeg))])) (Q0 Z p1 p2 p3 p4 p5 p6 h0 n0) room_1.cells room_1.slots
                    have j197 : ∀ (Tj197 : State) (Lj197 : List Loc) (Xj197 : Stand p l e room_1 s m #[(.int p1), (.int p2), (.int p3), (.int p4), (.int p5), (.int p6)] below meth c Tj197 Lj197 1 64) (ej197 : Tj197.heap = h7) (Nj197 : Fr n0 Lj197) (ab : Int32) , own_law p1 p2 p3 p4 p5 p6 = own_law_197 p1 p2 p3 p4 p5 p6 n low ex pi pj bi bj ab → own_End p e below s (Tj197.setTop (mkF m 197 #[.val (.int p1), .val (.int p2), .val (.int p3), .val (.int p4), .val (.int p5), .val (.int p6), .val (.int n), .val (.ref b1), .val (.long low), .second, .val (.long ((((ex &&& (((1 : Int64) <<< (pi &&& 0x3f).toInt64) ^^^ (-1 : Int64))) ||| bi) &&& (((1 : Int64) <<< (pj &&& 0x3f).toInt64) ^^^ (-1 : Int64))) ||| bj)), .second, .val (.int pi), .val (.int pj), .val (.long (own_show p6 (own_b0_g8 p1 p2 p3 p4 p5 p6 n low ex pi pj) n)), .second, .val (.int (1 : Int32)), .unset] [(.int ab), (.int ((own_b0_g8 p1 p2 p3 p4 p5 p6 n low ex pi pj) pi.toNatClampNeg))])) (Q0 Z p1 p2 p3 p4 p5 p6 h0 n0) room_1.cells room_1.slots := by
                      intro Tj197 Lj197 Xj197 ej197 Nj197 ab  hj
                      by_cases hc197_13 : ((own_b0_g8 p1 p2 p3 p4 p5 p6 n low ex pi pj) pi.toNatClampNeg) = ab
                      · refine own_pre (A := Tj197.setTop (mkF m 212 #[.val (.int p1), .val (.int p2), .val (.int p3), .val (.int p4), .val (.int p5), .val (.int p6), .val (.int n), .val (.ref b1), .val (.long low), .second, .val (.long ((((ex &&& (((1 : Int64) <<< (pi &&& 0x3f).toInt64) ^^^ (-1 : Int64))) ||| bi) &&& (((1 : Int64) <<< (pj &&& 0x3f).toInt64) ^^^ (-1 : Int64))) ||| bj)), .second, .val (.int pi), .val (.int pj), .val (.long (own_show p6 (own_b0_g8 p1 p2 p3 p4 p5 p6 n low ex pi pj) n)), .second, .val (.int (1 : Int32)), .unset] [(.int (lcmpW (own_show p6 (own_b0_g8 p1 p2 p3 p4 p5 p6 n low ex pi pj) n) ((((ex &&& (((1 : Int64) <<< (pi &&& 0x3f).toInt64) ^^^ (-1 : Int64))) ||| bi) &&& (((1 : Int64) <<< (pj &&& 0x3f).toInt64) ^^^ (-1 : Int64))) ||| bj)))])) (fun tt kt => ?_) ?_
                        · show Steps p.tables e below (Tj197.setTop (mkF m 197 #[.val (.int p1), .val (.int p2), .val (.int p3), .val (.int p4), .val (.int p5), .val (.int p6), .val (.int n), .val (.ref b1), .val (.long low), .second, .val (.long ((((ex &&& (((1 : Int64) <<< (pi &&& 0x3f).toInt64) ^^^ (-1 : Int64))) ||| bi) &&& (((1 : Int64) <<< (pj &&& 0x3f).toInt64) ^^^ (-1 : Int64))) ||| bj)), .second, .val (.int pi), .val (.int pj), .val (.long (own_show p6 (own_b0_g8 p1 p2 p3 p4 p5 p6 n low ex pi pj) n)), .second, .val (.int (1 : Int32)), .unset] [(.int ab), (.int ((own_b0_g8 p1 p2 p3 p4 p5 p6 n low ex pi pj) pi.toNatClampNeg))])) _
                          refine XS.icmpNo Xj197.here hx rfl (hb hby at_197) rfl (teq hc197_13).2 ?_
                          refine XS.iconst Xj197.here hx rfl (hb hby at_200) ?_
                          refine XS.goto Xj197.here hx rfl (pc0 := 201) (pc' := 205) rfl (hb hby at_201) (by decide) (by decide) ?_
                          refine XS.istore Xj197.here hx rfl (hb hby at_205) rfl (l' := #[.val (.int p1), .val (.int p2), .val (.int p3), .val (.int p4), .val (.int p5), .val (.int p6), .val (.int n), .val (.ref b1), .val (.long low), .second, .val (.long ((((ex &&& (((1 : Int64) <<< (pi &&& 0x3f).toInt64) ^^^ (-1 : Int64))) ||| bi) &&& (((1 : Int64) <<< (pj &&& 0x3f).toInt64) ^^^ (-1 : Int64))) ||| bj)), .second, .val (.int pi), .val (.int pj), .val (.long (own_show p6 (own_b0_g8 p1 p2 p3 p4 p5 p6 n low ex pi pj) n)), .second, .val (.int (1 : Int32)), .unset]) rfl ?_
                          show Steps p.tables e below (Tj197.setTop (mkF m 207 #[.val (.int p1), .val (.int p2), .val (.int p3), .val (.int p4), .val (.int p5), .val (.int p6), .val (.int n), .val (.ref b1), .val (.long low), .second, .val (.long ((((ex &&& (((1 : Int64) <<< (pi &&& 0x3f).toInt64) ^^^ (-1 : Int64))) ||| bi) &&& (((1 : Int64) <<< (pj &&& 0x3f).toInt64) ^^^ (-1 : Int64))) ||| bj)), .second, .val (.int pi), .val (.int pj), .val (.long (own_show p6 (own_b0_g8 p1 p2 p3 p4 p5 p6 n low ex pi pj) n)), .second, .val (.int (1 : Int32)), .unset] [])) _
                          refine XS.lload Xj197.here hx rfl (hb hby at_207) rfl ?_
                          refine XS.lload Xj197.here hx rfl (hb hby at_209) rfl ?_
                          refine XS.lcmp Xj197.here hx rfl (hb hby at_211) rfl ?_
                          exact kt
                        show own_End p e below s (Tj197.setTop (mkF m 212 #[.val (.int p1), .val (.int p2), .val (.int p3), .val (.int p4), .val (.int p5), .val (.int p6), .val (.int n), .val (.ref b1), .val (.long low), .second, .val (.long ((((ex &&& (((1 : Int64) <<< (pi &&& 0x3f).toInt64) ^^^ (-1 : Int64))) ||| bi) &&& (((1 : Int64) <<< (pj &&& 0x3f).toInt64) ^^^ (-1 : Int64))) ||| bj)), .second, .val (.int pi), .val (.int pj), .val (.long (own_show p6 (own_b0_g8 p1 p2 p3 p4 p5 p6 n low ex pi pj) n)), .second, .val (.int (1 : Int32)), .unset] [(.int (lcmpW (own_show p6 (own_b0_g8 p1 p2 p3 p4 p5 p6 n low ex pi pj) n) ((((ex &&& (((1 : Int64) <<< (pi &&& 0x3f).toInt64) ^^^ (-1 : Int64))) ||| bi) &&& (((1 : Int64) <<< (pj &&& 0x3f).toInt64) ^^^ (-1 : Int64))) ||| bj)))])) (Q0 Z p1 p2 p3 p4 p5 p6 h0 n0) room_1.cells room_1.slots
                        by_cases hc212_14 : (own_show p6 (own_b0_g8 p1 p2 p3 p4 p5 p6 n low ex pi pj) n) = ((((ex &&& (((1 : Int64) <<< (pi &&& 0x3f).toInt64) ^^^ (-1 : Int64))) ||| bi) &&& (((1 : Int64) <<< (pj &&& 0x3f).toInt64) ^^^ (-1 : Int64))) ||| bj)
                        · refine own_pre (A := Tj197.setTop (mkF m 225 #[.val (.int p1), .val (.int p2), .val (.int p3), .val (.int p4), .val (.int p5), .val (.int p6), .val (.int n), .val (.ref b1), .val (.long low), .second, .val (.long ((((ex &&& (((1 : Int64) <<< (pi &&& 0x3f).toInt64) ^^^ (-1 : Int64))) ||| bi) &&& (((1 : Int64) <<< (pj &&& 0x3f).toInt64) ^^^ (-1 : Int64))) ||| bj)), .second, .val (.int pi), .val (.int pj), .val (.long (own_show p6 (own_b0_g8 p1 p2 p3 p4 p5 p6 n low ex pi pj) n)), .second, .val (.int (1 : Int32)), .unset] [(.int (1 : Int32))])) (fun tt kt => ?_) ?_
                          · show Steps p.tables e below (Tj197.setTop (mkF m 212 #[.val (.int p1), .val (.int p2), .val (.int p3), .val (.int p4), .val (.int p5), .val (.int p6), .val (.int n), .val (.ref b1), .val (.long low), .second, .val (.long ((((ex &&& (((1 : Int64) <<< (pi &&& 0x3f).toInt64) ^^^ (-1 : Int64))) ||| bi) &&& (((1 : Int64) <<< (pj &&& 0x3f).toInt64) ^^^ (-1 : Int64))) ||| bj)), .second, .val (.int pi), .val (.int pj), .val (.long (own_show p6 (own_b0_g8 p1 p2 p3 p4 p5 p6 n low ex pi pj) n)), .second, .val (.int (1 : Int32)), .unset] [(.int (lcmpW (own_show p6 (own_b0_g8 p1 p2 p3 p4 p5 p6 n low ex pi pj) n) ((((ex &&& (((1 : Int64) <<< (pi &&& 0x3f).toInt64) ^^^ (-1 : Int64))) ||| bi) &&& (((1 : Int64) <<< (pj &&& 0x3f).toInt64) ^^^ (-1 : Int64))) ||| bj)))])) _
                            refine XS.ifNo Xj197.here hx rfl (hb hby at_212) rfl ((if0 _ _).trans (teq ((lw_eq (own_show p6 (own_b0_g8 p1 p2 p3 p4 p5 p6 n low ex pi pj) n) ((((ex &&& (((1 : Int64) <<< (pi &&& 0x3f).toInt64) ^^^ (-1 : Int64))) ||| bi) &&& (((1 : Int64) <<< (pj &&& 0x3f).toInt64) ^^^ (-1 : Int64))) ||| bj)).mpr hc212_14)).2) ?_
                            refine XS.iload Xj197.here hx rfl (hb hby at_215) rfl ?_
                            refine XS.ifNo Xj197.here hx rfl (hb hby at_217) rfl ((if0 _ _).trans (feq ((by decide) : ¬ ((1 : Int32) = (0 : Int32)))).1) ?_
                            refine XS.iconst Xj197.here hx rfl (hb hby at_220) ?_
                            show Steps p.tables e below (Tj197.setTop (mkF m 221 #[.val (.int p1), .val (.int p2), .val (.int p3), .val (.int p4), .val (.int p5), .val (.int p6), .val (.int n), .val (.ref b1), .val (.long low), .second, .val (.long ((((ex &&& (((1 : Int64) <<< (pi &&& 0x3f).toInt64) ^^^ (-1 : Int64))) ||| bi) &&& (((1 : Int64) <<< (pj &&& 0x3f).toInt64) ^^^ (-1 : Int64))) ||| bj)), .second, .val (.int pi), .val (.int pj), .val (.long (own_show p6 (own_b0_g8 p1 p2 p3 p4 p5 p6 n low ex pi pj) n)), .second, .val (.int (1 : Int32)), .unset] [(.int (1 : Int32))])) _
                            refine XS.goto Xj197.here hx rfl (pc0 := 221) (pc' := 225) rfl (hb hby at_221) (by decide) (by decide) ?_
                            exact kt
                          show own_End p e below s (Tj197.setTop (mkF m 225 #[.val (.int p1), .val (.int p2), .val (.int p3), .val (.int p4), .val (.int p5), .val (.int p6), .val (.int n), .val (.ref b1), .val (.long low), .second, .val (.long ((((ex &&& (((1 : Int64) <<< (pi &&& 0x3f).toInt64) ^^^ (-1 : Int64))) ||| bi) &&& (((1 : Int64) <<< (pj &&& 0x3f).toInt64) ^^^ (-1 : Int64))) ||| bj)), .second, .val (.int pi), .val (.int pj), .val (.long (own_show p6 (own_b0_g8 p1 p2 p3 p4 p5 p6 n low ex pi pj) n)), .second, .val (.int (1 : Int32)), .unset] [(.int (1 : Int32))])) (Q0 Z p1 p2 p3 p4 p5 p6 h0 n0) room_1.cells room_1.slots
                          have hv : (own_law p1 p2 p3 p4 p5 p6) = (1 : Int32) := hj.trans (by simp only [own_law_197, if_pos hc197_13, if_pos hc212_14])
                          obtain ⟨fs, hr, hrun, hended, hW, hsame⟩ := Xj197.leave (v := some (.int (1 : Int32))) (fun h => by rw [Bd.returns] at h; cases h)
                          refine ⟨_, _, ?_, hrun, hended, _, _, rfl, ?_, ⟨_, rfl⟩, hW, hsame.mono (by decide) (by decide)⟩
                          · exact retN Xj197 hx (t := .boolean) Bd.returns (by simp) (hb hby at_225) hr
                          · show Q0 Z p1 p2 p3 p4 p5 p6 h0 n0 _ Tj197.heap _
                            rw [ej197]
                            exact ⟨(congrArg (fun z => some (Value.int z)) hv.symm), Nj197⟩
                        · refine own_pre (A := Tj197.setTop (mkF m 225 #[.val (.int p1), .val (.int p2), .val (.int p3), .val (.int p4), .val (.int p5), .val (.int p6), .val (.int n), .val (.ref b1), .val (.long low), .second, .val (.long ((((ex &&& (((1 : Int64) <<< (pi &&& 0x3f).toInt64) ^^^ (-1 : Int64))) ||| bi) &&& (((1 : Int64) <<< (pj &&& 0x3f).toInt64) ^^^ (-1 : Int64))) ||| bj)), .second, .val (.int pi), .val (.int pj), .val (.long (own_show p6 (own_b0_g8 p1 p2 p3 p4 p5 p6 n low ex pi pj) n)), .second, .val (.int (1 : Int32)), .unset] [(.int (0 : Int32))])) (fun tt kt => ?_) ?_
                          · show Steps p.tables e below (Tj197.setTop (mkF m 212 #[.val (.int p1), .val (.int p2), .val (.int p3), .val (.int p4), .val (.int p5), .val (.int p6), .val (.int n), .val (.ref b1), .val (.long low), .second, .val (.long ((((ex &&& (((1 : Int64) <<< (pi &&& 0x3f).toInt64) ^^^ (-1 : Int64))) ||| bi) &&& (((1 : Int64) <<< (pj &&& 0x3f).toInt64) ^^^ (-1 : Int64))) ||| bj)), .second, .val (.int pi), .val (.int pj), .val (.long (own_show p6 (own_b0_g8 p1 p2 p3 p4 p5 p6 n low ex pi pj) n)), .second, .val (.int (1 : Int32)), .unset] [(.int (lcmpW (own_show p6 (own_b0_g8 p1 p2 p3 p4 p5 p6 n low ex pi pj) n) ((((ex &&& (((1 : Int64) <<< (pi &&& 0x3f).toInt64) ^^^ (-1 : Int64))) ||| bi) &&& (((1 : Int64) <<< (pj &&& 0x3f).toInt64) ^^^ (-1 : Int64))) ||| bj)))])) _
                            refine XS.ifYes Xj197.here hx rfl (pc0 := 212) (pc' := 224) rfl (hb hby at_212) rfl ((if0 _ _).trans (feq (fun q => hc212_14 ((lw_eq (own_show p6 (own_b0_g8 p1 p2 p3 p4 p5 p6 n low ex pi pj) n) ((((ex &&& (((1 : Int64) <<< (pi &&& 0x3f).toInt64) ^^^ (-1 : Int64))) ||| bi) &&& (((1 : Int64) <<< (pj &&& 0x3f).toInt64) ^^^ (-1 : Int64))) ||| bj)).mp q))).2) (by decide) (by decide) ?_
                            refine XS.iconst Xj197.here hx rfl (hb hby at_224) ?_
                            exact kt
                          show own_End p e below s (Tj197.setTop (mkF m 225 #[.val (.int p1), .val (.int p2), .val (.int p3), .val (.int p4), .val (.int p5), .val (.int p6), .val (.int n), .val (.ref b1), .val (.long low), .second, .val (.long ((((ex &&& (((1 : Int64) <<< (pi &&& 0x3f).toInt64) ^^^ (-1 : Int64))) ||| bi) &&& (((1 : Int64) <<< (pj &&& 0x3f).toInt64) ^^^ (-1 : Int64))) ||| bj)), .second, .val (.int pi), .val (.int pj), .val (.long (own_show p6 (own_b0_g8 p1 p2 p3 p4 p5 p6 n low ex pi pj) n)), .second, .val (.int (1 : Int32)), .unset] [(.int (0 : Int32))])) (Q0 Z p1 p2 p3 p4 p5 p6 h0 n0) room_1.cells room_1.slots
                          have hv : (own_law p1 p2 p3 p4 p5 p6) = (0 : Int32) := hj.trans (by simp only [own_law_197, if_pos hc197_13, if_neg hc212_14])
                          obtain ⟨fs, hr, hrun, hended, hW, hsame⟩ := Xj197.leave (v := some (.int (0 : Int32))) (fun h => by rw [Bd.returns] at h; cases h)
                          refine ⟨_, _, ?_, hrun, hended, _, _, rfl, ?_, ⟨_, rfl⟩, hW, hsame.mono (by decide) (by decide)⟩
                          · exact retN Xj197 hx (t := .boolean) Bd.returns (by simp) (hb hby at_225) hr
                          · show Q0 Z p1 p2 p3 p4 p5 p6 h0 n0 _ Tj197.heap _
                            rw [ej197]
                            exact ⟨(congrArg (fun z => some (Value.int z)) hv.symm), Nj197⟩
                      · refine own_pre (A := Tj197.setTop (mkF m 212 #[.val (.int p1), .val (.int p2), .val (.int p3), .val (.int p4), .val (.int p5), .val (.int p6), .val (.int n), .val (.ref b1), .val (.long low), .second, .val (.long ((((ex &&& (((1 : Int64) <<< (pi &&& 0x3f).toInt64) ^^^ (-1 : Int64))) ||| bi) &&& (((1 : Int64) <<< (pj &&& 0x3f).toInt64) ^^^ (-1 : Int64))) ||| bj)), .second, .val (.int pi), .val (.int pj), .val (.long (own_show p6 (own_b0_g8 p1 p2 p3 p4 p5 p6 n low ex pi pj) n)), .second, .val (.int (0 : Int32)), .unset] [(.int (lcmpW (own_show p6 (own_b0_g8 p1 p2 p3 p4 p5 p6 n low ex pi pj) n) ((((ex &&& (((1 : Int64) <<< (pi &&& 0x3f).toInt64) ^^^ (-1 : Int64))) ||| bi) &&& (((1 : Int64) <<< (pj &&& 0x3f).toInt64) ^^^ (-1 : Int64))) ||| bj)))])) (fun tt kt => ?_) ?_
                        · show Steps p.tables e below (Tj197.setTop (mkF m 197 #[.val (.int p1), .val (.int p2), .val (.int p3), .val (.int p4), .val (.int p5), .val (.int p6), .val (.int n), .val (.ref b1), .val (.long low), .second, .val (.long ((((ex &&& (((1 : Int64) <<< (pi &&& 0x3f).toInt64) ^^^ (-1 : Int64))) ||| bi) &&& (((1 : Int64) <<< (pj &&& 0x3f).toInt64) ^^^ (-1 : Int64))) ||| bj)), .second, .val (.int pi), .val (.int pj), .val (.long (own_show p6 (own_b0_g8 p1 p2 p3 p4 p5 p6 n low ex pi pj) n)), .second, .val (.int (1 : Int32)), .unset] [(.int ab), (.int ((own_b0_g8 p1 p2 p3 p4 p5 p6 n low ex pi pj) pi.toNatClampNeg))])) _
                          refine XS.icmpYes Xj197.here hx rfl (pc0 := 197) (pc' := 204) rfl (hb hby at_197) rfl (feq hc197_13).2 (by decide) (by decide) ?_
                          refine XS.iconst Xj197.here hx rfl (hb hby at_204) ?_
                          refine XS.istore Xj197.here hx rfl (hb hby at_205) rfl (l' := #[.val (.int p1), .val (.int p2), .val (.int p3), .val (.int p4), .val (.int p5), .val (.int p6), .val (.int n), .val (.ref b1), .val (.long low), .second, .val (.long ((((ex &&& (((1 : Int64) <<< (pi &&& 0x3f).toInt64) ^^^ (-1 : Int64))) ||| bi) &&& (((1 : Int64) <<< (pj &&& 0x3f).toInt64) ^^^ (-1 : Int64))) ||| bj)), .second, .val (.int pi), .val (.int pj), .val (.long (own_show p6 (own_b0_g8 p1 p2 p3 p4 p5 p6 n low ex pi pj) n)), .second, .val (.int (0 : Int32)), .unset]) rfl ?_
                          refine XS.lload Xj197.here hx rfl (hb hby at_207) rfl ?_
                          show Steps p.tables e below (Tj197.setTop (mkF m 209 #[.val (.int p1), .val (.int p2), .val (.int p3), .val (.int p4), .val (.int p5), .val (.int p6), .val (.int n), .val (.ref b1), .val (.long low), .second, .val (.long ((((ex &&& (((1 : Int64) <<< (pi &&& 0x3f).toInt64) ^^^ (-1 : Int64))) ||| bi) &&& (((1 : Int64) <<< (pj &&& 0x3f).toInt64) ^^^ (-1 : Int64))) ||| bj)), .second, .val (.int pi), .val (.int pj), .val (.long (own_show p6 (own_b0_g8 p1 p2 p3 p4 p5 p6 n low ex pi pj) n)), .second, .val (.int (0 : Int32)), .unset] [(.long (own_show p6 (own_b0_g8 p1 p2 p3 p4 p5 p6 n low ex pi pj) n))])) _
                          refine XS.lload Xj197.here hx rfl (hb hby at_209) rfl ?_
                          refine XS.lcmp Xj197.here hx rfl (hb hby at_211) rfl ?_
                          exact kt
                        show own_End p e below s (Tj197.setTop (mkF m 212 #[.val (.int p1), .val (.int p2), .val (.int p3), .val (.int p4), .val (.int p5), .val (.int p6), .val (.int n), .val (.ref b1), .val (.long low), .second, .val (.long ((((ex &&& (((1 : Int64) <<< (pi &&& 0x3f).toInt64) ^^^ (-1 : Int64))) ||| bi) &&& (((1 : Int64) <<< (pj &&& 0x3f).toInt64) ^^^ (-1 : Int64))) ||| bj)), .second, .val (.int pi), .val (.int pj), .val (.long (own_show p6 (own_b0_g8 p1 p2 p3 p4 p5 p6 n low ex pi pj) n)), .second, .val (.int (0 : Int32)), .unset] [(.int (lcmpW (own_show p6 (own_b0_g8 p1 p2 p3 p4 p5 p6 n low ex pi pj) n) ((((ex &&& (((1 : Int64) <<< (pi &&& 0x3f).toInt64) ^^^ (-1 : Int64))) ||| bi) &&& (((1 : Int64) <<< (pj &&& 0x3f).toInt64) ^^^ (-1 : Int64))) ||| bj)))])) (Q0 Z p1 p2 p3 p4 p5 p6 h0 n0) room_1.cells room_1.slots
                        by_cases hc212_15 : (own_show p6 (own_b0_g8 p1 p2 p3 p4 p5 p6 n low ex pi pj) n) = ((((ex &&& (((1 : Int64) <<< (pi &&& 0x3f).toInt64) ^^^ (-1 : Int64))) ||| bi) &&& (((1 : Int64) <<< (pj &&& 0x3f).toInt64) ^^^ (-1 : Int64))) ||| bj)
                        · refine own_pre (A := Tj197.setTop (mkF m 225 #[.val (.int p1), .val (.int p2), .val (.int p3), .val (.int p4), .val (.int p5), .val (.int p6), .val (.int n), .val (.ref b1), .val (.long low), .second, .val (.long ((((ex &&& (((1 : Int64) <<< (pi &&& 0x3f).toInt64) ^^^ (-1 : Int64))) ||| bi) &&& (((1 : Int64) <<< (pj &&& 0x3f).toInt64) ^^^ (-1 : Int64))) ||| bj)), .second, .val (.int pi), .val (.int pj), .val (.long (own_show p6 (own_b0_g8 p1 p2 p3 p4 p5 p6 n low ex pi pj) n)), .second, .val (.int (0 : Int32)), .unset] [(.int (0 : Int32))])) (fun tt kt => ?_) ?_
                          · show Steps p.tables e below (Tj197.setTop (mkF m 212 #[.val (.int p1), .val (.int p2), .val (.int p3), .val (.int p4), .val (.int p5), .val (.int p6), .val (.int n), .val (.ref b1), .val (.long low), .second, .val (.long ((((ex &&& (((1 : Int64) <<< (pi &&& 0x3f).toInt64) ^^^ (-1 : Int64))) ||| bi) &&& (((1 : Int64) <<< (pj &&& 0x3f).toInt64) ^^^ (-1 : Int64))) ||| bj)), .second, .val (.int pi), .val (.int pj), .val (.long (own_show p6 (own_b0_g8 p1 p2 p3 p4 p5 p6 n low ex pi pj) n)), .second, .val (.int (0 : Int32)), .unset] [(.int (lcmpW (own_show p6 (own_b0_g8 p1 p2 p3 p4 p5 p6 n low ex pi pj) n) ((((ex &&& (((1 : Int64) <<< (pi &&& 0x3f).toInt64) ^^^ (-1 : Int64))) ||| bi) &&& (((1 : Int64) <<< (pj &&& 0x3f).toInt64) ^^^ (-1 : Int64))) ||| bj)))])) _
                            refine XS.ifNo Xj197.here hx rfl (hb hby at_212) rfl ((if0 _ _).trans (teq ((lw_eq (own_show p6 (own_b0_g8 p1 p2 p3 p4 p5 p6 n low ex pi pj) n) ((((ex &&& (((1 : Int64) <<< (pi &&& 0x3f).toInt64) ^^^ (-1 : Int64))) ||| bi) &&& (((1 : Int64) <<< (pj &&& 0x3f).toInt64) ^^^ (-1 : Int64))) ||| bj)).mpr hc212_15)).2) ?_
                            refine XS.iload Xj197.here hx rfl (hb hby at_215) rfl ?_
                            refine XS.ifYes Xj197.here hx rfl (pc0 := 217) (pc' := 224) rfl (hb hby at_217) rfl ((if0 _ _).trans (teq ((by decide) : (0 : Int32) = (0 : Int32))).1) (by decide) (by decide) ?_
                            refine XS.iconst Xj197.here hx rfl (hb hby at_224) ?_
                            exact kt
                          show own_End p e below s (Tj197.setTop (mkF m 225 #[.val (.int p1), .val (.int p2), .val (.int p3), .val (.int p4), .val (.int p5), .val (.int p6), .val (.int n), .val (.ref b1), .val (.long low), .second, .val (.long ((((ex &&& (((1 : Int64) <<< (pi &&& 0x3f).toInt64) ^^^ (-1 : Int64))) ||| bi) &&& (((1 : Int64) <<< (pj &&& 0x3f).toInt64) ^^^ (-1 : Int64))) ||| bj)), .second, .val (.int pi), .val (.int pj), .val (.long (own_show p6 (own_b0_g8 p1 p2 p3 p4 p5 p6 n low ex pi pj) n)), .second, .val (.int (0 : Int32)), .unset] [(.int (0 : Int32))])) (Q0 Z p1 p2 p3 p4 p5 p6 h0 n0) room_1.cells room_1.slots
                          have hv : (own_law p1 p2 p3 p4 p5 p6) = (0 : Int32) := hj.trans (by simp only [own_law_197, if_neg hc197_13, if_pos hc212_15])
                          obtain ⟨fs, hr, hrun, hended, hW, hsame⟩ := Xj197.leave (v := some (.int (0 : Int32))) (fun h => by rw [Bd.returns] at h; cases h)
                          refine ⟨_, _, ?_, hrun, hended, _, _, rfl, ?_, ⟨_, rfl⟩, hW, hsame.mono (by decide) (by decide)⟩
                          · exact retN Xj197 hx (t := .boolean) Bd.returns (by simp) (hb hby at_225) hr
                          · show Q0 Z p1 p2 p3 p4 p5 p6 h0 n0 _ Tj197.heap _
                            rw [ej197]
                            exact ⟨(congrArg (fun z => some (Value.int z)) hv.symm), Nj197⟩
                        · refine own_pre (A := Tj197.setTop (mkF m 225 #[.val (.int p1), .val (.int p2), .val (.int p3), .val (.int p4), .val (.int p5), .val (.int p6), .val (.int n), .val (.ref b1), .val (.long low), .second, .val (.long ((((ex &&& (((1 : Int64) <<< (pi &&& 0x3f).toInt64) ^^^ (-1 : Int64))) ||| bi) &&& (((1 : Int64) <<< (pj &&& 0x3f).toInt64) ^^^ (-1 : Int64))) ||| bj)), .second, .val (.int pi), .val (.int pj), .val (.long (own_show p6 (own_b0_g8 p1 p2 p3 p4 p5 p6 n low ex pi pj) n)), .second, .val (.int (0 : Int32)), .unset] [(.int (0 : Int32))])) (fun tt kt => ?_) ?_
                          · show Steps p.tables e below (Tj197.setTop (mkF m 212 #[.val (.int p1), .val (.int p2), .val (.int p3), .val (.int p4), .val (.int p5), .val (.int p6), .val (.int n), .val (.ref b1), .val (.long low), .second, .val (.long ((((ex &&& (((1 : Int64) <<< (pi &&& 0x3f).toInt64) ^^^ (-1 : Int64))) ||| bi) &&& (((1 : Int64) <<< (pj &&& 0x3f).toInt64) ^^^ (-1 : Int64))) ||| bj)), .second, .val (.int pi), .val (.int pj), .val (.long (own_show p6 (own_b0_g8 p1 p2 p3 p4 p5 p6 n low ex pi pj) n)), .second, .val (.int (0 : Int32)), .unset] [(.int (lcmpW (own_show p6 (own_b0_g8 p1 p2 p3 p4 p5 p6 n low ex pi pj) n) ((((ex &&& (((1 : Int64) <<< (pi &&& 0x3f).toInt64) ^^^ (-1 : Int64))) ||| bi) &&& (((1 : Int64) <<< (pj &&& 0x3f).toInt64) ^^^ (-1 : Int64))) ||| bj)))])) _
                            refine XS.ifYes Xj197.here hx rfl (pc0 := 212) (pc' := 224) rfl (hb hby at_212) rfl ((if0 _ _).trans (feq (fun q => hc212_15 ((lw_eq (own_show p6 (own_b0_g8 p1 p2 p3 p4 p5 p6 n low ex pi pj) n) ((((ex &&& (((1 : Int64) <<< (pi &&& 0x3f).toInt64) ^^^ (-1 : Int64))) ||| bi) &&& (((1 : Int64) <<< (pj &&& 0x3f).toInt64) ^^^ (-1 : Int64))) ||| bj)).mp q))).2) (by decide) (by decide) ?_
                            refine XS.iconst Xj197.here hx rfl (hb hby at_224) ?_
                            exact kt
                          show own_End p e below s (Tj197.setTop (mkF m 225 #[.val (.int p1), .val (.int p2), .val (.int p3), .val (.int p4), .val (.int p5), .val (.int p6), .val (.int n), .val (.ref b1), .val (.long low), .second, .val (.long ((((ex &&& (((1 : Int64) <<< (pi &&& 0x3f).toInt64) ^^^ (-1 : Int64))) ||| bi) &&& (((1 : Int64) <<< (pj &&& 0x3f).toInt64) ^^^ (-1 : Int64))) ||| bj)), .second, .val (.int pi), .val (.int pj), .val (.long (own_show p6 (own_b0_g8 p1 p2 p3 p4 p5 p6 n low ex pi pj) n)), .second, .val (.int (0 : Int32)), .unset] [(.int (0 : Int32))])) (Q0 Z p1 p2 p3 p4 p5 p6 h0 n0) room_1.cells room_1.slots
                          have hv : (own_law p1 p2 p3 p4 p5 p6) = (0 : Int32) := hj.trans (by simp only [own_law_197, if_neg hc197_13, if_neg hc212_15])
                          obtain ⟨fs, hr, hrun, hended, hW, hsame⟩ := Xj197.leave (v := some (.int (0 : Int32))) (fun h => by rw [Bd.returns] at h; cases h)
                          refine ⟨_, _, ?_, hrun, hended, _, _, rfl, ?_, ⟨_, rfl⟩, hW, hsame.mono (by decide) (by decide)⟩
                          · exact retN Xj197 hx (t := .boolean) Bd.returns (by simp) (hb hby at_225) hr
                          · show Q0 Z p1 p2 p3 p4 p5 p6 h0 n0 _ Tj197.heap _
                            rw [ej197]
                            exact ⟨(congrArg (fun z => some (Value.int z)) hv.symm), Nj197⟩
                    by_cases hc188_16 : pi = pj
                    · refine own_pre (A := T9.setTop (mkF m 197 #[.val (.int p1), .val (.int p2), .val (.int p3), .val (.int p4), .val (.int p5), .val (.int p6), .val (.int n), .val (.ref b1), .val (.long low), .second, .val (.long ((((ex &&& (((1 : Int64) <<< (pi &&& 0x3f).toInt64) ^^^ (-1 : Int64))) ||| bi) &&& (((1 : Int64) <<< (pj &&& 0x3f).toInt64) ^^^ (-1 : Int64))) ||| bj)), .second, .val (.int pi), .val (.int pj), .val (.long (own_show p6 (own_b0_g8 p1 p2 p3 p4 p5 p6 n low ex pi pj) n)), .second, .val (.int (1 : Int32)), .unset] [(.int p5), (.int ((own_b0_g8 p1 p2 p3 p4 p5 p6 n low ex pi pj) pi.toNatClampNeg))])) (fun tt kt => ?_) ?_
                      · show Steps p.tables e below (T9.setTop (mkF m 188 #[.val (.int p1), .val (.int p2), .val (.int p3), .val (.int p4), .val (.int p5), .val (.int p6), .val (.int n), .val (.ref b1), .val (.long low), .second, .val (.long ((((ex &&& (((1 : Int64) <<< (pi &&& 0x3f).toInt64) ^^^ (-1 : Int64))) ||| bi) &&& (((1 : Int64) <<< (pj &&& 0x3f).toInt64) ^^^ (-1 : Int64))) ||| bj)), .second, .val (.int pi), .val (.int pj), .val (.long (own_show p6 (own_b0_g8 p1 p2 p3 p4 p5 p6 n low ex pi pj) n)), .second, .val (.int (1 : Int32)), .unset] [(.int pj), (.int pi), (.int ((own_b0_g8 p1 p2 p3 p4 p5 p6 n low ex pi pj) pi.toNatClampNeg))])) _
                        refine XS.icmpNo X9.here hx rfl (hb hby at_188) rfl (teq hc188_16).2 ?_
                        refine XS.iload X9.here hx rfl (hb hby at_191) rfl ?_
                        refine XS.goto X9.here hx rfl (pc0 := 193) (pc' := 197) rfl (hb hby at_193) (by decide) (by decide) ?_
                        exact kt
                      show own_End p e below s (T9.setTop (mkF m 197 #[.val (.int p1), .val (.int p2), .val (.int p3), .val (.int p4), .val (.int p5), .val (.int p6), .val (.int n), .val (.ref b1), .val (.long low), .second, .val (.long ((((ex &&& (((1 : Int64) <<< (pi &&& 0x3f).toInt64) ^^^ (-1 : Int64))) ||| bi) &&& (((1 : Int64) <<< (pj &&& 0x3f).toInt64) ^^^ (-1 : Int64))) ||| bj)), .second, .val (.int pi), .val (.int pj), .val (.long (own_show p6 (own_b0_g8 p1 p2 p3 p4 p5 p6 n low ex pi pj) n)), .second, .val (.int (1 : Int32)), .unset] [(.int p5), (.int ((own_b0_g8 p1 p2 p3 p4 p5 p6 n low ex pi pj) pi.toNatClampNeg))])) (Q0 Z p1 p2 p3 p4 p5 p6 h0 n0) room_1.cells room_1.slots
                      exact j197 _ _ X9 e9 N9 p5  (hj.trans (by simp only [own_law_149, if_pos hc176_11, if_pos hc188_16]))
                    · refine own_pre (A := T9.setTop (mkF m 197 #[.val (.int p1), .val (.int p2), .val (.int p3), .val (.int p4), .val (.int p5), .val (.int p6), .val (.int n), .val (.ref b1), .val (.long low), .second, .val (.long ((((ex &&& (((1 : Int64) <<< (pi &&& 0x3f).toInt64) ^^^ (-1 : Int64))) ||| bi) &&& (((1 : Int64) <<< (pj &&& 0x3f).toInt64) ^^^ (-1 : Int64))) ||| bj)), .second, .val (.int pi), .val (.int pj), .val (.long (own_show p6 (own_b0_g8 p1 p2 p3 p4 p5 p6 n low ex pi pj) n)), .second, .val (.int (1 : Int32)), .unset] [(.int p4), (.int ((own_b0_g8 p1 p2 p3 p4 p5 p6 n low ex pi pj) pi.toNatClampNeg))])) (fun tt kt => ?_) ?_
                      · show Steps p.tables e below (T9.setTop (mkF m 188 #[.val (.int p1), .val (.int p2), .val (.int p3), .val (.int p4), .val (.int p5), .val (.int p6), .val (.int n), .val (.ref b1), .val (.long low), .second, .val (.long ((((ex &&& (((1 : Int64) <<< (pi &&& 0x3f).toInt64) ^^^ (-1 : Int64))) ||| bi) &&& (((1 : Int64) <<< (pj &&& 0x3f).toInt64) ^^^ (-1 : Int64))) ||| bj)), .second, .val (.int pi), .val (.int pj), .val (.long (own_show p6 (own_b0_g8 p1 p2 p3 p4 p5 p6 n low ex pi pj) n)), .second, .val (.int (1 : Int32)), .unset] [(.int pj), (.int pi), (.int ((own_b0_g8 p1 p2 p3 p4 p5 p6 n low ex pi pj) pi.toNatClampNeg))])) _
                        refine XS.icmpYes X9.here hx rfl (pc0 := 188) (pc' := 196) rfl (hb hby at_188) rfl (feq hc188_16).2 (by decide) (by decide) ?_
                        refine XS.iloadN X9.here hx rfl (hb hby at_196) rfl ?_
                        exact kt
                      show own_End p e below s (T9.setTop (mkF m 197 #[.val (.int p1), .val (.int p2), .val (.int p3), .val (.int p4), .val (.int p5), .val (.int p6), .val (.int n), .val (.ref b1), .val (.long low), .second, .val (.long ((((ex &&& (((1 : Int64) <<< (pi &&& 0x3f).toInt64) ^^^ (-1 : Int64))) ||| bi) &&& (((1 : Int64) <<< (pj &&& 0x3f).toInt64) ^^^ (-1 : Int64))) ||| bj)), .second, .val (.int pi), .val (.int pj), .val (.long (own_show p6 (own_b0_g8 p1 p2 p3 p4 p5 p6 n low ex pi pj) n)), .second, .val (.int (1 : Int32)), .unset] [(.int p4), (.int ((own_b0_g8 p1 p2 p3 p4 p5 p6 n low ex pi pj) pi.toNatClampNeg))])) (Q0 Z p1 p2 p3 p4 p5 p6 h0 n0) room_1.cells room_1.slots
                      exact j197 _ _ X9 e9 N9 p4  (hj.trans (by simp only [own_law_149, if_pos hc176_11, if_neg hc188_16]))
                  · refine own_pre (A := T9.setTop (mkF m 212 #[.val (.int p1), .val (.int p2), .val (.int p3), .val (.int p4), .val (.int p5), .val (.int p6), .val (.int n), .val (.ref b1), .val (.long low), .second, .val (.long ((((ex &&& (((1 : Int64) <<< (pi &&& 0x3f).toInt64) ^^^ (-1 : Int64))) ||| bi) &&& (((1 : Int64) <<< (pj &&& 0x3f).toInt64) ^^^ (-1 : Int64))) ||| bj)), .second, .val (.int pi), .val (.int pj), .val (.long (own_show p6 (own_b0_g8 p1 p2 p3 p4 p5 p6 n low ex pi pj) n)), .second, .val (.int (0 : Int32)), .unset] [(.int (lcmpW (own_show p6 (own_b0_g8 p1 p2 p3 p4 p5 p6 n low ex pi pj) n) ((((ex &&& (((1 : Int64) <<< (pi &&& 0x3f).toInt64) ^^^ (-1 : Int64))) ||| bi) &&& (((1 : Int64) <<< (pj &&& 0x3f).toInt64) ^^^ (-1 : Int64))) ||| bj)))])) (fun tt kt => ?_) ?_
                    · show Steps p.tables e below (T9.setTop (mkF m 176 #[.val (.int p1), .val (.int p2), .val (.int p3), .val (.int p4), .val (.int p5), .val (.int p6), .val (.int n), .val (.ref b1), .val (.long low), .second, .val (.long ((((ex &&& (((1 : Int64) <<< (pi &&& 0x3f).toInt64) ^^^ (-1 : Int64))) ||| bi) &&& (((1 : Int64) <<< (pj &&& 0x3f).toInt64) ^^^ (-1 : Int64))) ||| bj)), .second, .val (.int pi), .val (.int pj), .val (.long (own_show p6 (own_b0_g8 p1 p2 p3 p4 p5 p6 n low ex pi pj) n)), .second, .val (.int (1 : Int32)), .unset] [(.int p5), (.int ((own_b0_g8 p1 p2 p3 p4 p5 p6 n low ex pi pj) pj.toNatClampNeg))])) _
                      refine XS.icmpYes X9.here hx rfl (pc0 := 176) (pc' := 204) rfl (hb hby at_176) rfl (feq hc176_11).2 (by decide) (by decide) ?_
                      refine XS.iconst X9.here hx rfl (hb hby at_204) ?_
                      refine XS.istore X9.here hx rfl (hb hby at_205) rfl (l' := #[.val (.int p1), .val (.int p2), .val (.int p3), .val (.int p4), .val (.int p5), .val (.int p6), .val (.int n), .val (.ref b1), .val (.long low), .second, .val (.long ((((ex &&& (((1 : Int64) <<< (pi &&& 0x3f).toInt64) ^^^ (-1 : Int64))) ||| bi) &&& (((1 : Int64) <<< (pj &&& 0x3f).toInt64) ^^^ (-1 : Int64))) ||| bj)), .second, .val (.int pi), .val (.int pj), .val (.long (own_show p6 (own_b0_g8 p1 p2 p3 p4 p5 p6 n low ex pi pj) n)), .second, .val (.int (0 : Int32)), .unset]) rfl ?_
                      refine XS.lload X9.here hx rfl (hb hby at_207) rfl ?_
                      show Steps p.tables e below (T9.setTop (mkF m 209 #[.val (.int p1), .val (.int p2), .val (.int p3), .val (.int p4), .val (.int p5), .val (.int p6), .val (.int n), .val (.ref b1), .val (.long low), .second, .val (.long ((((ex &&& (((1 : Int64) <<< (pi &&& 0x3f).toInt64) ^^^ (-1 : Int64))) ||| bi) &&& (((1 : Int64) <<< (pj &&& 0x3f).toInt64) ^^^ (-1 : Int64))) ||| bj)), .second, .val (.int pi), .val (.int pj), .val (.long (own_show p6 (own_b0_g8 p1 p2 p3 p4 p5 p6 n low ex pi pj) n)), .second, .val (.int (0 : Int32)), .unset] [(.long (own_show p6 (own_b0_g8 p1 p2 p3 p4 p5 p6 n low ex pi pj) n))])) _
                      refine XS.lload X9.here hx rfl (hb hby at_209) rfl ?_
                      refine XS.lcmp X9.here hx rfl (hb hby at_211) rfl ?_
                      exact kt
                    show own_End p e below s (T9.setTop (mkF m 212 #[.val (.int p1), .val (.int p2), .val (.int p3), .val (.int p4), .val (.int p5), .val (.int p6), .val (.int n), .val (.ref b1), .val (.long low), .second, .val (.long ((((ex &&& (((1 : Int64) <<< (pi &&& 0x3f).toInt64) ^^^ (-1 : Int64))) ||| bi) &&& (((1 : Int64) <<< (pj &&& 0x3f).toInt64) ^^^ (-1 : Int64))) ||| bj)), .second, .val (.int pi), .val (.int pj), .val (.long (own_show p6 (own_b0_g8 p1 p2 p3 p4 p5 p6 n low ex pi pj) n)), .second, .val (.int (0 : Int32)), .unset] [(.int (lcmpW (own_show p6 (own_b0_g8 p1 p2 p3 p4 p5 p6 n low ex pi pj) n) ((((ex &&& (((1 : Int64) <<< (pi &&& 0x3f).toInt64) ^^^ (-1 : Int64))) ||| bi) &&& (((1 : Int64) <<< (pj &&& 0x3f).toInt64) ^^^ (-1 : Int64))) ||| bj)))])) (Q0 Z p1 p2 p3 p4 p5 p6 h0 n0) room_1.cells room_1.slots
                    by_cases hc212_17 : (own_show p6 (own_b0_g8 p1 p2 p3 p4 p5 p6 n low ex pi pj) n) = ((((ex &&& (((1 : Int64) <<< (pi &&& 0x3f).toInt64) ^^^ (-1 : Int64))) ||| bi) &&& (((1 : Int64) <<< (pj &&& 0x3f).toInt64) ^^^ (-1 : Int64))) ||| bj)
                    · refine own_pre (A := T9.setTop (mkF m 225 #[.val (.int p1), .val (.int p2), .val (.int p3), .val (.int p4), .val (.int p5), .val (.int p6), .val (.int n), .val (.ref b1), .val (.long low), .second, .val (.long ((((ex &&& (((1 : Int64) <<< (pi &&& 0x3f).toInt64) ^^^ (-1 : Int64))) ||| bi) &&& (((1 : Int64) <<< (pj &&& 0x3f).toInt64) ^^^ (-1 : Int64))) ||| bj)), .second, .val (.int pi), .val (.int pj), .val (.long (own_show p6 (own_b0_g8 p1 p2 p3 p4 p5 p6 n low ex pi pj) n)), .second, .val (.int (0 : Int32)), .unset] [(.int (0 : Int32))])) (fun tt kt => ?_) ?_
                      · show Steps p.tables e below (T9.setTop (mkF m 212 #[.val (.int p1), .val (.int p2), .val (.int p3), .val (.int p4), .val (.int p5), .val (.int p6), .val (.int n), .val (.ref b1), .val (.long low), .second, .val (.long ((((ex &&& (((1 : Int64) <<< (pi &&& 0x3f).toInt64) ^^^ (-1 : Int64))) ||| bi) &&& (((1 : Int64) <<< (pj &&& 0x3f).toInt64) ^^^ (-1 : Int64))) ||| bj)), .second, .val (.int pi), .val (.int pj), .val (.long (own_show p6 (own_b0_g8 p1 p2 p3 p4 p5 p6 n low ex pi pj) n)), .second, .val (.int (0 : Int32)), .unset] [(.int (lcmpW (own_show p6 (own_b0_g8 p1 p2 p3 p4 p5 p6 n low ex pi pj) n) ((((ex &&& (((1 : Int64) <<< (pi &&& 0x3f).toInt64) ^^^ (-1 : Int64))) ||| bi) &&& (((1 : Int64) <<< (pj &&& 0x3f).toInt64) ^^^ (-1 : Int64))) ||| bj)))])) _
                        refine XS.ifNo X9.here hx rfl (hb hby at_212) rfl ((if0 _ _).trans (teq ((lw_eq (own_show p6 (own_b0_g8 p1 p2 p3 p4 p5 p6 n low ex pi pj) n) ((((ex &&& (((1 : Int64) <<< (pi &&& 0x3f).toInt64) ^^^ (-1 : Int64))) ||| bi) &&& (((1 : Int64) <<< (pj &&& 0x3f).toInt64) ^^^ (-1 : Int64))) ||| bj)).mpr hc212_17)).2) ?_
                        refine XS.iload X9.here hx rfl (hb hby at_215) rfl ?_
                        refine XS.ifYes X9.here hx rfl (pc0 := 217) (pc' := 224) rfl (hb hby at_217) rfl ((if0 _ _).trans (teq ((by decide) : (0 : Int32) = (0 : Int32))).1) (by decide) (by decide) ?_
                        refine XS.iconst X9.here hx rfl (hb hby at_224) ?_
                        exact kt
                      show own_End p e below s (T9.setTop (mkF m 225 #[.val (.int p1), .val (.int p2), .val (.int p3), .val (.int p4), .val (.int p5), .val (.int p6), .val (.int n), .val (.ref b1), .val (.long low), .second, .val (.long ((((ex &&& (((1 : Int64) <<< (pi &&& 0x3f).toInt64) ^^^ (-1 : Int64))) ||| bi) &&& (((1 : Int64) <<< (pj &&& 0x3f).toInt64) ^^^ (-1 : Int64))) ||| bj)), .second, .val (.int pi), .val (.int pj), .val (.long (own_show p6 (own_b0_g8 p1 p2 p3 p4 p5 p6 n low ex pi pj) n)), .second, .val (.int (0 : Int32)), .unset] [(.int (0 : Int32))])) (Q0 Z p1 p2 p3 p4 p5 p6 h0 n0) room_1.cells room_1.slots
                      have hv : (own_law p1 p2 p3 p4 p5 p6) = (0 : Int32) := hj.trans (by simp only [own_law_149, if_neg hc176_11, if_pos hc212_17])
                      obtain ⟨fs, hr, hrun, hended, hW, hsame⟩ := X9.leave (v := some (.int (0 : Int32))) (fun h => by rw [Bd.returns] at h; cases h)
                      refine ⟨_, _, ?_, hrun, hended, _, _, rfl, ?_, ⟨_, rfl⟩, hW, hsame.mono (by decide) (by decide)⟩
                      · exact retN X9 hx (t := .boolean) Bd.returns (by simp) (hb hby at_225) hr
                      · show Q0 Z p1 p2 p3 p4 p5 p6 h0 n0 _ T9.heap _
                        rw [e9]
                        exact ⟨(congrArg (fun z => some (Value.int z)) hv.symm), N9⟩
                    · refine own_pre (A := T9.setTop (mkF m 225 #[.val (.int p1), .val (.int p2), .val (.int p3), .val (.int p4), .val (.int p5), .val (.int p6), .val (.int n), .val (.ref b1), .val (.long low), .second, .val (.long ((((ex &&& (((1 : Int64) <<< (pi &&& 0x3f).toInt64) ^^^ (-1 : Int64))) ||| bi) &&& (((1 : Int64) <<< (pj &&& 0x3f).toInt64) ^^^ (-1 : Int64))) ||| bj)), .second, .val (.int pi), .val (.int pj), .val (.long (own_show p6 (own_b0_g8 p1 p2 p3 p4 p5 p6 n low ex pi pj) n)), .second, .val (.int (0 : Int32)), .unset] [(.int (0 : Int32))])) (fun tt kt => ?_) ?_
                      · show Steps p.tables e below (T9.setTop (mkF m 212 #[.val (.int p1), .val (.int p2), .val (.int p3), .val (.int p4), .val (.int p5), .val (.int p6), .val (.int n), .val (.ref b1), .val (.long low), .second, .val (.long ((((ex &&& (((1 : Int64) <<< (pi &&& 0x3f).toInt64) ^^^ (-1 : Int64))) ||| bi) &&& (((1 : Int64) <<< (pj &&& 0x3f).toInt64) ^^^ (-1 : Int64))) ||| bj)), .second, .val (.int pi), .val (.int pj), .val (.long (own_show p6 (own_b0_g8 p1 p2 p3 p4 p5 p6 n low ex pi pj) n)), .second, .val (.int (0 : Int32)), .unset] [(.int (lcmpW (own_show p6 (own_b0_g8 p1 p2 p3 p4 p5 p6 n low ex pi pj) n) ((((ex &&& (((1 : Int64) <<< (pi &&& 0x3f).toInt64) ^^^ (-1 : Int64))) ||| bi) &&& (((1 : Int64) <<< (pj &&& 0x3f).toInt64) ^^^ (-1 : Int64))) ||| bj)))])) _
                        refine XS.ifYes X9.here hx rfl (pc0 := 212) (pc' := 224) rfl (hb hby at_212) rfl ((if0 _ _).trans (feq (fun q => hc212_17 ((lw_eq (own_show p6 (own_b0_g8 p1 p2 p3 p4 p5 p6 n low ex pi pj) n) ((((ex &&& (((1 : Int64) <<< (pi &&& 0x3f).toInt64) ^^^ (-1 : Int64))) ||| bi) &&& (((1 : Int64) <<< (pj &&& 0x3f).toInt64) ^^^ (-1 : Int64))) ||| bj)).mp q))).2) (by decide) (by decide) ?_
                        refine XS.iconst X9.here hx rfl (hb hby at_224) ?_
                        exact kt
                      show own_End p e below s (T9.setTop (mkF m 225 #[.val (.int p1), .val (.int p2), .val (.int p3), .val (.int p4), .val (.int p5), .val (.int p6), .val (.int n), .val (.ref b1), .val (.long low), .second, .val (.long ((((ex &&& (((1 : Int64) <<< (pi &&& 0x3f).toInt64) ^^^ (-1 : Int64))) ||| bi) &&& (((1 : Int64) <<< (pj &&& 0x3f).toInt64) ^^^ (-1 : Int64))) ||| bj)), .second, .val (.int pi), .val (.int pj), .val (.long (own_show p6 (own_b0_g8 p1 p2 p3 p4 p5 p6 n low ex pi pj) n)), .second, .val (.int (0 : Int32)), .unset] [(.int (0 : Int32))])) (Q0 Z p1 p2 p3 p4 p5 p6 h0 n0) room_1.cells room_1.slots
                      have hv : (own_law p1 p2 p3 p4 p5 p6) = (0 : Int32) := hj.trans (by simp only [own_law_149, if_neg hc176_11, if_neg hc212_17])
                      obtain ⟨fs, hr, hrun, hended, hW, hsame⟩ := X9.leave (v := some (.int (0 : Int32))) (fun h => by rw [Bd.returns] at h; cases h)
                      refine ⟨_, _, ?_, hrun, hended, _, _, rfl, ?_, ⟨_, rfl⟩, hW, hsame.mono (by decide) (by decide)⟩
                      · exact retN X9 hx (t := .boolean) Bd.returns (by simp) (hb hby at_225) hr
                      · show Q0 Z p1 p2 p3 p4 p5 p6 h0 n0 _ T9.heap _
                        rw [e9]
                        exact ⟨(congrArg (fun z => some (Value.int z)) hv.symm), N9⟩
                by_cases hc140_18 : p5 = p6
                · refine own_pre (A := Tj118.setTop (mkF m 149 #[.val (.int p1), .val (.int p2), .val (.int p3), .val (.int p4), .val (.int p5), .val (.int p6), .val (.int n), .val (.ref b1), .val (.long low), .second, .val (.long ((ex &&& (((1 : Int64) <<< (pi &&& 0x3f).toInt64) ^^^ (-1 : Int64))) ||| bi)), .second, .val (.int pi), .val (.int pj), .val (.long ((1 : Int64) <<< (pi &&& 0x3f).toInt64)), .second, .val (.long ((1 : Int64) <<< (pj &&& 0x3f).toInt64)), .second] [(.long ((1 : Int64) <<< (pj &&& 0x3f).toInt64)), (.long (((ex &&& (((1 : Int64) <<< (pi &&& 0x3f).toInt64) ^^^ (-1 : Int64))) ||| bi) &&& (((1 : Int64) <<< (pj &&& 0x3f).toInt64) ^^^ (-1 : Int64))))])) (fun tt kt => ?_) ?_
                  · show Steps p.tables e below (Tj118.setTop (mkF m 140 #[.val (.int p1), .val (.int p2), .val (.int p3), .val (.int p4), .val (.int p5), .val (.int p6), .val (.int n), .val (.ref b1), .val (.long low), .second, .val (.long ((ex &&& (((1 : Int64) <<< (pi &&& 0x3f).toInt64) ^^^ (-1 : Int64))) ||| bi)), .second, .val (.int pi), .val (.int pj), .val (.long ((1 : Int64) <<< (pi &&& 0x3f).toInt64)), .second, .val (.long ((1 : Int64) <<< (pj &&& 0x3f).toInt64)), .second] [(.int p6), (.int p5), (.long (((ex &&& (((1 : Int64) <<< (pi &&& 0x3f).toInt64) ^^^ (-1 : Int64))) ||| bi) &&& (((1 : Int64) <<< (pj &&& 0x3f).toInt64) ^^^ (-1 : Int64))))])) _
                    refine XS.icmpNo Xj118.here hx rfl (hb hby at_140) rfl (teq hc140_18).2 ?_
                    refine XS.lload Xj118.here hx rfl (hb hby at_143) rfl ?_
                    refine XS.goto Xj118.here hx rfl (pc0 := 145) (pc' := 149) rfl (hb hby at_145) (by decide) (by decide) ?_
                    exact kt
                  show own_End p e below s (Tj118.setTop (mkF m 149 #[.val (.int p1), .val (.int p2), .val (.int p3), .val (.int p4), .val (.int p5), .val (.int p6), .val (.int n), .val (.ref b1), .val (.long low), .second, .val (.long ((ex &&& (((1 : Int64) <<< (pi &&& 0x3f).toInt64) ^^^ (-1 : Int64))) ||| bi)), .second, .val (.int pi), .val (.int pj), .val (.long ((1 : Int64) <<< (pi &&& 0x3f).toInt64)), .second, .val (.long ((1 : Int64) <<< (pj &&& 0x3f).toInt64)), .second] [(.long ((1 : Int64) <<< (pj &&& 0x3f).toInt64)), (.long (((ex &&& (((1 : Int64) <<< (pi &&& 0x3f).toInt64) ^^^ (-1 : Int64))) ||| bi) &&& (((1 : Int64) <<< (pj &&& 0x3f).toInt64) ^^^ (-1 : Int64))))])) (Q0 Z p1 p2 p3 p4 p5 p6 h0 n0) room_1.cells room_1.slots
                  exact j149 _ _ Xj118 ej118 Nj118 ((1 : Int64) <<< (pj &&& 0x3f).toInt64)  (hj.trans (by simp only [own_law_118, if_pos hc140_18]))
                · refine own_pre (A := Tj118.setTop (mkF m 149 #[.val (.int p1), .val (.int p2), .val (.int p3), .val (.int p4), .val (.int p5), .val (.int p6), .val (.int n), .val (.ref b1), .val (.long low), .second, .val (.long ((ex &&& (((1 : Int64) <<< (pi &&& 0x3f).toInt64) ^^^ (-1 : Int64))) ||| bi)), .second, .val (.int pi), .val (.int pj), .val (.long ((1 : Int64) <<< (pi &&& 0x3f).toInt64)), .second, .val (.long ((1 : Int64) <<< (pj &&& 0x3f).toInt64)), .second] [(.long (0 : Int64)), (.long (((ex &&& (((1 : Int64) <<< (pi &&& 0x3f).toInt64) ^^^ (-1 : Int64))) ||| bi) &&& (((1 : Int64) <<< (pj &&& 0x3f).toInt64) ^^^ (-1 : Int64))))])) (fun tt kt => ?_) ?_
                  · show Steps p.tables e below (Tj118.setTop (mkF m 140 #[.val (.int p1), .val (.int p2), .val (.int p3), .val (.int p4), .val (.int p5), .val (.int p6), .val (.int n), .val (.ref b1), .val (.long low), .second, .val (.long ((ex &&& (((1 : Int64) <<< (pi &&& 0x3f).toInt64) ^^^ (-1 : Int64))) ||| bi)), .second, .val (.int pi), .val (.int pj), .val (.long ((1 : Int64) <<< (pi &&& 0x3f).toInt64)), .second, .val (.long ((1 : Int64) <<< (pj &&& 0x3f).toInt64)), .second] [(.int p6), (.int p5), (.long (((ex &&& (((1 : Int64) <<< (pi &&& 0x3f).toInt64) ^^^ (-1 : Int64))) ||| bi) &&& (((1 : Int64) <<< (pj &&& 0x3f).toInt64) ^^^ (-1 : Int64))))])) _
                    refine XS.icmpYes Xj118.here hx rfl (pc0 := 140) (pc' := 148) rfl (hb hby at_140) rfl (feq hc140_18).2 (by decide) (by decide) ?_
                    refine XS.lconst Xj118.here hx rfl (hb hby at_148) ?_
                    exact kt
                  show own_End p e below s (Tj118.setTop (mkF m 149 #[.val (.int p1), .val (.int p2), .val (.int p3), .val (.int p4), .val (.int p5), .val (.int p6), .val (.int n), .val (.ref b1), .val (.long low), .second, .val (.long ((ex &&& (((1 : Int64) <<< (pi &&& 0x3f).toInt64) ^^^ (-1 : Int64))) ||| bi)), .second, .val (.int pi), .val (.int pj), .val (.long ((1 : Int64) <<< (pi &&& 0x3f).toInt64)), .second, .val (.long ((1 : Int64) <<< (pj &&& 0x3f).toInt64)), .second] [(.long (0 : Int64)), (.long (((ex &&& (((1 : Int64) <<< (pi &&& 0x3f).toInt64) ^^^ (-1 : Int64))) ||| bi) &&& (((1 : Int64) <<< (pj &&& 0x3f).toInt64) ^^^ (-1 : Int64))))])) (Q0 Z p1 p2 p3 p4 p5 p6 h0 n0) room_1.cells room_1.slots
                  exact j149 _ _ Xj118 ej118 Nj118 (0 : Int64)  (hj.trans (by simp only [own_law_118, if_neg hc140_18]))
              by_cases hc109_19 : p4 = p6
              · refine own_pre (A := T7.setTop (mkF m 118 #[.val (.int p1), .val (.int p2), .val (.int p3), .val (.int p4), .val (.int p5), .val (.int p6), .val (.int n), .val (.ref b1), .val (.long low), .second, .val (.long ex), .second, .val (.int pi), .val (.int pj), .val (.long ((1 : Int64) <<< (pi &&& 0x3f).toInt64)), .second, .unset, .unset] [(.long ((1 : Int64) <<< (pi &&& 0x3f).toInt64)), (.long (ex &&& (((1 : Int64) <<< (pi &&& 0x3f).toInt64) ^^^ (-1 : Int64))))])) (fun tt kt => ?_) ?_
                · show Steps p.tables e below (T7.setTop (mkF m 109 #[.val (.int p1), .val (.int p2), .val (.int p3), .val (.int p4), .val (.int p5), .val (.int p6), .val (.int n), .val (.ref b1), .val (.long low), .second, .val (.long ex), .second, .val (.int pi), .val (.int pj), .val (.long ((1 : Int64) <<< (pi &&& 0x3f).toInt64)), .second, .unset, .unset] [(.int p6), (.int p4), (.long (ex &&& (((1 : Int64) <<< (pi &&& 0x3f).toInt64) ^^^ (-1 : Int64))))])) _
                  refine XS.icmpNo X7.here hx rfl (hb hby at_109) rfl (teq hc109_19).2 ?_
                  refine XS.lload X7.here hx rfl (hb hby at_112) rfl ?_
                  refine XS.goto X7.here hx rfl (pc0 := 114) (pc' := 118) rfl (hb hby at_114) (by decide) (by decide) ?_
                  exact kt
                show own_End p e below s (T7.setTop (mkF m 118 #[.val (.int p1), .val (.int p2), .val (.int p3), .val (.int p4), .val (.int p5), .val (.int p6), .val (.int n), .val (.ref b1), .val (.long low), .second, .val (.long ex), .second, .val (.int pi), .val (.int pj), .val (.long ((1 : Int64) <<< (pi &&& 0x3f).toInt64)), .second, .unset, .unset] [(.long ((1 : Int64) <<< (pi &&& 0x3f).toInt64)), (.long (ex &&& (((1 : Int64) <<< (pi &&& 0x3f).toInt64) ^^^ (-1 : Int64))))])) (Q0 Z p1 p2 p3 p4 p5 p6 h0 n0) room_1.cells room_1.slots
                exact j118 _ _ X7 e7 N7 ((1 : Int64) <<< (pi &&& 0x3f).toInt64)  (hj.trans (by simp only [own_law_78, if_pos hc109_19]))
              · refine own_pre (A := T7.setTop (mkF m 118 #[.val (.int p1), .val (.int p2), .val (.int p3), .val (.int p4), .val (.int p5), .val (.int p6), .val (.int n), .val (.ref b1), .val (.long low), .second, .val (.long ex), .second, .val (.int pi), .val (.int pj), .val (.long ((1 : Int64) <<< (pi &&& 0x3f).toInt64)), .second, .unset, .unset] [(.long (0 : Int64)), (.long (ex &&& (((1 : Int64) <<< (pi &&& 0x3f).toInt64) ^^^ (-1 : Int64))))])) (fun tt kt => ?_) ?_
                · show Steps p.tables e below (T7.setTop (mkF m 109 #[.val (.int p1), .val (.int p2), .val (.int p3), .val (.int p4), .val (.int p5), .val (.int p6), .val (.int n), .val (.ref b1), .val (.long low), .second, .val (.long ex), .second, .val (.int pi), .val (.int pj), .val (.long ((1 : Int64) <<< (pi &&& 0x3f).toInt64)), .second, .unset, .unset] [(.int p6), (.int p4), (.long (ex &&& (((1 : Int64) <<< (pi &&& 0x3f).toInt64) ^^^ (-1 : Int64))))])) _
                  refine XS.icmpYes X7.here hx rfl (pc0 := 109) (pc' := 117) rfl (hb hby at_109) rfl (feq hc109_19).2 (by decide) (by decide) ?_
                  refine XS.lconst X7.here hx rfl (hb hby at_117) ?_
                  exact kt
                show own_End p e below s (T7.setTop (mkF m 118 #[.val (.int p1), .val (.int p2), .val (.int p3), .val (.int p4), .val (.int p5), .val (.int p6), .val (.int n), .val (.ref b1), .val (.long low), .second, .val (.long ex), .second, .val (.int pi), .val (.int pj), .val (.long ((1 : Int64) <<< (pi &&& 0x3f).toInt64)), .second, .unset, .unset] [(.long (0 : Int64)), (.long (ex &&& (((1 : Int64) <<< (pi &&& 0x3f).toInt64) ^^^ (-1 : Int64))))])) (Q0 Z p1 p2 p3 p4 p5 p6 h0 n0) room_1.cells room_1.slots
                exact j118 _ _ X7 e7 N7 (0 : Int64)  (hj.trans (by simp only [own_law_78, if_neg hc109_19]))
            exact j78 _ _ Xj69 ej69 Nj69 ((p3 &&& (2147483647 : Int32)) % n) (own_i p3 n hc57_2).1 (own_i p3 n hc57_2).2 (hj.trans (by simp only [own_law_69]))
          exact j69 _ _ Xj47 ej47 Nj47 ((p2 &&& (2147483647 : Int32)) % n) (own_i p2 n hc57_2).1 (own_i p2 n hc57_2).2 (hj.trans (by simp only [own_law_47, if_pos hc57_2]))
        · obtain ⟨_, _, ⟨T20, L20, k20, n20⟩, -, X20, ⟨Lc20, hQ20, l20, y20, z20⟩, st20⟩ := Jvm.LawKit.callS Xj47 hx (y := (⟨"com/example/scratchline/scratchline/game/Cascade", "showing", "([II)J"⟩ : MethodName)) hown (mvT hZ (hw _ (List.mem_of_getElem? (i := 2) rfl))) (mvT hZ (hw _ (List.mem_of_getElem? (i := 3) rfl))) (mvT hZ (hw _ (List.mem_of_getElem? (i := 4) rfl))) (mvT hZ (hw _ (List.mem_of_getElem? (i := 5) rfl))) (by decide) (backOf (W := 0) (rm1 l Z a0 hw [] b1 p6 (fun _ => (0 : Int32)) n h1 n0 Z1 V1) hZ (hw _ (List.mem_of_getElem? (i := 5) rfl)) (hw _ (List.mem_of_getElem? (i := 4) rfl)) (by decide) (by decide)) (g := (mkF m 156 #[.val (.int p1), .val (.int p2), .val (.int p3), .val (.int p4), .val (.int p5), .val (.int p6), .val (.int n), .val (.ref b1), .val (.long low), .second, .val (.long ex), .second, .val (.int (0 : Int32)), .val (.int (0 : Int32)), .unset, .unset, .unset, .unset] [(.int p6), (.ref b1)])) rfl (by rw [hml]; rfl) (argsL := [(.ref b1), (.int p6)]) (rest := []) (lenOf pd_0_0 rfl) rfl (by show 2 * 0 + _ ≤ _; exact Nat.le_of_eq rfl) (hb hby at_156) (fun _ _ => ⟨rfl, ej47, (by decide : 1 + 0 ≤ _), (by decide : 64 + 0 ≤ _)⟩)
          dsimp only [Pt.U, Pt.locs, Pt.cells, Pt.slots] at X20 l20 y20 z20 st20 hQ20
          subst l20 y20 z20
          obtain ⟨rfl, N20q, e20⟩ := hQ20
          have N20 := Fr.app Nj47 N20q
          refine own_pre (A := T20.setTop (mkF m 212 #[.val (.int p1), .val (.int p2), .val (.int p3), .val (.int p4), .val (.int p5), .val (.int p6), .val (.int n), .val (.ref b1), .val (.long low), .second, .val (.long ex), .second, .val (.int (0 : Int32)), .val (.int (0 : Int32)), .val (.long (own_show p6 (fun _ => (0 : Int32)) n)), .second, .val (.int (1 : Int32)), .unset] [(.int (lcmpW (own_show p6 (fun _ => (0 : Int32)) n) ex))])) (fun tt kt => ?_) ?_
          · show Steps p.tables e below (Tj47.setTop (mkF m 57 #[.val (.int p1), .val (.int p2), .val (.int p3), .val (.int p4), .val (.int p5), .val (.int p6), .val (.int n), .val (.ref b1), .val (.long low), .second, .val (.long ex), .second, .val (.int (0 : Int32)), .val (.int (0 : Int32)), .unset, .unset, .unset, .unset] [(.int n)])) _
            refine XS.ifYes Xj47.here hx rfl (pc0 := 57) (pc' := 152) rfl (hb hby at_57) rfl ((if0 _ _).trans (flt hc57_2).2.2.2) (by decide) (by decide) ?_
            refine XS.aload Xj47.here hx rfl (hb hby at_152) rfl rfl ?_
            refine XS.iload Xj47.here hx rfl (hb hby at_154) rfl ?_
            show Steps p.tables e below (Tj47.setTop (mkF m 156 #[.val (.int p1), .val (.int p2), .val (.int p3), .val (.int p4), .val (.int p5), .val (.int p6), .val (.int n), .val (.ref b1), .val (.long low), .second, .val (.long ex), .second, .val (.int (0 : Int32)), .val (.int (0 : Int32)), .unset, .unset, .unset, .unset] [(.int p6), (.ref b1)])) _
            refine st20 _ ?_
            show Steps p.tables e below (T20.setTop (mkF m 159 #[.val (.int p1), .val (.int p2), .val (.int p3), .val (.int p4), .val (.int p5), .val (.int p6), .val (.int n), .val (.ref b1), .val (.long low), .second, .val (.long ex), .second, .val (.int (0 : Int32)), .val (.int (0 : Int32)), .unset, .unset, .unset, .unset] [(.long (own_show p6 (fun _ => (0 : Int32)) n))])) _
            refine XS.lstore X20.here hx rfl (hb hby at_159) rfl (l' := #[.val (.int p1), .val (.int p2), .val (.int p3), .val (.int p4), .val (.int p5), .val (.int p6), .val (.int n), .val (.ref b1), .val (.long low), .second, .val (.long ex), .second, .val (.int (0 : Int32)), .val (.int (0 : Int32)), .val (.long (own_show p6 (fun _ => (0 : Int32)) n)), .second, .unset, .unset]) rfl ?_
            refine XS.iconst X20.here hx rfl (hb hby at_161) ?_
            refine XS.istore X20.here hx rfl (hb hby at_162) rfl (l' := #[.val (.int p1), .val (.int p2), .val (.int p3), .val (.int p4), .val (.int p5), .val (.int p6), .val (.int n), .val (.ref b1), .val (.long low), .second, .val (.long ex), .second, .val (.int (0 : Int32)), .val (.int (0 : Int32)), .val (.long (own_show p6 (fun _ => (0 : Int32)) n)), .second, .val (.int (1 : Int32)), .unset]) rfl ?_
            refine XS.iload X20.here hx rfl (hb hby at_164) rfl ?_
            show Steps p.tables e below (T20.setTop (mkF m 166 #[.val (.int p1), .val (.int p2), .val (.int p3), .val (.int p4), .val (.int p5), .val (.int p6), .val (.int n), .val (.ref b1), .val (.long low), .second, .val (.long ex), .second, .val (.int (0 : Int32)), .val (.int (0 : Int32)), .val (.long (own_show p6 (fun _ => (0 : Int32)) n)), .second, .val (.int (1 : Int32)), .unset] [(.int n)])) _
            refine XS.ifYes X20.here hx rfl (pc0 := 166) (pc' := 207) rfl (hb hby at_166) rfl ((if0 _ _).trans (flt (hc57_2 : ¬ ((0 : Int32) < n))).2.2.2) (by decide) (by decide) ?_
            refine XS.lload X20.here hx rfl (hb hby at_207) rfl ?_
            refine XS.lload X20.here hx rfl (hb hby at_209) rfl ?_
            refine XS.lcmp X20.here hx rfl (hb hby at_211) rfl ?_
            exact kt
          show own_End p e below s (T20.setTop (mkF m 212 #[.val (.int p1), .val (.int p2), .val (.int p3), .val (.int p4), .val (.int p5), .val (.int p6), .val (.int n), .val (.ref b1), .val (.long low), .second, .val (.long ex), .second, .val (.int (0 : Int32)), .val (.int (0 : Int32)), .val (.long (own_show p6 (fun _ => (0 : Int32)) n)), .second, .val (.int (1 : Int32)), .unset] [(.int (lcmpW (own_show p6 (fun _ => (0 : Int32)) n) ex))])) (Q0 Z p1 p2 p3 p4 p5 p6 h0 n0) room_1.cells room_1.slots
          by_cases hc212_21 : (own_show p6 (fun _ => (0 : Int32)) n) = ex
          · refine own_pre (A := T20.setTop (mkF m 225 #[.val (.int p1), .val (.int p2), .val (.int p3), .val (.int p4), .val (.int p5), .val (.int p6), .val (.int n), .val (.ref b1), .val (.long low), .second, .val (.long ex), .second, .val (.int (0 : Int32)), .val (.int (0 : Int32)), .val (.long (own_show p6 (fun _ => (0 : Int32)) n)), .second, .val (.int (1 : Int32)), .unset] [(.int (1 : Int32))])) (fun tt kt => ?_) ?_
            · show Steps p.tables e below (T20.setTop (mkF m 212 #[.val (.int p1), .val (.int p2), .val (.int p3), .val (.int p4), .val (.int p5), .val (.int p6), .val (.int n), .val (.ref b1), .val (.long low), .second, .val (.long ex), .second, .val (.int (0 : Int32)), .val (.int (0 : Int32)), .val (.long (own_show p6 (fun _ => (0 : Int32)) n)), .second, .val (.int (1 : Int32)), .unset] [(.int (lcmpW (own_show p6 (fun _ => (0 : Int32)) n) ex))])) _
              refine XS.ifNo X20.here hx rfl (hb hby at_212) rfl ((if0 _ _).trans (teq ((lw_eq (own_show p6 (fun _ => (0 : Int32)) n) ex).mpr hc212_21)).2) ?_
              refine XS.iload X20.here hx rfl (hb hby at_215) rfl ?_
              refine XS.ifNo X20.here hx rfl (hb hby at_217) rfl ((if0 _ _).trans (feq ((by decide) : ¬ ((1 : Int32) = (0 : Int32)))).1) ?_
              refine XS.iconst X20.here hx rfl (hb hby at_220) ?_
              show Steps p.tables e below (T20.setTop (mkF m 221 #[.val (.int p1), .val (.int p2), .val (.int p3), .val (.int p4), .val (.int p5), .val (.int p6), .val (.int n), .val (.ref b1), .val (.long low), .second, .val (.long ex), .second, .val (.int (0 : Int32)), .val (.int (0 : Int32)), .val (.long (own_show p6 (fun _ => (0 : Int32)) n)), .second, .val (.int (1 : Int32)), .unset] [(.int (1 : Int32))])) _
              refine XS.goto X20.here hx rfl (pc0 := 221) (pc' := 225) rfl (hb hby at_221) (by decide) (by decide) ?_
              exact kt
            show own_End p e below s (T20.setTop (mkF m 225 #[.val (.int p1), .val (.int p2), .val (.int p3), .val (.int p4), .val (.int p5), .val (.int p6), .val (.int n), .val (.ref b1), .val (.long low), .second, .val (.long ex), .second, .val (.int (0 : Int32)), .val (.int (0 : Int32)), .val (.long (own_show p6 (fun _ => (0 : Int32)) n)), .second, .val (.int (1 : Int32)), .unset] [(.int (1 : Int32))])) (Q0 Z p1 p2 p3 p4 p5 p6 h0 n0) room_1.cells room_1.slots
            have hv : (own_law p1 p2 p3 p4 p5 p6) = (1 : Int32) := hj.trans (by simp only [own_law_47, if_neg hc57_2, if_pos hc212_21])
            obtain ⟨fs, hr, hrun, hended, hW, hsame⟩ := X20.leave (v := some (.int (1 : Int32))) (fun h => by rw [Bd.returns] at h; cases h)
            refine ⟨_, _, ?_, hrun, hended, _, _, rfl, ?_, ⟨_, rfl⟩, hW, hsame.mono (by decide) (by decide)⟩
            · exact retN X20 hx (t := .boolean) Bd.returns (by simp) (hb hby at_225) hr
            · show Q0 Z p1 p2 p3 p4 p5 p6 h0 n0 _ T20.heap _
              rw [e20]
              exact ⟨(congrArg (fun z => some (Value.int z)) hv.symm), N20⟩
          · refine own_pre (A := T20.setTop (mkF m 225 #[.val (.int p1), .val (.int p2), .val (.int p3), .val (.int p4), .val (.int p5), .val (.int p6), .val (.int n), .val (.ref b1), .val (.long low), .second, .val (.long ex), .second, .val (.int (0 : Int32)), .val (.int (0 : Int32)), .val (.long (own_show p6 (fun _ => (0 : Int32)) n)), .second, .val (.int (1 : Int32)), .unset] [(.int (0 : Int32))])) (fun tt kt => ?_) ?_
            · show Steps p.tables e below (T20.setTop (mkF m 212 #[.val (.int p1), .val (.int p2), .val (.int p3), .val (.int p4), .val (.int p5), .val (.int p6), .val (.int n), .val (.ref b1), .val (.long low), .second, .val (.long ex), .second, .val (.int (0 : Int32)), .val (.int (0 : Int32)), .val (.long (own_show p6 (fun _ => (0 : Int32)) n)), .second, .val (.int (1 : Int32)), .unset] [(.int (lcmpW (own_show p6 (fun _ => (0 : Int32)) n) ex))])) _
              refine XS.ifYes X20.here hx rfl (pc0 := 212) (pc' := 224) rfl (hb hby at_212) rfl ((if0 _ _).trans (feq (fun q => hc212_21 ((lw_eq (own_show p6 (fun _ => (0 : Int32)) n) ex).mp q))).2) (by decide) (by decide) ?_
              refine XS.iconst X20.here hx rfl (hb hby at_224) ?_
              exact kt
            show own_End p e below s (T20.setTop (mkF m 225 #[.val (.int p1), .val (.int p2), .val (.int p3), .val (.int p4), .val (.int p5), .val (.int p6), .val (.int n), .val (.ref b1), .val (.long low), .second, .val (.long ex), .second, .val (.int (0 : Int32)), .val (.int (0 : Int32)), .val (.long (own_show p6 (fun _ => (0 : Int32)) n)), .second, .val (.int (1 : Int32)), .unset] [(.int (0 : Int32))])) (Q0 Z p1 p2 p3 p4 p5 p6 h0 n0) room_1.cells room_1.slots
            have hv : (own_law p1 p2 p3 p4 p5 p6) = (0 : Int32) := hj.trans (by simp only [own_law_47, if_neg hc57_2, if_neg hc212_21])
            obtain ⟨fs, hr, hrun, hended, hW, hsame⟩ := X20.leave (v := some (.int (0 : Int32))) (fun h => by rw [Bd.returns] at h; cases h)
            refine ⟨_, _, ?_, hrun, hended, _, _, rfl, ?_, ⟨_, rfl⟩, hW, hsame.mono (by decide) (by decide)⟩
            · exact retN X20 hx (t := .boolean) Bd.returns (by simp) (hb hby at_225) hr
            · show Q0 Z p1 p2 p3 p4 p5 p6 h0 n0 _ T20.heap _
              rw [e20]
              exact ⟨(congrArg (fun z => some (Value.int z)) hv.symm), N20⟩
      by_cases hc38_22 : p6 = (0 : Int32)
      · refine own_pre (A := Tj34.setTop (mkF m 47 #[.val (.int p1), .val (.int p2), .val (.int p3), .val (.int p4), .val (.int p5), .val (.int p6), .val (.int n), .val (.ref b1), .val (.long low), .second, .unset, .unset, .unset, .unset, .unset, .unset, .unset, .unset] [(.long low)])) (fun tt kt => ?_) ?_
        · show Steps p.tables e below (Tj34.setTop (mkF m 38 #[.val (.int p1), .val (.int p2), .val (.int p3), .val (.int p4), .val (.int p5), .val (.int p6), .val (.int n), .val (.ref b1), .val (.long low), .second, .unset, .unset, .unset, .unset, .unset, .unset, .unset, .unset] [(.int p6)])) _
          refine XS.ifNo Xj34.here hx rfl (hb hby at_38) rfl ((if0 _ _).trans (teq hc38_22).2) ?_
          refine XS.lload Xj34.here hx rfl (hb hby at_41) rfl ?_
          refine XS.goto Xj34.here hx rfl (pc0 := 43) (pc' := 47) rfl (hb hby at_43) (by decide) (by decide) ?_
          exact kt
        show own_End p e below s (Tj34.setTop (mkF m 47 #[.val (.int p1), .val (.int p2), .val (.int p3), .val (.int p4), .val (.int p5), .val (.int p6), .val (.int n), .val (.ref b1), .val (.long low), .second, .unset, .unset, .unset, .unset, .unset, .unset, .unset, .unset] [(.long low)])) (Q0 Z p1 p2 p3 p4 p5 p6 h0 n0) room_1.cells room_1.slots
        exact j47 _ _ Xj34 ej34 Nj34 low  (hj.trans (by simp only [own_law_34, if_pos hc38_22]))
      · refine own_pre (A := Tj34.setTop (mkF m 47 #[.val (.int p1), .val (.int p2), .val (.int p3), .val (.int p4), .val (.int p5), .val (.int p6), .val (.int n), .val (.ref b1), .val (.long low), .second, .unset, .unset, .unset, .unset, .unset, .unset, .unset, .unset] [(.long (0 : Int64))])) (fun tt kt => ?_) ?_
        · show Steps p.tables e below (Tj34.setTop (mkF m 38 #[.val (.int p1), .val (.int p2), .val (.int p3), .val (.int p4), .val (.int p5), .val (.int p6), .val (.int n), .val (.ref b1), .val (.long low), .second, .unset, .unset, .unset, .unset, .unset, .unset, .unset, .unset] [(.int p6)])) _
          refine XS.ifYes Xj34.here hx rfl (pc0 := 38) (pc' := 46) rfl (hb hby at_38) rfl ((if0 _ _).trans (feq hc38_22).2) (by decide) (by decide) ?_
          refine XS.lconst Xj34.here hx rfl (hb hby at_46) ?_
          exact kt
        show own_End p e below s (Tj34.setTop (mkF m 47 #[.val (.int p1), .val (.int p2), .val (.int p3), .val (.int p4), .val (.int p5), .val (.int p6), .val (.int n), .val (.ref b1), .val (.long low), .second, .unset, .unset, .unset, .unset, .unset, .unset, .unset, .unset] [(.long (0 : Int64))])) (Q0 Z p1 p2 p3 p4 p5 p6 h0 n0) room_1.cells room_1.slots
        exact j47 _ _ Xj34 ej34 Nj34 (0 : Int64)  (hj.trans (by simp only [own_law_34, if_neg hc38_22]))
    by_cases hc19_23 : n = (64 : Int32)
    · refine own_pre (A := T1.setTop (mkF m 34 #[.val (.int p1), .val (.int p2), .val (.int p3), .val (.int p4), .val (.int p5), .val (.int p6), .val (.int n), .val (.ref b1), .unset, .unset, .unset, .unset, .unset, .unset, .unset, .unset, .unset, .unset] [(.long (-1 : Int64))])) (fun tt kt => ?_) ?_
      · show Steps p.tables e below (T1.setTop (mkF m 19 #[.val (.int p1), .val (.int p2), .val (.int p3), .val (.int p4), .val (.int p5), .val (.int p6), .val (.int n), .val (.ref b1), .unset, .unset, .unset, .unset, .unset, .unset, .unset, .unset, .unset, .unset] [(.int (64 : Int32)), (.int n)])) _
        refine XS.icmpNo X1.here hx rfl (hb hby at_19) rfl (teq hc19_23).2 ?_
        show Steps p.tables e below (T1.setTop (mkF m 22 #[.val (.int p1), .val (.int p2), .val (.int p3), .val (.int p4), .val (.int p5), .val (.int p6), .val (.int n), .val (.ref b1), .unset, .unset, .unset, .unset, .unset, .unset, .unset, .unset, .unset, .unset] [])) _
        refine X1.ldc2Long hx hown (mvT hZ (hw _ (List.mem_of_getElem? (i := 6) rfl))) (g := (mkF m 22 #[.val (.int p1), .val (.int p2), .val (.int p3), .val (.int p4), .val (.int p5), .val (.int p6), .val (.int n), .val (.ref b1), .unset, .unset, .unset, .unset, .unset, .unset, .unset, .unset, .unset, .unset] [])) rfl (hb hby at_22) _ ?_
        show Steps p.tables e below (T1.setTop (mkF m 25 #[.val (.int p1), .val (.int p2), .val (.int p3), .val (.int p4), .val (.int p5), .val (.int p6), .val (.int n), .val (.ref b1), .unset, .unset, .unset, .unset, .unset, .unset, .unset, .unset, .unset, .unset] [(.long (-1 : Int64))])) _
        refine XS.goto X1.here hx rfl (pc0 := 25) (pc' := 34) rfl (hb hby at_25) (by decide) (by decide) ?_
        exact kt
      show own_End p e below s (T1.setTop (mkF m 34 #[.val (.int p1), .val (.int p2), .val (.int p3), .val (.int p4), .val (.int p5), .val (.int p6), .val (.int n), .val (.ref b1), .unset, .unset, .unset, .unset, .unset, .unset, .unset, .unset, .unset, .unset] [(.long (-1 : Int64))])) (Q0 Z p1 p2 p3 p4 p5 p6 h0 n0) room_1.cells room_1.slots
      exact j34 _ _ X1 e1 Nj9 (-1 : Int64)  (hj.trans (by simp only [own_law_9, if_pos hc19_23]))
    · refine own_pre (A := T1.setTop (mkF m 34 #[.val (.int p1), .val (.int p2), .val (.int p3), .val (.int p4), .val (.int p5), .val (.int p6), .val (.int n), .val (.ref b1), .unset, .unset, .unset, .unset, .unset, .unset, .unset, .unset, .unset, .unset] [(.long (((1 : Int64) <<< (n &&& 0x3f).toInt64) - (1 : Int64)))])) (fun tt kt => ?_) ?_
      · show Steps p.tables e below (T1.setTop (mkF m 19 #[.val (.int p1), .val (.int p2), .val (.int p3), .val (.int p4), .val (.int p5), .val (.int p6), .val (.int n), .val (.ref b1), .unset, .unset, .unset, .unset, .unset, .unset, .unset, .unset, .unset, .unset] [(.int (64 : Int32)), (.int n)])) _
        refine XS.icmpYes X1.here hx rfl (pc0 := 19) (pc' := 28) rfl (hb hby at_19) rfl (feq hc19_23).2 (by decide) (by decide) ?_
        refine XS.lconst X1.here hx rfl (hb hby at_28) ?_
        refine XS.iload X1.here hx rfl (hb hby at_29) rfl ?_
        refine XS.lshl X1.here hx rfl (hb hby at_31) rfl ?_
        show Steps p.tables e below (T1.setTop (mkF m 32 #[.val (.int p1), .val (.int p2), .val (.int p3), .val (.int p4), .val (.int p5), .val (.int p6), .val (.int n), .val (.ref b1), .unset, .unset, .unset, .unset, .unset, .unset, .unset, .unset, .unset, .unset] [(.long ((1 : Int64) <<< (n &&& 0x3f).toInt64))])) _
        refine XS.lconst X1.here hx rfl (hb hby at_32) ?_
        refine XS.lsub X1.here hx rfl (hb hby at_33) rfl ?_
        exact kt
      show own_End p e below s (T1.setTop (mkF m 34 #[.val (.int p1), .val (.int p2), .val (.int p3), .val (.int p4), .val (.int p5), .val (.int p6), .val (.int n), .val (.ref b1), .unset, .unset, .unset, .unset, .unset, .unset, .unset, .unset, .unset, .unset] [(.long (((1 : Int64) <<< (n &&& 0x3f).toInt64) - (1 : Int64)))])) (Q0 Z p1 p2 p3 p4 p5 p6 h0 n0) room_1.cells room_1.slots
      exact j34 _ _ X1 e1 Nj9 (((1 : Int64) <<< (n &&& 0x3f).toInt64) - (1 : Int64))  (hj.trans (by simp only [own_law_9, if_neg hc19_23]))
  exact j9 _ _ X0 e0 N0 ((p1 &&& (2147483647 : Int32)) % (65 : Int32)) (own_n p1).1 (own_n p1).2 (hj.trans (by simp only [own_law]))
theorem own_nat {i : Int32} (h : 0 ≤ i.toInt) : (i.toNatClampNeg : Int) = i.toInt := by
  have z : (0 : Int32).toInt = 0 := by decide
  have q : ¬ i < 0 := fun u => by have := Int32.lt_iff_toInt_lt.mp u; omega
  exact (nat_of q).symm
theorem own_of {i : Int32} {k : Nat} (h : i.toInt = k) : i = Int32.ofInt (k : Int) := by rw [← h, Int32.ofInt_toInt]
def own_bit (x : Int64) (b : Nat) : Bool := x.toBitVec.getLsbD b
theorem own_bit_or (x y : Int64) (b : Nat) : own_bit (x ||| y) b = (own_bit x b || own_bit y b) := BitVec.getLsbD_or
theorem own_bit_and (x y : Int64) (b : Nat) : own_bit (x &&& y) b = (own_bit x b && own_bit y b) := BitVec.getLsbD_and
theorem own_bit_xor (x y : Int64) (b : Nat) : own_bit (x ^^^ y) b = (own_bit x b ^^ own_bit y b) := BitVec.getLsbD_xor
theorem own_bit0 (b : Nat) : own_bit 0 b = false := BitVec.getLsbD_zero
theorem own_bitm : ∀ b : Fin 64, own_bit (-1) b.1 = true := by decide +kernel
theorem own_ext {x y : Int64} (h : ∀ b, b < 64 → own_bit x b = own_bit y b) : x = y := Int64.toBitVec_inj.mp (BitVec.eq_of_getLsbD_eq fun i hi => h i hi)
theorem own_sh1 : ∀ i b : Fin 64, own_bit ((1 : Int64) <<< (Int32.ofInt (i.1 : Int) &&& 0x3f).toInt64) b.1 = decide (b.1 = i.1) := by decide +kernel
theorem own_sh {i : Int32} (h0 : 0 ≤ i.toInt) (h1 : i.toInt < 64) {b : Nat} (hb : b < 64) : own_bit ((1 : Int64) <<< (i &&& 0x3f).toInt64) b = decide ((b : Int) = i.toInt) := by
  have e := own_of (i := i) (k := i.toInt.toNat) (by omega)
  have q := own_sh1 ⟨i.toInt.toNat, by omega⟩ ⟨b, hb⟩
  simp only at q
  rw [← e] at q
  rw [q]; apply decide_eq_decide.mpr; omega
theorem own_low1 : ∀ n b : Fin 64, own_bit (((1 : Int64) <<< (Int32.ofInt (n.1 : Int) &&& 0x3f).toInt64) - 1) b.1 = decide (b.1 < n.1) := by decide +kernel
theorem own_loop (code : Int32) (g : Nat → Int32) (n : Int32) (hn : n.toInt ≤ 64) (b : Nat) (hb : b < 64) : ∀ (k : Nat) (acc : Int64) (i : Int32), 0 ≤ i.toInt → i.toInt ≤ n.toInt → n.toInt - i.toInt < k → own_bit (own_show_5 code g n acc i k) b = (own_bit acc b || decide (i.toInt ≤ b ∧ b < n.toInt ∧ g b = code)) := by
  intro k
  induction k with
  | zero => intro acc i h0 h1 h2; omega
  | succ k ih =>
    intro acc i h0 h1 h2
    unfold own_show_5
    by_cases q : i < n
    · have q' := Int32.lt_iff_toInt_lt.mp q
      have z : (1 : Int32).toInt = 1 := by decide
      have a := c_iadd i 1
      have r := rng32 (i + 1)
      have r2 := rng32 n
      have e : (i + 1).toInt = i.toInt + 1 := by omega
      have ei := own_nat h0
      rw [if_pos q]
      by_cases t : g i.toNatClampNeg = code
      · rw [if_pos t, ih _ _ (by omega) (by omega) (by omega), own_bit_or, own_sh h0 (by omega) hb, Bool.or_assoc, ← Bool.decide_or, e]
        congr 1
        apply decide_eq_decide.mpr
        constructor
        · rintro (u | u)
          · have : b = i.toNatClampNeg := by omega
            subst this; exact ⟨by omega, by omega, t⟩
          · exact ⟨by omega, u.2.1, u.2.2⟩
        · intro u
          by_cases v : (b : Int) = i.toInt
          · exact Or.inl v
          · exact Or.inr ⟨by omega, u.2.1, u.2.2⟩
      · rw [if_neg t, ih _ _ (by omega) (by omega) (by omega), own_bit_or, own_bit0, Bool.or_false, e]
        congr 1
        apply decide_eq_decide.mpr
        constructor
        · intro u; exact ⟨by omega, u.2.1, u.2.2⟩
        · intro u
          refine ⟨?_, u.2.1, u.2.2⟩
          by_cases v : (b : Int) = i.toInt
          · have : b = i.toNatClampNeg := by omega
            subst this; exact absurd u.2.2 t
          · omega
    · have q' : ¬ i.toInt < n.toInt := fun u => q (Int32.lt_iff_toInt_lt.mpr u)
      rw [if_neg q, decide_eq_false (by omega), Bool.or_false]
theorem own_show_bit (code : Int32) (g : Nat → Int32) (n : Int32) (hn0 : 0 ≤ n.toInt) (hn : n.toInt ≤ 64) (b : Nat) (hb : b < 64) : own_bit (own_show code g n) b = decide ((b : Int) < n.toInt ∧ g b = code) := by
  have z : (0 : Int32).toInt = 0 := by decide
  have e := own_nat hn0
  unfold own_show
  rw [own_loop code g n hn b hb _ _ _ (by omega) (by omega) (by omega), own_bit0, Bool.false_or]
  apply decide_eq_decide.mpr
  constructor
  · intro u; exact u.2
  · intro u; exact ⟨by omega, u⟩
theorem own_not (x : Int64) (b : Nat) (hb : b < 64) : own_bit (x ^^^ (-1)) b = !(own_bit x b) := by
  rw [own_bit_xor, own_bitm ⟨b, hb⟩]; cases own_bit x b <;> rfl
theorem own_78 (p1 p2 p3 p4 p5 p6 n : Int32) (low ex : Int64) (pi pj : Int32) (hn0 : 0 ≤ n.toInt) (hn : n.toInt ≤ 64) (hex : ∀ b, b < 64 → own_bit ex b = decide ((b : Int) < n.toInt ∧ p6 = 0)) (hi0 : 0 ≤ pi.toInt) (hi1 : pi.toInt < n.toInt) (hj0 : 0 ≤ pj.toInt) (hj1 : pj.toInt < n.toInt) : own_law_78 p1 p2 p3 p4 p5 p6 n low ex pi pj = 1 := by
  have ei := own_nat hi0
  have ej := own_nat hj0
  have main : ∀ bi bj : Int64, (∀ b, b < 64 → own_bit bi b = decide ((b : Int) = pi.toInt ∧ p4 = p6)) → (∀ b, b < 64 → own_bit bj b = decide ((b : Int) = pj.toInt ∧ p5 = p6)) → own_law_149 p1 p2 p3 p4 p5 p6 n low ex pi pj bi bj = 1 := by
    intro bi bj hbi hbj
    have key : own_show p6 (own_b0_g8 p1 p2 p3 p4 p5 p6 n low ex pi pj) n = ((((ex &&& (((1 : Int64) <<< (pi &&& 0x3f).toInt64) ^^^ (-1 : Int64))) ||| bi) &&& (((1 : Int64) <<< (pj &&& 0x3f).toInt64) ^^^ (-1 : Int64))) ||| bj) := by
      apply own_ext
      intro b hb
      rw [own_show_bit _ _ _ hn0 hn b hb, own_bit_or, own_bit_and, own_bit_or, own_bit_and, own_not _ b hb, own_not _ b hb, own_sh hi0 (by omega) hb, own_sh hj0 (by omega) hb, hex b hb, hbi b hb, hbj b hb]
      have gb : own_b0_g8 p1 p2 p3 p4 p5 p6 n low ex pi pj b = if (b : Int) = pj.toInt then p5 else if (b : Int) = pi.toInt then p4 else 0 := by
        show (if b = pj.toNatClampNeg then p5 else (if b = pi.toNatClampNeg then p4 else (0 : Int32))) = _
        by_cases u : (b : Int) = pj.toInt
        · rw [if_pos u, if_pos (by omega)]
        · rw [if_neg u, if_neg (by omega)]
          by_cases v : (b : Int) = pi.toInt
          · rw [if_pos v, if_pos (by omega)]
          · rw [if_neg v, if_neg (by omega)]
      rw [gb]
      by_cases u : (b : Int) = pj.toInt
      · have w : (b : Int) < n.toInt := by omega
        simp [u, w]
        intro _; omega
      · by_cases v : (b : Int) = pi.toInt
        · have w : (b : Int) < n.toInt := by omega
          have u2 : ¬ pi.toInt = pj.toInt := by omega
          simp [u, v, u2]
          intro _; omega
        · simp [u, v, eq_comm]
    have g1 : own_b0_g8 p1 p2 p3 p4 p5 p6 n low ex pi pj pj.toNatClampNeg = p5 := by
      show (if pj.toNatClampNeg = pj.toNatClampNeg then p5 else _) = p5
      rw [if_pos rfl]
    unfold own_law_149 own_law_197
    rw [if_pos g1, key]
    by_cases u : pi = pj
    · subst u
      rw [if_pos rfl, if_pos g1, if_pos rfl]
    · have u2 : ¬ pi.toInt = pj.toInt := fun q => u (Int32.toInt_inj.mp q)
      have g2 : own_b0_g8 p1 p2 p3 p4 p5 p6 n low ex pi pj pi.toNatClampNeg = p4 := by
        show (if pi.toNatClampNeg = pj.toNatClampNeg then p5 else (if pi.toNatClampNeg = pi.toNatClampNeg then p4 else (0 : Int32))) = p4
        rw [if_neg (by omega), if_pos rfl]
      rw [if_neg u, if_pos g2, if_pos rfl]
  unfold own_law_78 own_law_118
  have hz : ∀ (x : Int) (P : Prop) [Decidable P], ¬ P → ∀ b, b < 64 → own_bit 0 b = decide ((b : Int) = x ∧ P) := fun x P _ hP b _ => by rw [own_bit0]; exact (decide_eq_false (fun q => hP q.2)).symm
  have ho : ∀ (x : Int32) (P : Prop) [Decidable P], 0 ≤ x.toInt → x.toInt < 64 → P → ∀ b, b < 64 → own_bit ((1 : Int64) <<< (x &&& 0x3f).toInt64) b = decide ((b : Int) = x.toInt ∧ P) := fun x P _ h0 h1 hP b hb => by
    rw [own_sh h0 h1 hb]; apply decide_eq_decide.mpr; exact ⟨fun q => ⟨q, hP⟩, fun q => q.1⟩
  by_cases u : p4 = p6
  · rw [if_pos u]
    by_cases v : p5 = p6
    · rw [if_pos v]; exact main _ _ (ho pi _ hi0 (by omega) u) (ho pj _ hj0 (by omega) v)
    · rw [if_neg v]; exact main _ _ (ho pi _ hi0 (by omega) u) (hz _ _ v)
  · rw [if_neg u]
    by_cases v : p5 = p6
    · rw [if_pos v]; exact main _ _ (hz _ _ u) (ho pj _ hj0 (by omega) v)
    · rw [if_neg v]; exact main _ _ (hz _ _ u) (hz _ _ v)
theorem own_34 (p1 p2 p3 p4 p5 p6 n : Int32) (low : Int64) (hn0 : 0 ≤ n.toInt) (hn : n.toInt ≤ 64) (hlow : ∀ b, b < 64 → own_bit low b = decide ((b : Int) < n.toInt)) : own_law_34 p1 p2 p3 p4 p5 p6 n low = 1 := by
  have main : ∀ ex : Int64, (∀ b, b < 64 → own_bit ex b = decide ((b : Int) < n.toInt ∧ p6 = 0)) → own_law_47 p1 p2 p3 p4 p5 p6 n low ex = 1 := by
    intro ex hex
    unfold own_law_47
    by_cases q : (0 : Int32) < n
    · rw [if_pos q]
      unfold own_law_69
      exact own_78 _ _ _ _ _ _ _ _ _ _ _ hn0 hn hex (own_i p2 n q).1 (own_i p2 n q).2 (own_i p3 n q).1 (own_i p3 n q).2
    · rw [if_neg q]
      have key : own_show p6 (fun _ => (0 : Int32)) n = ex := by
        apply own_ext
        intro b hb
        rw [own_show_bit _ _ _ hn0 hn b hb, hex b hb]
        apply decide_eq_decide.mpr
        exact ⟨fun u => ⟨u.1, u.2.symm⟩, fun u => ⟨u.1, u.2.symm⟩⟩
      rw [if_pos key]
  unfold own_law_34
  by_cases q : p6 = 0
  · rw [if_pos q]; exact main _ fun b hb => by rw [hlow b hb]; apply decide_eq_decide.mpr; exact ⟨fun u => ⟨u, q⟩, fun u => u.1⟩
  · rw [if_neg q]; exact main _ fun b hb => by rw [own_bit0]; exact (decide_eq_false (fun u => q u.2)).symm
theorem own_true (len i j a b code : Int32) : own_law len i j a b code = 1 := by
  obtain ⟨h0, h1⟩ := own_n len
  unfold own_law
  generalize ((len &&& (2147483647 : Int32)) % (65 : Int32)) = n at *
  unfold own_law_9
  have z : (64 : Int32).toInt = 64 := by decide
  by_cases q : n = 64
  · rw [if_pos q]
    exact own_34 _ _ _ _ _ _ _ _ h0 h1 fun b hb => by rw [own_bitm ⟨b, hb⟩, q, z]; exact (decide_eq_true (by omega)).symm
  · rw [if_neg q]
    have q' : n.toInt ≠ 64 := fun u => q (Int32.toInt_inj.mp (u.trans z.symm))
    refine own_34 _ _ _ _ _ _ _ _ h0 h1 fun b hb => ?_
    have e := own_of (i := n) (k := n.toInt.toNat) (by omega)
    have r := own_low1 ⟨n.toInt.toNat, by omega⟩ ⟨b, hb⟩
    simp only at r
    rw [← e] at r
    rw [r]; apply decide_eq_decide.mpr; omega

set_option maxRecDepth 65536 in
set_option maxHeartbeats 40000000 in
theorem comes_1 {Post : Tables → Env → Array Value → State → Outcome → State → Prop} (hpost : ∀ tb e args s v u, (limb_1_1.after args s (.returned v) u = true ∧ limb_1_2.after args s (.returned v) u = true ∧ True) → FrameEnd s (.returned v) u (Jvm.fieldLocs frame_1_writes args s ++ Jvm.arrayLocs frame_1_arrays args s ++ Jvm.staticLocs frame_1_statics s) 16 192 → Post tb e args s (.returned v) u) :
    ArmFor flags0 classFile x code maxLocals ret World_1 tables_1 room_1 Calls_1 rest_1 Pre_1 Post := by
  intro l hfl _ _ p e ha hc hk s m args below hf hA hF happ hP
  obtain ⟨hcalls, hrest, hpre⟩ := hP
  obtain ⟨-, -, -, hnamed, -, -, -, hat⟩ := (Spec.applies_iff hf).mp happ
  obtain ⟨hg, hn⟩ := and_e (Cond.before_iff.mp (show (Jvm.Cond.and given_1 narrow_1).before args s = true from hpre))
  obtain ⟨g1, g2⟩ := and_e hg
  obtain ⟨g3, g4⟩ := and_e g2
  obtain ⟨g5, g6⟩ := and_e g4
  obtain ⟨g7, g8⟩ := and_e g6
  obtain ⟨g9, g10⟩ := and_e g8
  obtain ⟨g11, g12⟩ := and_e g10
  obtain ⟨w0, w1, w2, w3, w4, w5, rfl⟩ : ∃ w0 w1 w2 w3 w4 w5 : Value, args = #[w0, w1, w2, w3, w4, w5] := by
    have hs : args.size = 6 := by simpa [Cond.value, given_1] using g1
    obtain ⟨L⟩ := args
    match L, hs with
    | [w0, w1, w2, w3, w4, w5], _ => exact ⟨w0, w1, w2, w3, w4, w5, rfl⟩
  have hw := fun d (hd : d ∈ tables_1) => atoms_spec (ws := Jvm.Cond.code x code maxLocals ret :: tables_1) hat d (List.mem_cons_of_mem _ hd)
  have hfit : Fit s := fun {y c} hc i hi => by
    obtain ⟨ha, rfl⟩ := Array.getElem?_eq_some_iff.mp hc
    have q := List.all_eq_true.mp ((Array.all_eq_true_iff_forall_mem.mp hF) _ (Array.getElem_mem ha)) i (List.mem_range.mpr hi)
    simpa [Array.getElem?_eq_getElem hi] using q
  obtain ⟨i0, ei0⟩ := is_v g3
  obtain rfl : w0 = (.int i0) := Option.some.inj ei0
  obtain ⟨i1, ei1⟩ := is_v g5
  obtain rfl : w1 = (.int i1) := Option.some.inj ei1
  obtain ⟨i2, ei2⟩ := is_v g7
  obtain rfl : w2 = (.int i2) := Option.some.inj ei2
  obtain ⟨i3, ei3⟩ := is_v g9
  obtain rfl : w3 = (.int i3) := Option.some.inj ei3
  obtain ⟨i4, ei4⟩ := is_v g11
  obtain rfl : w4 = (.int i4) := Option.some.inj ei4
  obtain ⟨i5, ei5⟩ := is_v g12
  obtain rfl : w5 = (.int i5) := Option.some.inj ei5
  obtain ⟨n, o, h1, h2, h3, _, L, rfl, ⟨rfl, N⟩, hq⟩ := rm0 l s _ hw tables_1 i0 i1 i2 i3 i4 i5 s.heap s.heap.size (Nat.le_refl _)  p e ha hc hk s m _ below hf ((Spec.applies_iff_loose hf).mp happ).1 ⟨rfl, State.Warmed39.refl s, rfl⟩ trivial
  refine ⟨n, _, h1, h2, h3, hpost _ _ _ _ _ _ ⟨Cond.after_iff.mpr rfl, Cond.after_iff.mpr (eq_i res_at (Term.int_eval (1)) (congrArg Value.int (own_true i0 i1 i2 i3 i4 i5))), trivial⟩ ⟨hq.1, hq.2.1, (hq.2.2.sift fun y hy => Or.inr (N y hy)).mono (by decide) (by decide)⟩⟩
theorem main_1_1 : Claimed_1_1 := comes_1 fun _ _ _ _ _ _ h hF => ⟨h.1, hF⟩
theorem main_1_2 : Claimed_1_2 := comes_1 fun _ _ _ _ _ _ h hF => ⟨h.2.1, hF⟩
end Jvm.Pilot.@@N@@
namespace Jvm.Pilot.@@N@@
open Jvm Jvm.ClassFile Sem Op Lib Jvm.Free Jvm.Stand Jvm.Pilot.@@N@@.Jvm.D
/-! MADE BY PROGRAM (witnessworld.py) out of the Statement's table words and the real class files: 9 classes; the members and pool entries that the words name. The judged class is class 1, her method 1. -/
namespace start1
open Jvm.ClassFile
def u (s : String) : CpInfo := .utf8 (stringToUtf16 s)
/-- a pool by its gaps: so many unusable entries, then the entry; so many at the end -/
def gap : Nat → List CpInfo → List CpInfo
  | 0, r => r
  | n + 1, r => .unusable :: gap n r
def poolList (es : List (Nat × CpInfo)) (last : Nat) : List CpInfo := es.foldr (fun e r => gap e.1 (e.2 :: r)) (gap last [])
def pool (es : List (Nat × CpInfo)) (last : Nat) : Array CpInfo := ⟨poolList es last⟩
def fileOf (pool : Array CpInfo) (this : Nat) (attrs : Array Attribute := #[]) (ms : Array MethodInfo := #[]) (fl : Nat := 33) (sup : Nat := 0) (ifs : Array Nat := #[]) (fds : Array FieldInfo := #[]) : ClassFile where
  minorVersion := 0
  majorVersion := 65
  constantPool := pool
  accessFlags := fl
  thisClass := this
  superClass := sup
  interfaces := ifs
  fields := fds
  methods := ms
  attributes := attrs
def plain (name : String) (sup : Option ClassId) : Class where
  name := name
  kind := .ordinary
  loader := none
  accessFlags := 33
  super := sup
  interfaces := #[]
  cf := none
  fields := #[]
  methods := #[]
  instanceTypes := #[]
  staticTypes := #[]
  resolved := #[]
  callSites := []
  init := .initialized
  statics := none
  mirror := none

def pool0 : Array CpInfo := pool [(5, u "<init>"), (0, u "()V"), (1, .class_ 10), (1, u "java/lang/Object")] 113

def k0m0 : Method := { name := "<init>", desc := "()V", sig := { parameters := [], returnType := none }, accessFlags := 1, code := none }
/-- java/lang/Object -/
def k0 : Class := { plain "java/lang/Object" none with
  accessFlags := 33
  interfaces := #[]
  cf := some (fileOf pool0 8 #[] #[{ accessFlags := 1, nameIndex := 5, descriptorIndex := 6, attributes := #[] }] 33 0 #[] #[])
  fields := #[]
  methods := #[k0m0]
  instanceTypes := #[]
  staticTypes := #[]
  resolved := Array.replicate 124 none
  statics := none }

def pool1 : Array CpInfo := pool [(2, .class_ 4), (1, u "java/lang/Object"), (0, u "<init>"), (0, u "()V"), (0, .integer 2147483647), (0, .long 18446744073709551615), (1, .methodref 11 12), (0, .class_ 13), (0, .nameAndType 14 15), (0, u "com/example/scratchline/scratchline/game/Cascade"), (0, u "showing"), (0, u "([II)J"), (0, .class_ 17), (0, u "com/example/scratchline/scratchline/game/CascadeShowingPinLaw"), (2, u "law"), (0, u "(IIIIII)Z")] 5

def k1m0 : Method := { name := "<init>", desc := "()V", sig := { parameters := [], returnType := none }, accessFlags := 1, code := none }
def k1c1 : Code := { maxStack := 6, maxLocals := 18, code := code, exceptionTable := #[], attributes := #[] }
def k1m1 : Method := { name := "law", desc := "(IIIIII)Z", sig := { parameters := [.int, .int, .int, .int, .int, .int], returnType := some .boolean }, accessFlags := 9, code := some k1c1 }
/-- com/example/scratchline/scratchline/game/CascadeShowingPinLaw -/
def k1 : Class := { plain "com/example/scratchline/scratchline/game/CascadeShowingPinLaw" (some 0) with
  accessFlags := 49
  interfaces := #[]
  cf := some (fileOf pool1 16 #[] #[{ accessFlags := 1, nameIndex := 5, descriptorIndex := 6, attributes := #[] }, { accessFlags := 9, nameIndex := 20, descriptorIndex := 21, attributes := #[] }] 49 2 #[] #[])
  fields := #[]
  methods := #[k1m0, k1m1]
  instanceTypes := #[]
  staticTypes := #[]
  resolved := Array.replicate 27 none
  statics := none }

def pool2 : Array CpInfo := pool [(4, .class_ 6), (1, u "java/lang/Object"), (2, .class_ 10), (0, u "com/example/scratchline/scratchline/game/Cascade"), (37, .class_ 49), (0, u "com/example/scratchline/scratchline/game/Cascade$Symbol"), (19, u "columns"), (0, u "I"), (2, u "rows"), (6, u "symbols"), (0, u "Ljava/util/List;"), (2, u "wild"), (0, u "Lcom/example/scratchline/scratchline/game/Cascade$Symbol;"), (2, u "bubble"), (5, u "neighbours"), (0, u "[J"), (49, u "showing"), (0, u "([II)J"), (14, .class_ 162), (0, u "com/example/scratchline/scratchline/game/Cascade$Cluster"), (38, u "SMALLEST_CLUSTER"), (2, u "MOST_BUBBLES"), (0, u "MOST_CELLS"), (1, u "EMPTY")] 51

def k2c0 : Code := { maxStack := 5, maxLocals := 5, code := prog_13_method_16_code, exceptionTable := #[], attributes := #[] }
def k2m0 : Method := { name := "showing", desc := "([II)J", sig := { parameters := [(.array .int), .int], returnType := some .long }, accessFlags := 8, code := some k2c0 }
/-- com/example/scratchline/scratchline/game/Cascade -/
def k2 : Class := { plain "com/example/scratchline/scratchline/game/Cascade" (some 0) with
  accessFlags := 49
  interfaces := #[]
  cf := some (fileOf pool2 9 #[.nestMembers #[161, 48]] #[{ accessFlags := 8, nameIndex := 145, descriptorIndex := 146, attributes := #[] }] 49 4 #[] #[{ accessFlags := 25, nameIndex := 201, descriptorIndex := 70, attributes := #[] }, { accessFlags := 25, nameIndex := 204, descriptorIndex := 70, attributes := #[] }, { accessFlags := 25, nameIndex := 205, descriptorIndex := 70, attributes := #[] }, { accessFlags := 24, nameIndex := 207, descriptorIndex := 70, attributes := #[] }, { accessFlags := 18, nameIndex := 69, descriptorIndex := 70, attributes := #[] }, { accessFlags := 18, nameIndex := 73, descriptorIndex := 70, attributes := #[] }, { accessFlags := 18, nameIndex := 80, descriptorIndex := 81, attributes := #[] }, { accessFlags := 18, nameIndex := 84, descriptorIndex := 85, attributes := #[] }, { accessFlags := 18, nameIndex := 88, descriptorIndex := 85, attributes := #[] }, { accessFlags := 18, nameIndex := 94, descriptorIndex := 95, attributes := #[] }])
  fields := #[{ name := "SMALLEST_CLUSTER", type := .int, accessFlags := 25, slot := 0, constantValue := 0 }, { name := "MOST_BUBBLES", type := .int, accessFlags := 25, slot := 1, constantValue := 0 }, { name := "MOST_CELLS", type := .int, accessFlags := 25, slot := 2, constantValue := 0 }, { name := "EMPTY", type := .int, accessFlags := 24, slot := 3, constantValue := 0 }, { name := "columns", type := .int, accessFlags := 18, slot := 0, constantValue := 0 }, { name := "rows", type := .int, accessFlags := 18, slot := 1, constantValue := 0 }, { name := "symbols", type := (.object "java/util/List"), accessFlags := 18, slot := 2, constantValue := 0 }, { name := "wild", type := (.object "com/example/scratchline/scratchline/game/Cascade$Symbol"), accessFlags := 18, slot := 3, constantValue := 0 }, { name := "bubble", type := (.object "com/example/scratchline/scratchline/game/Cascade$Symbol"), accessFlags := 18, slot := 4, constantValue := 0 }, { name := "neighbours", type := (.array .long), accessFlags := 18, slot := 5, constantValue := 0 }]
  methods := #[k2m0]
  instanceTypes := #[.int, .int, (.object "java/util/List"), (.object "com/example/scratchline/scratchline/game/Cascade$Symbol"), (.object "com/example/scratchline/scratchline/game/Cascade$Symbol"), (.array .long)]
  staticTypes := #[.int, .int, .int, .int]
  resolved := Array.replicate 259 none
  statics := none }

def pool3 : Array CpInfo := pool [(1, u "java/lang/Cloneable"), (0, .class_ 1), (0, u "java/lang/Object"), (0, .class_ 3)] 3

/-- java/lang/Cloneable -/
def k3 : Class := { plain "java/lang/Cloneable" (some 0) with
  accessFlags := 1537
  interfaces := #[]
  cf := some (fileOf pool3 2 #[] #[] 1537 4 #[] #[])
  fields := #[]
  methods := #[]
  instanceTypes := #[]
  staticTypes := #[]
  resolved := Array.replicate 8 none
  statics := none }

def pool4 : Array CpInfo := pool [(1, u "java/io/Serializable"), (0, .class_ 1), (0, u "java/lang/Object"), (0, .class_ 3)] 3

/-- java/io/Serializable -/
def k4 : Class := { plain "java/io/Serializable" (some 0) with
  accessFlags := 1537
  interfaces := #[]
  cf := some (fileOf pool4 2 #[] #[] 1537 4 #[] #[])
  fields := #[]
  methods := #[]
  instanceTypes := #[]
  staticTypes := #[]
  resolved := Array.replicate 8 none
  statics := none }

/-- the primitive byte -/
def k5 : Class := { plain "byte" none with kind := .primitive 'B', accessFlags := 0x411 }
/-- [B -/
def k6 : Class := { plain "[B" (some 0) with kind := .array 5 .byte, interfaces := #[3, 4], accessFlags := 1041 }

/-- the primitive int -/
def k7 : Class := { plain "int" none with kind := .primitive 'I', accessFlags := 0x411 }
/-- [I -/
def k8 : Class := { plain "[I" (some 0) with kind := .array 7 .int, interfaces := #[3, 4], accessFlags := 1041 }

def heap : Heap := #[]
def classes : Array Class := #[k0, k1, k2, k3, k4, k5, k6, k7, k8]
def interned : List (Array UInt16 × Addr) := []
def slotsUsed : Nat := 0
def theMethod : MethodId := ⟨1, 1⟩
def args0 : Array Value := #[.int 5, .int 9, .int 3, .int 9, .int 3, .int 9]
def aboutOver (below : List Frame) : State where
  vm := { classes := classes, interned := interned.toArray }
  heap := heap
  slotsUsed := slotsUsed
  threads := #[{ frames := .invoking theMethod args0 :: below }]
def below0 : List Frame := [.native { method := ⟨0, 0⟩, args := #[] }]
def about1 : State := aboutOver below0
def p0 : Program := .bare "" "" ""
def e0 : Env := launch0.env 0 0 0
theorem w_frames : about1.frames = Frame.invoking theMethod args0 :: below0 := rfl
set_option maxRecDepth 65536 in
theorem w_args : argsFit about1.vm theMethod args0 = true := by decide +kernel
set_option maxRecDepth 65536 in
theorem w_heap : heapFits about1 = true := by decide +kernel
set_option maxRecDepth 65536 in
theorem w_runnable : about1.curStatus? = some .runnable := by decide +kernel
set_option maxRecDepth 65536 in
theorem w_alone : about1.alone = true := by decide +kernel
set_option maxRecDepth 65536 in
theorem w_named : about1.methodNamed? x = some theMethod := by decide +kernel
set_option maxRecDepth 65536 in
theorem w_hears : about1.hears theMethod below0 = true := by decide +kernel
set_option maxRecDepth 65536 in
theorem w_ripe : about1.ripe theMethod args0 below0 = true := by decide +kernel
theorem w_running : about1.status = .running := rfl
set_option maxRecDepth 65536 in
theorem w_room : about1.hasRoom e0.platform room_1 = true :=
  launch0.hasRoom_least _ room_1 (by decide +kernel) (by decide +kernel) (by decide +kernel) (by decide +kernel) (by decide +kernel) (by decide +kernel)
theorem allAtoms_all (ts : List Jvm.Cond) (a : Array Jvm.Value) (st : Jvm.State) : (allAtoms ts).before a st = ts.all (fun c => c.before a st) := by
  induction ts with
  | nil => rfl
  | cons c t ih =>
    show (Jvm.Cond.and c (allAtoms t)).before a st = _
    rw [Jvm.Cond.before_and, ih, List.all_cons]
def words1 : List Jvm.Cond := Jvm.Cond.code x code maxLocals ret :: tables_1
/-- a 'code' word, met by the world's own term for the bytes: nothing is compared byte by byte -/
theorem code_word {y : MethodName} {bytes : ByteArray} {mx : Nat} {rt : Option FieldType} {a : Array Value} {s : State} {m : MethodId} {meth : Method} {c : Code} (h1 : s.methodNamed? y = some m) (h2 : s.vm.method? m = some meth) (h3 : meth.code = some c) (h4 : c.code = bytes)
    (h5 : (c.maxLocals == mx && c.exceptionTable.isEmpty && decide (c.maxStack ≤ mostOperands) && decide (meth.sig.returnType = rt) && !meth.locks && decide (parseMethodDescriptor y.desc = some meth.sig)) = true) : (Jvm.Cond.code y bytes mx rt).before a s = true := by
  simp only [Bool.and_eq_true, beq_iff_eq, Bool.not_eq_true', decide_eq_true_eq] at h5
  obtain ⟨⟨⟨⟨⟨g1, g2⟩, g3⟩, g4⟩, g5⟩, g6⟩ := h5
  simp [Cond.before, Cond.holds, Cond.value, h1, h2, h3, h4, g1, g2, g3, g4, g5, g6]
def isCode : Jvm.Cond → Bool
  | .code _ _ _ _ => true
  | _ => false
theorem all_split {L : List Jvm.Cond} {P : Jvm.Cond → Bool} (h1 : L.all (fun c => isCode c || P c) = true) (h2 : ∀ c ∈ L.filter isCode, P c = true) : L.all P = true := by
  refine List.all_eq_true.mpr fun c hc => ?_
  have h := List.all_eq_true.mp h1 c hc
  rcases Bool.eq_false_or_eq_true (isCode c) with hi | hi
  · exact h2 c (List.mem_filter.mpr ⟨hc, hi⟩)
  · simpa [hi] using h
set_option maxRecDepth 65536 in
theorem w_c0 : (Jvm.Cond.code x code maxLocals ret).before args0 about1 = true := code_word (m := ⟨1, 1⟩) (meth := k1m1) (c := k1c1) (by decide +kernel) rfl rfl rfl (by decide +kernel)
set_option maxRecDepth 65536 in
theorem w_c1 : (Jvm.Cond.code ({ cls := "com/example/scratchline/scratchline/game/Cascade", name := "showing", desc := "([II)J" } : Jvm.MethodName) prog_13_method_16_code (5 : Nat) (Option.some Jvm.ClassFile.FieldType.long)).before args0 about1 = true := code_word (m := ⟨2, 0⟩) (meth := k2m0) (c := k2c0) (by decide +kernel) rfl rfl rfl (by decide +kernel)
def codes1 : List Jvm.Cond := [Jvm.Cond.code x code maxLocals ret, Jvm.Cond.code ({ cls := "com/example/scratchline/scratchline/game/Cascade", name := "showing", desc := "([II)J" } : Jvm.MethodName) prog_13_method_16_code (5 : Nat) (Option.some Jvm.ClassFile.FieldType.long)]
set_option maxRecDepth 65536 in
theorem codes_eq : words1.filter isCode = codes1 := rfl
theorem w_codes : ∀ c ∈ words1.filter isCode, c.before args0 about1 = true := by
  rw [codes_eq]
  intro c hc
  simp only [codes1, List.mem_cons, List.not_mem_nil, or_false] at hc
  rcases hc with rfl | rfl
  · exact w_c0
  · exact w_c1
set_option maxRecDepth 65536 in
theorem w_t1 : words1.all (fun c => isCode c || c.before args0 about1) = true := by decide +kernel
theorem w_tables : (allAtoms (Jvm.Cond.code x code maxLocals ret :: tables_1)).before args0 about1 = true := by
  rw [allAtoms_all]
  show words1.all (fun c => c.before args0 about1) = true
  refine all_split ?_ w_codes
  rw [w_t1]
set_option maxRecDepth 65536 in
theorem w_case : (Jvm.Cond.and given_1 narrow_1).before args0 about1 = true := by decide +kernel
theorem w_applies : (headSpec (Jvm.Cond.code x code maxLocals ret :: tables_1) room_1).applies x e0.platform about1 = true :=
  (Spec.applies_iff w_frames).mpr ⟨w_running, w_runnable, w_alone, w_named, w_hears, w_ripe, w_room, w_tables⟩
theorem atStart : AtStart classFile x code maxLocals ret World_1 tables_1 room_1 Calls_1 rest_1 Pre_1 launch0 p0 e0 about1 theMethod args0 below0 :=
  ⟨lists_1, trivial, launch0.admits_env _ _ _, launch0.least_env, fairChoices_fair.cas, fairChoices_fair.clock, w_frames, w_args, w_heap, w_applies, trivial, trivial, w_case⟩
end start1
theorem witness_1 : WitnessClaimed_1 := ⟨start1.p0, start1.e0, start1.about1, start1.theMethod, start1.args0, start1.below0, start1.atStart⟩
end Jvm.Pilot.@@N@@
