import JvmDerived
import JvmDerived.Pilot.@@N@@Statement
import JvmDerived.Pilot.@@N@@Code
set_option linter.unusedVariables false
set_option linter.unusedSimpArgs false
namespace Jvm.RoadKit
open Sem ClassFile Op Lib Jvm.Stand Jvm.Free Jvm.LawKit
section New
variable {p : Program} {l : Launch} {e : Env} {R : Room} {s : State} {m : MethodId} {args : Array Value} {below : List Frame} {meth : Method} {c : Code} {T : State} {locs : List Loc} {cells slots : Nat}
theorem retI (X : Stand p l e R s m args below meth c T locs cells slots) (hx : p.tables.exec = Jvm.exec) {pc : Nat} {Ls : Array Slot} {z : Int32} {rest : List Value} (hret : meth.sig.returnType = some .int) (hd : decode c.code pc = .ok (.ireturn, 1)) {fs : List Frame}
    (hl : ∀ (f : JFrame) (acts : List Action), f.method = m → f.locked = none → f.entered = [] → (doReturn e (T.setTop f) acts (some (.int z))).1 = T.setFrames fs) : Steps p.tables e below (T.setTop (mkF m pc Ls (.int z :: rest))) (T.setFrames fs) := by
  have hm' : T.vm.method? m = some meth := X.method'
  have hn : narrow .int (.int z) = .int z := rfl
  show Steps p.tables e below (T.setTop { method := m, pc := pc, locals := Ls, stack := _ :: rest, locked := none }) _
  jvm_step X.here [X.here.top, hx, hd, hm', hret, hn]
  first | (intro acts; rw [hl _ acts rfl rfl rfl]) | rw [hl _ _ rfl rfl rfl]
  exact Steps.refl _
end New
/-- the run from the state A ends as asked: what is left of the goal while one walks -/
def own_End (p : Program) (e : Env) (below : List Frame) (s A : State) (W : Option Value → Heap → List Loc → Prop) (k n : Nat) : Prop :=
  ∃ s₂ o, Steps p.tables e below A s₂ ∧ s₂.status = .running ∧ Ended s₂ below o ∧ ∃ v L, o = .returned v ∧ W v s₂.heap L ∧ FrameEnd s o s₂ L k n
theorem own_pre {p : Program} {e : Env} {below : List Frame} {s A B : State} {W : Option Value → Heap → List Loc → Prop} {k n : Nat} (f : ∀ t, Steps p.tables e below A t → Steps p.tables e below B t) (h : own_End p e below s A W k n) : own_End p e below s B W k n := by
  obtain ⟨s₂, o, h1, h2⟩ := h; exact ⟨s₂, o, f _ h1, h2⟩
end Jvm.RoadKit
namespace Jvm.RoadKit
open Sem ClassFile Op Lib Jvm.Stand Jvm.Free Jvm.LawKit
/-- an array of n places, the i-th of which holds f i -/
def own_Arr (Z : State) (h : Heap) (a : Addr) (ty : FieldType) (n : Int32) (f : Nat → Value) : Prop := ∃ c : Cell, Arr Z h a c ty ∧ c.slots.size = n.toNatClampNeg ∧ ¬ n < 0 ∧ ∀ i, i < n.toNatClampNeg → c.slots[i]? = some (f i)
section Arrays
variable {Z : State} {h h' : Heap} {a b : Addr} {ty : FieldType} {n j : Int32} {f f' : Nat → Value} {sl : Nat} {v : Value} {ws : List Addr}
theorem own_Arr.lt (F : own_Arr Z h a ty n f) : a < h.size := by obtain ⟨c, A, -⟩ := F; exact A.lt
theorem own_Arr.ext (F : own_Arr Z h a ty n f) (E : Ext h h') : own_Arr Z h' a ty n f := by obtain ⟨c, A, r⟩ := F; exact ⟨c, A.ext E, r⟩
theorem own_Arr.other (F : own_Arr Z h b ty n f) (W : Wr h h' a sl v) (q : b ≠ a) : own_Arr Z h' b ty n f := by obtain ⟨c, A, r⟩ := F; exact ⟨c, A.other W q, r⟩
theorem own_Arr.keep (F : own_Arr Z h a ty n f) (K : Keep h h' ws) (q : a ∉ ws) : own_Arr Z h' a ty n f := by obtain ⟨c, A, r⟩ := F; exact ⟨c, ⟨K.2.1 a c A.1 q, A.2⟩, r⟩
theorem own_Arr.new {k : ClassId} (A : Arr Z h a (newA k ty n) ty) (q : ¬ n < 0) (hf : ∀ i, f i = defaultValue ty) : own_Arr Z h a ty n f :=
  ⟨_, A, sz_new _ _ _, q, fun i hi => by rw [hf]; simp [newA, hi]⟩
theorem own_Arr.set {α : Type} (w : α → Value) {g g' : Nat → α} {x : α} {q : Nat} (F : own_Arr Z h a ty n (fun i => w (g i))) (W : Wr h h' a j.toNatClampNeg (w x)) (hj : j.toNatClampNeg = q) (hg : ∀ i, g' i = if i = q then x else g i) : own_Arr Z h' a ty n (fun i => w (g' i)) := by
  obtain ⟨c, A, r1, r2, r3⟩ := F
  subst hj
  refine ⟨_, A.same W, by rw [sz_set]; exact r1, r2, fun i hi => ?_⟩
  show _ = some (w (g' i))
  rw [hg]
  by_cases e : i = j.toNatClampNeg
  · subst e
    rw [if_pos rfl]; simp [Cell.setSlot, r1, hi]
  · rw [if_neg e]
    rw [← r3 i hi]; exact Array.getElem?_setIfInBounds_ne (Ne.symm e)
theorem own_Arr.congr {α : Type} (w : α → Value) {g g' : Nat → α} (F : own_Arr Z h a ty n (fun i => w (g i))) (hg : ∀ i, i < n.toNatClampNeg → g' i = g i) : own_Arr Z h a ty n (fun i => w (g' i)) := by
  obtain ⟨c, A, r1, r2, r3⟩ := F
  exact ⟨c, A, r1, r2, fun i hi => by show _ = some (w (g' i)); rw [hg i hi]; exact r3 i hi⟩
theorem own_at {c : Cell} (S : c.slots.size = n.toNatClampNeg) (G : ∀ i, i < n.toNatClampNeg → c.slots[i]? = some (f i)) (hj : ¬ (j < 0 ∨ c.slots.size ≤ j.toNatClampNeg)) : c.slots[j.toNatClampNeg]? = some (f j.toNatClampNeg) := G _ (by rw [← S]; exact Nat.lt_of_not_le fun y => hj (Or.inr y))
theorem own_nn {n : Int32} (h : ¬ n < 0) : 0 ≤ n.toInt ∧ n.toInt = n.toNatClampNeg := by
  have e := nat_of h
  exact ⟨by omega, e⟩
theorem own_Arr.nn (F : own_Arr Z h a ty n f) : 0 ≤ n.toInt ∧ n.toInt = n.toNatClampNeg := by obtain ⟨c, A, r1, r2, r3⟩ := F; exact own_nn r2
theorem own_ge0 {i : Int32} (h : 0 ≤ i.toInt) : ¬ i < 0 := fun q => by
  have := Int32.lt_iff_toInt_lt.mp q
  have z : (0 : Int32).toInt = 0 := by decide
  omega
theorem own_inb {i n : Int32} (h0 : 0 ≤ i.toInt) (h : i < n) : ¬ i < 0 ∧ i < n := ⟨own_ge0 h0, h⟩
theorem own_inb2 {i n : Int32} (h0 : 0 ≤ i.toInt) (h : i.toInt < n.toInt) : ¬ i < 0 ∧ i < n := ⟨own_ge0 h0, Int32.lt_iff_toInt_lt.mpr h⟩
theorem own_next {i n : Int32} (h0 : 0 ≤ i.toInt) (h : i < n) : (i + 1).toInt = i.toInt + 1 ∧ i.toInt < n.toInt := by
  have q := Int32.lt_iff_toInt_lt.mp h
  have a := c_iadd i 1
  have z : (1 : Int32).toInt = 1 := by decide
  have r1 := rng32 (i + 1)
  have r2 := rng32 n
  omega
end Arrays
end Jvm.RoadKit
namespace Jvm.Pilot.@@N@@
open Jvm Jvm.ClassFile Sem Op Lib Jvm.Free Jvm.Stand Jvm.LawKit Jvm.RoadKit Bundle Jvm.Pilot.@@N@@.Jvm.D
def own_Obj0 (Z : State) (h : Heap) (a : Addr) (v1 : Int32) : Prop := Exa Z h a "com/example/scratchline/scratchline/game/Face" ∧ Fld Z h a "com/example/scratchline/scratchline/game/Face" "winning" "[I" .null ∧ Fld Z h a "com/example/scratchline/scratchline/game/Face" "bonus" "I" (.int v1) ∧ Fld Z h a "com/example/scratchline/scratchline/game/Face" "spots" "[I" .null ∧ Fld Z h a "com/example/scratchline/scratchline/game/Face" "prizes" "[J" .null
def own_Obj (Z : State) (h : Heap) (a : Addr) (v0 : Addr) (v1 : Int32) (v2 : Addr) (v3 : Addr) : Prop := Exa Z h a "com/example/scratchline/scratchline/game/Face" ∧ Fld Z h a "com/example/scratchline/scratchline/game/Face" "winning" "[I" (.ref v0) ∧ Fld Z h a "com/example/scratchline/scratchline/game/Face" "bonus" "I" (.int v1) ∧ Fld Z h a "com/example/scratchline/scratchline/game/Face" "spots" "[I" (.ref v2) ∧ Fld Z h a "com/example/scratchline/scratchline/game/Face" "prizes" "[J" (.ref v3)
theorem d1_0 : decode prog_31_method_1_code 0 = .ok (.aload_n 0, 1) := by decide +kernel
theorem d1_1 : decode prog_31_method_1_code 1 = .ok (.invokespecial 3, 3) := by decide +kernel
theorem d1_4 : decode prog_31_method_1_code 4 = .ok (.aload_n 0, 1) := by decide +kernel
theorem d1_5 : decode prog_31_method_1_code 5 = .ok (.aload_n 1, 1) := by decide +kernel
theorem d1_6 : decode prog_31_method_1_code 6 = .ok (.putfield 9, 3) := by decide +kernel
theorem d1_9 : decode prog_31_method_1_code 9 = .ok (.aload_n 0, 1) := by decide +kernel
theorem d1_10 : decode prog_31_method_1_code 10 = .ok (.iload_n 2, 1) := by decide +kernel
theorem d1_11 : decode prog_31_method_1_code 11 = .ok (.putfield 15, 3) := by decide +kernel
theorem d1_14 : decode prog_31_method_1_code 14 = .ok (.aload_n 0, 1) := by decide +kernel
theorem d1_15 : decode prog_31_method_1_code 15 = .ok (.aload_n 3, 1) := by decide +kernel
theorem d1_16 : decode prog_31_method_1_code 16 = .ok (.putfield 19, 3) := by decide +kernel
theorem d1_19 : decode prog_31_method_1_code 19 = .ok (.aload_n 0, 1) := by decide +kernel
theorem d1_20 : decode prog_31_method_1_code 20 = .ok (.aload 4, 2) := by decide +kernel
theorem d1_22 : decode prog_31_method_1_code 22 = .ok (.putfield 22, 3) := by decide +kernel
theorem d1_25 : decode prog_31_method_1_code 25 = .ok (.return_, 1) := by decide +kernel
theorem pn_1 : plainName "com/example/scratchline/scratchline/game/Face" = true := by first | (simp [plainName, overriddenIn]; done) | decide +kernel
theorem ef_1 (m : MethodId) (x0 : Addr) (x1 : Addr) (x2 : Int32) (x3 : Addr) (x4 : Addr) : entryFrame m #[(.ref x0), (.ref x1), (.int x2), (.ref x3), (.ref x4)] 5 = mkF m 0 #[.val (.ref x0), .val (.ref x1), .val (.int x2), .val (.ref x3), .val (.ref x4)] [] := by first | (simp [entryFrame, mkF, argsToLocals, Value.category]; done) | rfl
def Q1 (Z : State) (a1 : Addr) (a2 : Addr) (p3 : Int32) (a4 : Addr) (a5 : Addr) (vb : Int32) (h0 : Heap) (n0 : Nat) (v : Option Value) (h : Heap) (L : List Loc) : Prop := v = none ∧ Fr n0 L ∧ Keep h0 h [a1] ∧ own_Obj Z h a1 a2 p3 a4 a5
set_option maxRecDepth 65536 in
set_option maxHeartbeats 40000000 in
theorem rm1 (l : Launch) (Z : State) (a0 : Array Value) (hw : ∀ d ∈ tables_1, d.before a0 Z = true) (ws : List Jvm.Cond) (a1 : Addr) (a2 : Addr) (p3 : Int32) (a4 : Addr) (a5 : Addr) (vb : Int32) (h0 : Heap) (n0 : Nat) (Z0 : n0 ≤ h0.size) (O_a1 : own_Obj0 Z h0 a1 vb) (g_a1 : n0 ≤ a1) :
    MetFree l (⟨"com/example/scratchline/scratchline/game/Face", "<init>", "([II[I[J)V"⟩ : MethodName) (head1 (Jvm.Cond.code (⟨"com/example/scratchline/scratchline/game/Face", "<init>", "([II[I[J)V"⟩ : MethodName) prog_31_method_1_code 5 none :: ws) ({ frames := 1, cells := 0, slots := 0, locals := 12 } : Room)) (fun a U => a = #[(.ref a1), (.ref a2), (.int p3), (.ref a4), (.ref a5)] ∧ Z.Warmed39 U.vm ∧ U.heap = h0) (fun _ _ _ _ _ => True) (fun _ U o U' => ∃ v L, o = .returned v ∧ Q1 Z a1 a2 p3 a4 a5 vb h0 n0 v U'.heap L ∧ FrameEnd U o U' L ({ frames := 1, cells := 0, slots := 0, locals := 12 } : Room).cells ({ frames := 1, cells := 0, slots := 0, locals := 12 } : Room).slots) := by
  refine MetFree.of_bodySF (plainFor_of_name pn_1) hisR ?_
  intro p e s m args below meth c s₁ Bd hml0 hP hK
  obtain ⟨rfl, hZ, hh⟩ := hP
  have hx := Bd.exec
  have hby := Bd.bytes
  have hml : c.maxLocals = 5 := hml0
  have hown : s.vm.findClass "com/example/scratchline/scratchline/game/Face" = some m.cls := findClass_of_methodNamed Bd.named
  have hnm := (name_of_methodNamed Bd.named Bd.method).1
  have X0 : Stand p l e ({ frames := 1, cells := 0, slots := 0, locals := 12 } : Room) s m #[(.ref a1), (.ref a2), (.int p3), (.ref a4), (.ref a5)] below meth c s₁ [] 0 0 := Stand.of_body Bd
  have e0 : s₁.heap = h0 := by rw [← hh, Bd.state]; rfl
  have N0 := Fr.nil n0
  show own_End p e below s (s₁.setTop (entryFrame m #[(.ref a1), (.ref a2), (.int p3), (.ref a4), (.ref a5)] 5)) (Q1 Z a1 a2 p3 a4 a5 vb h0 n0) ({ frames := 1, cells := 0, slots := 0, locals := 12 } : Room).cells ({ frames := 1, cells := 0, slots := 0, locals := 12 } : Room).slots
  obtain ⟨E_a1_1, F_winning_a1_2, F_bonus_a1_3, F_spots_a1_4, F_prizes_a1_5⟩ := O_a1
  refine own_pre (A := s₁.setTop (mkF m 0 #[.val (.ref a1), .val (.ref a2), .val (.int p3), .val (.ref a4), .val (.ref a5)] [])) (fun tt kt => castTop (ef_1 m a1 a2 p3 a4 a5) kt) ?_
  show own_End p e below s (s₁.setTop (mkF m 0 #[.val (.ref a1), .val (.ref a2), .val (.int p3), .val (.ref a4), .val (.ref a5)] [])) (Q1 Z a1 a2 p3 a4 a5 vb h0 n0) ({ frames := 1, cells := 0, slots := 0, locals := 12 } : Room).cells ({ frames := 1, cells := 0, slots := 0, locals := 12 } : Room).slots
  obtain ⟨T6, X6, e6, st6⟩ := initO X0 hx hZ hown (hw _ (List.mem_of_getElem? (i := 8) rfl)) (hw _ (List.mem_of_getElem? (i := 9) rfl)) (hw _ (List.mem_of_getElem? (i := 10) rfl)) e0 (g := (mkF m 1 #[.val (.ref a1), .val (.ref a2), .val (.int p3), .val (.ref a4), .val (.ref a5)] [(.ref a1)])) rfl (by rw [hml]; rfl) rfl (hb hby d1_1) (by decide) (W := 0) (by show 2 * 0 + _ ≤ _; exact Nat.le_of_eq rfl) (by decide)
  obtain ⟨T7, h7, X7, e7, W7, st7⟩ := putF X6 hx hZ hown (host := "") (Or.inl (hw _ (List.mem_of_getElem? (i := 11) rfl))) Via.refl e6 F_winning_a1_2 E_a1_1 (Or.inr ⟨(hw _ (List.mem_of_getElem? (i := 12) rfl)), rfl, hnm⟩) (hw _ (List.mem_of_getElem? (i := 2) rfl)) (ty := (.array .int)) (by decide) rfl rfl (g := (mkF m 6 #[.val (.ref a1), .val (.ref a2), .val (.int p3), .val (.ref a4), .val (.ref a5)] [(.ref a2), (.ref a1)])) rfl rfl (hb hby d1_6)
  have Fw7 := Fld.same W7 F_winning_a1_2
  have fE_a1_x7 := (E_a1_1.wr W7)
  have fF_a1_bonus_x7 := (Fld.other W7 F_bonus_a1_3 (Or.inr (slot_ne (Or.inr (hw _ (List.mem_of_getElem? (i := 14) rfl))) (Or.inr (hw _ (List.mem_of_getElem? (i := 12) rfl))) (by decide) (t := .int) (t' := (.array .int)) (by decide) (by decide))))
  have fF_a1_spots_x7 := (Fld.other W7 F_spots_a1_4 (Or.inr (slot_ne (Or.inr (hw _ (List.mem_of_getElem? (i := 16) rfl))) (Or.inr (hw _ (List.mem_of_getElem? (i := 12) rfl))) (by decide) (t := (.array .int)) (t' := (.array .int)) (by decide) (by decide))))
  have fF_a1_prizes_x7 := (Fld.other W7 F_prizes_a1_5 (Or.inr (slot_ne (Or.inr (hw _ (List.mem_of_getElem? (i := 18) rfl))) (Or.inr (hw _ (List.mem_of_getElem? (i := 12) rfl))) (by decide) (t := (.array .long)) (t' := (.array .int)) (by decide) (by decide))))
  have N7 := Fr.snoc X7 N0 g_a1
  have K7 : Keep h0 h7 [a1] := Keep.wr (Keep.refl h0 _) W7 (Or.inl (List.mem_of_getElem? (i := 0) rfl))
  have Z7 : n0 ≤ h7.size := Nat.le_trans Z0 (Nat.le_of_eq W7.size.symm)
  obtain ⟨T8, h8, X8, e8, W8, st8⟩ := putF X7 hx hZ hown (host := "") (Or.inl (hw _ (List.mem_of_getElem? (i := 13) rfl))) Via.refl e7 fF_a1_bonus_x7 fE_a1_x7 (Or.inr ⟨(hw _ (List.mem_of_getElem? (i := 14) rfl)), rfl, hnm⟩) (hw _ (List.mem_of_getElem? (i := 2) rfl)) (ty := .int) (by decide) rfl rfl (g := (mkF m 11 #[.val (.ref a1), .val (.ref a2), .val (.int p3), .val (.ref a4), .val (.ref a5)] [(.int p3), (.ref a1)])) rfl rfl (hb hby d1_11)
  have Fw8 := Fld.same W8 fF_a1_bonus_x7
  have fE_a1_x8 := (fE_a1_x7.wr W8)
  have fF_a1_winning_x8 := (Fld.other W8 Fw7 (Or.inr (slot_ne (Or.inr (hw _ (List.mem_of_getElem? (i := 12) rfl))) (Or.inr (hw _ (List.mem_of_getElem? (i := 14) rfl))) (by decide) (t := (.array .int)) (t' := .int) (by decide) (by decide))))
  have fF_a1_spots_x8 := (Fld.other W8 fF_a1_spots_x7 (Or.inr (slot_ne (Or.inr (hw _ (List.mem_of_getElem? (i := 16) rfl))) (Or.inr (hw _ (List.mem_of_getElem? (i := 14) rfl))) (by decide) (t := (.array .int)) (t' := .int) (by decide) (by decide))))
  have fF_a1_prizes_x8 := (Fld.other W8 fF_a1_prizes_x7 (Or.inr (slot_ne (Or.inr (hw _ (List.mem_of_getElem? (i := 18) rfl))) (Or.inr (hw _ (List.mem_of_getElem? (i := 14) rfl))) (by decide) (t := (.array .long)) (t' := .int) (by decide) (by decide))))
  have N8 := Fr.snoc X8 N7 g_a1
  have K8 : Keep h0 h8 [a1] := Keep.wr K7 W8 (Or.inl (List.mem_of_getElem? (i := 0) rfl))
  have Z8 : n0 ≤ h8.size := Nat.le_trans Z7 (Nat.le_of_eq W8.size.symm)
  obtain ⟨T9, h9, X9, e9, W9, st9⟩ := putF X8 hx hZ hown (host := "") (Or.inl (hw _ (List.mem_of_getElem? (i := 15) rfl))) Via.refl e8 fF_a1_spots_x8 fE_a1_x8 (Or.inr ⟨(hw _ (List.mem_of_getElem? (i := 16) rfl)), rfl, hnm⟩) (hw _ (List.mem_of_getElem? (i := 2) rfl)) (ty := (.array .int)) (by decide) rfl rfl (g := (mkF m 16 #[.val (.ref a1), .val (.ref a2), .val (.int p3), .val (.ref a4), .val (.ref a5)] [(.ref a4), (.ref a1)])) rfl rfl (hb hby d1_16)
  have Fw9 := Fld.same W9 fF_a1_spots_x8
  have fE_a1_x9 := (fE_a1_x8.wr W9)
  have fF_a1_winning_x9 := (Fld.other W9 fF_a1_winning_x8 (Or.inr (slot_ne (Or.inr (hw _ (List.mem_of_getElem? (i := 12) rfl))) (Or.inr (hw _ (List.mem_of_getElem? (i := 16) rfl))) (by decide) (t := (.array .int)) (t' := (.array .int)) (by decide) (by decide))))
  have fF_a1_bonus_x9 := (Fld.other W9 Fw8 (Or.inr (slot_ne (Or.inr (hw _ (List.mem_of_getElem? (i := 14) rfl))) (Or.inr (hw _ (List.mem_of_getElem? (i := 16) rfl))) (by decide) (t := .int) (t' := (.array .int)) (by decide) (by decide))))
  have fF_a1_prizes_x9 := (Fld.other W9 fF_a1_prizes_x8 (Or.inr (slot_ne (Or.inr (hw _ (List.mem_of_getElem? (i := 18) rfl))) (Or.inr (hw _ (List.mem_of_getElem? (i := 16) rfl))) (by decide) (t := (.array .long)) (t' := (.array .int)) (by decide) (by decide))))
  have N9 := Fr.snoc X9 N8 g_a1
  have K9 : Keep h0 h9 [a1] := Keep.wr K8 W9 (Or.inl (List.mem_of_getElem? (i := 0) rfl))
  have Z9 : n0 ≤ h9.size := Nat.le_trans Z8 (Nat.le_of_eq W9.size.symm)
  obtain ⟨T10, h10, X10, e10, W10, st10⟩ := putF X9 hx hZ hown (host := "") (Or.inl (hw _ (List.mem_of_getElem? (i := 17) rfl))) Via.refl e9 fF_a1_prizes_x9 fE_a1_x9 (Or.inr ⟨(hw _ (List.mem_of_getElem? (i := 18) rfl)), rfl, hnm⟩) (hw _ (List.mem_of_getElem? (i := 2) rfl)) (ty := (.array .long)) (by decide) rfl rfl (g := (mkF m 22 #[.val (.ref a1), .val (.ref a2), .val (.int p3), .val (.ref a4), .val (.ref a5)] [(.ref a5), (.ref a1)])) rfl rfl (hb hby d1_22)
  have Fw10 := Fld.same W10 fF_a1_prizes_x9
  have fE_a1_x10 := (fE_a1_x9.wr W10)
  have fF_a1_winning_x10 := (Fld.other W10 fF_a1_winning_x9 (Or.inr (slot_ne (Or.inr (hw _ (List.mem_of_getElem? (i := 12) rfl))) (Or.inr (hw _ (List.mem_of_getElem? (i := 18) rfl))) (by decide) (t := (.array .int)) (t' := (.array .long)) (by decide) (by decide))))
  have fF_a1_bonus_x10 := (Fld.other W10 fF_a1_bonus_x9 (Or.inr (slot_ne (Or.inr (hw _ (List.mem_of_getElem? (i := 14) rfl))) (Or.inr (hw _ (List.mem_of_getElem? (i := 18) rfl))) (by decide) (t := .int) (t' := (.array .long)) (by decide) (by decide))))
  have fF_a1_spots_x10 := (Fld.other W10 Fw9 (Or.inr (slot_ne (Or.inr (hw _ (List.mem_of_getElem? (i := 16) rfl))) (Or.inr (hw _ (List.mem_of_getElem? (i := 18) rfl))) (by decide) (t := (.array .int)) (t' := (.array .long)) (by decide) (by decide))))
  have N10 := Fr.snoc X10 N9 g_a1
  have K10 : Keep h0 h10 [a1] := Keep.wr K9 W10 (Or.inl (List.mem_of_getElem? (i := 0) rfl))
  have Z10 : n0 ≤ h10.size := Nat.le_trans Z9 (Nat.le_of_eq W10.size.symm)
  refine own_pre (A := T10.setTop (mkF m 25 #[.val (.ref a1), .val (.ref a2), .val (.int p3), .val (.ref a4), .val (.ref a5)] [])) (fun tt kt => ?_) ?_
  · show Steps p.tables e below (s₁.setTop (mkF m 0 #[.val (.ref a1), .val (.ref a2), .val (.int p3), .val (.ref a4), .val (.ref a5)] [])) _
    refine XS.aloadN X0.here hx rfl (hb hby d1_0) rfl rfl ?_
    show Steps p.tables e below (s₁.setTop (mkF m 1 #[.val (.ref a1), .val (.ref a2), .val (.int p3), .val (.ref a4), .val (.ref a5)] [(.ref a1)])) _
    refine st6 _ ?_
    show Steps p.tables e below (T6.setTop (mkF m 4 #[.val (.ref a1), .val (.ref a2), .val (.int p3), .val (.ref a4), .val (.ref a5)] [])) _
    refine XS.aloadN X6.here hx rfl (hb hby d1_4) rfl rfl ?_
    show Steps p.tables e below (T6.setTop (mkF m 5 #[.val (.ref a1), .val (.ref a2), .val (.int p3), .val (.ref a4), .val (.ref a5)] [(.ref a1)])) _
    refine XS.aloadN X6.here hx rfl (hb hby d1_5) rfl rfl ?_
    show Steps p.tables e below (T6.setTop (mkF m 6 #[.val (.ref a1), .val (.ref a2), .val (.int p3), .val (.ref a4), .val (.ref a5)] [(.ref a2), (.ref a1)])) _
    refine st7 _ ?_
    show Steps p.tables e below (T7.setTop (mkF m 9 #[.val (.ref a1), .val (.ref a2), .val (.int p3), .val (.ref a4), .val (.ref a5)] [])) _
    refine XS.aloadN X7.here hx rfl (hb hby d1_9) rfl rfl ?_
    show Steps p.tables e below (T7.setTop (mkF m 10 #[.val (.ref a1), .val (.ref a2), .val (.int p3), .val (.ref a4), .val (.ref a5)] [(.ref a1)])) _
    refine XS.iloadN X7.here hx rfl (hb hby d1_10) rfl ?_
    show Steps p.tables e below (T7.setTop (mkF m 11 #[.val (.ref a1), .val (.ref a2), .val (.int p3), .val (.ref a4), .val (.ref a5)] [(.int p3), (.ref a1)])) _
    refine st8 _ ?_
    show Steps p.tables e below (T8.setTop (mkF m 14 #[.val (.ref a1), .val (.ref a2), .val (.int p3), .val (.ref a4), .val (.ref a5)] [])) _
    refine XS.aloadN X8.here hx rfl (hb hby d1_14) rfl rfl ?_
    show Steps p.tables e below (T8.setTop (mkF m 15 #[.val (.ref a1), .val (.ref a2), .val (.int p3), .val (.ref a4), .val (.ref a5)] [(.ref a1)])) _
    refine XS.aloadN X8.here hx rfl (hb hby d1_15) rfl rfl ?_
    show Steps p.tables e below (T8.setTop (mkF m 16 #[.val (.ref a1), .val (.ref a2), .val (.int p3), .val (.ref a4), .val (.ref a5)] [(.ref a4), (.ref a1)])) _
    refine st9 _ ?_
    show Steps p.tables e below (T9.setTop (mkF m 19 #[.val (.ref a1), .val (.ref a2), .val (.int p3), .val (.ref a4), .val (.ref a5)] [])) _
    refine XS.aloadN X9.here hx rfl (hb hby d1_19) rfl rfl ?_
    show Steps p.tables e below (T9.setTop (mkF m 20 #[.val (.ref a1), .val (.ref a2), .val (.int p3), .val (.ref a4), .val (.ref a5)] [(.ref a1)])) _
    refine XS.aload X9.here hx rfl (hb hby d1_20) rfl rfl ?_
    show Steps p.tables e below (T9.setTop (mkF m 22 #[.val (.ref a1), .val (.ref a2), .val (.int p3), .val (.ref a4), .val (.ref a5)] [(.ref a5), (.ref a1)])) _
    refine st10 _ ?_
    exact kt
  show own_End p e below s (T10.setTop (mkF m 25 #[.val (.ref a1), .val (.ref a2), .val (.int p3), .val (.ref a4), .val (.ref a5)] [])) (Q1 Z a1 a2 p3 a4 a5 vb h0 n0) ({ frames := 1, cells := 0, slots := 0, locals := 12 } : Room).cells ({ frames := 1, cells := 0, slots := 0, locals := 12 } : Room).slots
  obtain ⟨fs, hr, hrun, hended, hW, hsame⟩ := X10.leave (v := none) (fun _ => rfl)
  refine ⟨_, _, ?_, hrun, hended, _, _, rfl, ?_, ⟨_, rfl⟩, hW, hsame.mono (by decide) (by decide)⟩
  · exact X10.returnOut hx Bd.returns (hb hby d1_25) hr
  · show Q1 Z a1 a2 p3 a4 a5 vb h0 n0 _ T10.heap _
    rw [e10]
    exact ⟨rfl, N10, K10, ⟨fE_a1_x10, fF_a1_winning_x10, fF_a1_bonus_x10, fF_a1_spots_x10, Fw10⟩⟩
def own_shows_4 (g : Nat → Int32) (n : Int32) (vb : Int32) (won : Int32) (i : Int32) : Nat → Int32
  | 0 => 0
  | k + 1 => (if i < n then (if won = (0 : Int32) then (if (g i.toNatClampNeg) = vb then (own_shows_4 g n vb (1 : Int32) (i + (1 : Int32)) k) else (own_shows_4 g n vb (0 : Int32) (i + (1 : Int32)) k)) else (won &&& (1 : Int32))) else (won &&& (1 : Int32)))
def own_shows (g : Nat → Int32) (n : Int32) (vb : Int32) : Int32 := (own_shows_4 g n vb (0 : Int32) (0 : Int32) (n.toNatClampNeg + 1))
theorem d3_0 : decode prog_31_method_8_code 0 = .ok (.iconst 0, 1) := by decide +kernel
theorem d3_1 : decode prog_31_method_8_code 1 = .ok (.istore_n 1, 1) := by decide +kernel
theorem d3_2 : decode prog_31_method_8_code 2 = .ok (.iconst 0, 1) := by decide +kernel
theorem d3_3 : decode prog_31_method_8_code 3 = .ok (.istore_n 2, 1) := by decide +kernel
theorem d3_4 : decode prog_31_method_8_code 4 = .ok (.iload_n 2, 1) := by decide +kernel
theorem d3_5 : decode prog_31_method_8_code 5 = .ok (.aload_n 0, 1) := by decide +kernel
theorem d3_6 : decode prog_31_method_8_code 6 = .ok (.getfield 19, 3) := by decide +kernel
theorem d3_9 : decode prog_31_method_8_code 9 = .ok (.arraylength, 1) := by decide +kernel
theorem d3_10 : decode prog_31_method_8_code 10 = .ok (.if_icmp .ge 32, 3) := by decide +kernel
theorem d3_13 : decode prog_31_method_8_code 13 = .ok (.iload_n 1, 1) := by decide +kernel
theorem d3_14 : decode prog_31_method_8_code 14 = .ok (.ifCond .ne 28, 3) := by decide +kernel
theorem d3_17 : decode prog_31_method_8_code 17 = .ok (.aload_n 0, 1) := by decide +kernel
theorem d3_18 : decode prog_31_method_8_code 18 = .ok (.getfield 19, 3) := by decide +kernel
theorem d3_21 : decode prog_31_method_8_code 21 = .ok (.iload_n 2, 1) := by decide +kernel
theorem d3_22 : decode prog_31_method_8_code 22 = .ok (.iaload, 1) := by decide +kernel
theorem d3_23 : decode prog_31_method_8_code 23 = .ok (.aload_n 0, 1) := by decide +kernel
theorem d3_24 : decode prog_31_method_8_code 24 = .ok (.getfield 15, 3) := by decide +kernel
theorem d3_27 : decode prog_31_method_8_code 27 = .ok (.if_icmp .ne 7, 3) := by decide +kernel
theorem d3_30 : decode prog_31_method_8_code 30 = .ok (.iconst 1, 1) := by decide +kernel
theorem d3_31 : decode prog_31_method_8_code 31 = .ok (.goto 4, 3) := by decide +kernel
theorem d3_34 : decode prog_31_method_8_code 34 = .ok (.iconst 0, 1) := by decide +kernel
theorem d3_35 : decode prog_31_method_8_code 35 = .ok (.istore_n 1, 1) := by decide +kernel
theorem d3_36 : decode prog_31_method_8_code 36 = .ok (.iinc 2 1, 3) := by decide +kernel
theorem d3_39 : decode prog_31_method_8_code 39 = .ok (.goto (-35), 3) := by decide +kernel
theorem d3_42 : decode prog_31_method_8_code 42 = .ok (.iload_n 1, 1) := by decide +kernel
theorem d3_43 : decode prog_31_method_8_code 43 = .ok (.ireturn, 1) := by decide +kernel
theorem pn_3 : plainName "com/example/scratchline/scratchline/game/Face" = true := by first | (simp [plainName, overriddenIn]; done) | decide +kernel
theorem ef_3 (m : MethodId) (x0 : Addr) : entryFrame m #[(.ref x0)] 3 = mkF m 0 #[.val (.ref x0), .unset, .unset] [] := by first | (simp [entryFrame, mkF, argsToLocals, Value.category]; done) | rfl
def Q3 (Z : State) (a1 : Addr) (vw : Addr) (vb : Int32) (vs : Addr) (vp : Addr) (g : Nat → Int32) (n : Int32) (h0 : Heap) (n0 : Nat) (v : Option Value) (h : Heap) (L : List Loc) : Prop := v = some (.int (own_shows g n vb)) ∧ Fr n0 L ∧ h = h0
set_option maxRecDepth 65536 in
set_option maxHeartbeats 40000000 in
theorem rm3 (l : Launch) (Z : State) (a0 : Array Value) (hw : ∀ d ∈ tables_1, d.before a0 Z = true) (ws : List Jvm.Cond) (a1 : Addr) (vw : Addr) (vb : Int32) (vs : Addr) (vp : Addr) (g : Nat → Int32) (n : Int32) (h0 : Heap) (n0 : Nat) (Z0 : n0 ≤ h0.size) (O_a1 : own_Obj Z h0 a1 vw vb vs vp) (V_vs : own_Arr Z h0 vs .int n (fun i => Value.int (g i))) :
    MetFree l (⟨"com/example/scratchline/scratchline/game/Face", "showsBonus", "()Z"⟩ : MethodName) (head1 (Jvm.Cond.code (⟨"com/example/scratchline/scratchline/game/Face", "showsBonus", "()Z"⟩ : MethodName) prog_31_method_8_code 3 (some .boolean) :: ws) ({ frames := 0, cells := 0, slots := 0, locals := 0 } : Room)) (fun a U => a = #[(.ref a1)] ∧ Z.Warmed39 U.vm ∧ U.heap = h0) (fun _ _ _ _ _ => True) (fun _ U o U' => ∃ v L, o = .returned v ∧ Q3 Z a1 vw vb vs vp g n h0 n0 v U'.heap L ∧ FrameEnd U o U' L ({ frames := 0, cells := 0, slots := 0, locals := 0 } : Room).cells ({ frames := 0, cells := 0, slots := 0, locals := 0 } : Room).slots) := by
  refine MetFree.of_bodySF (plainFor_of_name pn_3) hisR ?_
  intro p e s m args below meth c s₁ Bd hml0 hP hK
  obtain ⟨rfl, hZ, hh⟩ := hP
  have hx := Bd.exec
  have hby := Bd.bytes
  have hml : c.maxLocals = 3 := hml0
  have hown : s.vm.findClass "com/example/scratchline/scratchline/game/Face" = some m.cls := findClass_of_methodNamed Bd.named
  have hnm := (name_of_methodNamed Bd.named Bd.method).1
  have X0 : Stand p l e ({ frames := 0, cells := 0, slots := 0, locals := 0 } : Room) s m #[(.ref a1)] below meth c s₁ [] 0 0 := Stand.of_body Bd
  have e0 : s₁.heap = h0 := by rw [← hh, Bd.state]; rfl
  have N0 := Fr.nil n0
  show own_End p e below s (s₁.setTop (entryFrame m #[(.ref a1)] 3)) (Q3 Z a1 vw vb vs vp g n h0 n0) ({ frames := 0, cells := 0, slots := 0, locals := 0 } : Room).cells ({ frames := 0, cells := 0, slots := 0, locals := 0 } : Room).slots
  obtain ⟨E_a1_1, F_winning_a1_2, F_bonus_a1_3, F_spots_a1_4, F_prizes_a1_5⟩ := O_a1
  refine own_pre (A := s₁.setTop (mkF m 0 #[.val (.ref a1), .unset, .unset] [])) (fun tt kt => castTop (ef_3 m a1) kt) ?_
  show own_End p e below s (s₁.setTop (mkF m 0 #[.val (.ref a1), .unset, .unset] [])) (Q3 Z a1 vw vb vs vp g n h0 n0) ({ frames := 0, cells := 0, slots := 0, locals := 0 } : Room).cells ({ frames := 0, cells := 0, slots := 0, locals := 0 } : Room).slots
  have hj : own_shows g n vb = own_shows g n vb := rfl
  refine own_pre (A := s₁.setTop (mkF m 4 #[.val (.ref a1), .val (.int (0 : Int32)), .val (.int (0 : Int32))] [])) (fun tt kt => ?_) ?_
  · show Steps p.tables e below (s₁.setTop (mkF m 0 #[.val (.ref a1), .unset, .unset] [])) _
    refine XS.iconst X0.here hx rfl (hb hby d3_0) ?_
    show Steps p.tables e below (s₁.setTop (mkF m 1 #[.val (.ref a1), .unset, .unset] [(.int (0 : Int32))])) _
    refine XS.istoreN X0.here hx rfl (hb hby d3_1) rfl (l' := #[.val (.ref a1), .val (.int (0 : Int32)), .unset]) rfl ?_
    show Steps p.tables e below (s₁.setTop (mkF m 2 #[.val (.ref a1), .val (.int (0 : Int32)), .unset] [])) _
    refine XS.iconst X0.here hx rfl (hb hby d3_2) ?_
    show Steps p.tables e below (s₁.setTop (mkF m 3 #[.val (.ref a1), .val (.int (0 : Int32)), .unset] [(.int (0 : Int32))])) _
    refine XS.istoreN X0.here hx rfl (hb hby d3_3) rfl (l' := #[.val (.ref a1), .val (.int (0 : Int32)), .val (.int (0 : Int32))]) rfl ?_
    exact kt
  show own_End p e below s (s₁.setTop (mkF m 4 #[.val (.ref a1), .val (.int (0 : Int32)), .val (.int (0 : Int32))] [])) (Q3 Z a1 vw vb vs vp g n h0 n0) ({ frames := 0, cells := 0, slots := 0, locals := 0 } : Room).cells ({ frames := 0, cells := 0, slots := 0, locals := 0 } : Room).slots
  have j4 : ∀ (k : Nat)  (Tj4 : State) (Lj4 : List Loc) (Xj4 : Stand p l e ({ frames := 0, cells := 0, slots := 0, locals := 0 } : Room) s m #[(.ref a1)] below meth c Tj4 Lj4 0 0) (ej4 : Tj4.heap = h0) (Nj4 : Fr n0 Lj4) (won : Int32) (i : Int32)  (hi0 : 0 ≤ i.toInt) (hin : i.toInt ≤ n.toInt) (hk : n.toInt - i.toInt < k), own_shows g n vb = own_shows_4 g n vb won i k → own_End p e below s (Tj4.setTop (mkF m 4 #[.val (.ref a1), .val (.int won), .val (.int i)] [])) (Q3 Z a1 vw vb vs vp g n h0 n0) ({ frames := 0, cells := 0, slots := 0, locals := 0 } : Room).cells ({ frames := 0, cells := 0, slots := 0, locals := 0 } : Room).slots := by
    intro k
    induction k with
    | zero =>
      intro Tj4 Lj4 Xj4 ej4 Nj4 won i  hi0 hin hk hj
      exfalso; omega
    | succ k ih =>
      intro Tj4 Lj4 Xj4 ej4 Nj4 won i  hi0 hin hk hj
      obtain ⟨T6, X6, e6, st6⟩ := getF Xj4 hx hZ hown (host := "") (Or.inl (hw _ (List.mem_of_getElem? (i := 15) rfl))) Via.refl ej4 F_spots_a1_4 (g := (mkF m 6 #[.val (.ref a1), .val (.int won), .val (.int i)] [(.ref a1), (.int i)])) rfl rfl (hb hby d3_6)
      obtain ⟨cl7, Ar7, S7, Nn7, G7⟩ := id V_vs
      refine own_pre (A := T6.setTop (mkF m 10 #[.val (.ref a1), .val (.int won), .val (.int i)] [(.int n), (.int i)])) (fun tt kt => ?_) ?_
      · show Steps p.tables e below (Tj4.setTop (mkF m 4 #[.val (.ref a1), .val (.int won), .val (.int i)] [])) _
        refine XS.iloadN Xj4.here hx rfl (hb hby d3_4) rfl ?_
        show Steps p.tables e below (Tj4.setTop (mkF m 5 #[.val (.ref a1), .val (.int won), .val (.int i)] [(.int i)])) _
        refine XS.aloadN Xj4.here hx rfl (hb hby d3_5) rfl rfl ?_
        show Steps p.tables e below (Tj4.setTop (mkF m 6 #[.val (.ref a1), .val (.int won), .val (.int i)] [(.ref a1), (.int i)])) _
        refine st6 _ ?_
        show Steps p.tables e below (T6.setTop (mkF m 9 #[.val (.ref a1), .val (.int won), .val (.int i)] [(.ref vs), (.int i)])) _
        refine X6.arraylength hx (by rw [e6]; exact Ar7.1) (State.isArrayOf_alike hZ.alike Ar7.2.1) (g := (mkF m 9 #[.val (.ref a1), .val (.int won), .val (.int i)] [(.ref vs), (.int i)])) rfl rfl (hb hby d3_9) _ ?_
        rw [len_of S7 Nn7]
        exact kt
      show own_End p e below s (T6.setTop (mkF m 10 #[.val (.ref a1), .val (.int won), .val (.int i)] [(.int n), (.int i)])) (Q3 Z a1 vw vb vs vp g n h0 n0) ({ frames := 0, cells := 0, slots := 0, locals := 0 } : Room).cells ({ frames := 0, cells := 0, slots := 0, locals := 0 } : Room).slots
      by_cases hc10_8 : i < n
      · refine own_pre (A := T6.setTop (mkF m 14 #[.val (.ref a1), .val (.int won), .val (.int i)] [(.int won)])) (fun tt kt => ?_) ?_
        · show Steps p.tables e below (T6.setTop (mkF m 10 #[.val (.ref a1), .val (.int won), .val (.int i)] [(.int n), (.int i)])) _
          refine XS.icmpNo X6.here hx rfl (hb hby d3_10) rfl (tlt hc10_8).2.1 ?_
          show Steps p.tables e below (T6.setTop (mkF m 13 #[.val (.ref a1), .val (.int won), .val (.int i)] [])) _
          refine XS.iloadN X6.here hx rfl (hb hby d3_13) rfl ?_
          exact kt
        show own_End p e below s (T6.setTop (mkF m 14 #[.val (.ref a1), .val (.int won), .val (.int i)] [(.int won)])) (Q3 Z a1 vw vb vs vp g n h0 n0) ({ frames := 0, cells := 0, slots := 0, locals := 0 } : Room).cells ({ frames := 0, cells := 0, slots := 0, locals := 0 } : Room).slots
        by_cases hc14_9 : won = (0 : Int32)
        · obtain ⟨T10, X10, e10, st10⟩ := getF X6 hx hZ hown (host := "") (Or.inl (hw _ (List.mem_of_getElem? (i := 15) rfl))) Via.refl e6 F_spots_a1_4 (g := (mkF m 18 #[.val (.ref a1), .val (.int won), .val (.int i)] [(.ref a1)])) rfl rfl (hb hby d3_18)
          obtain ⟨cl11, Ar11, S11, Nn11, G11⟩ := id V_vs
          have hin11 : ¬ (i < 0 ∨ cl11.slots.size ≤ i.toNatClampNeg) := inb_of S11 (own_inb hi0 hc10_8 : ¬ i < 0 ∧ i < n)
          have hat11 : cl11.slots[i.toNatClampNeg]? = some (.int (g i.toNatClampNeg)) := own_at S11 G11 hin11
          obtain ⟨T12, X12, e12, st12⟩ := getF X10 hx hZ hown (host := "") (Or.inl (hw _ (List.mem_of_getElem? (i := 13) rfl))) Via.refl e10 F_bonus_a1_3 (g := (mkF m 24 #[.val (.ref a1), .val (.int won), .val (.int i)] [(.ref a1), (.int (g i.toNatClampNeg))])) rfl rfl (hb hby d3_24)
          refine own_pre (A := T12.setTop (mkF m 27 #[.val (.ref a1), .val (.int won), .val (.int i)] [(.int vb), (.int (g i.toNatClampNeg))])) (fun tt kt => ?_) ?_
          · show Steps p.tables e below (T6.setTop (mkF m 14 #[.val (.ref a1), .val (.int won), .val (.int i)] [(.int won)])) _
            refine XS.ifNo X6.here hx rfl (hb hby d3_14) rfl ((if0 _ _).trans (teq hc14_9).2) ?_
            show Steps p.tables e below (T6.setTop (mkF m 17 #[.val (.ref a1), .val (.int won), .val (.int i)] [])) _
            refine XS.aloadN X6.here hx rfl (hb hby d3_17) rfl rfl ?_
            show Steps p.tables e below (T6.setTop (mkF m 18 #[.val (.ref a1), .val (.int won), .val (.int i)] [(.ref a1)])) _
            refine st10 _ ?_
            show Steps p.tables e below (T10.setTop (mkF m 21 #[.val (.ref a1), .val (.int won), .val (.int i)] [(.ref vs)])) _
            refine XS.iloadN X10.here hx rfl (hb hby d3_21) rfl ?_
            show Steps p.tables e below (T10.setTop (mkF m 22 #[.val (.ref a1), .val (.int won), .val (.int i)] [(.int i), (.ref vs)])) _
            refine X10.iaload hx (j := i) (v := (.int (g i.toNatClampNeg))) (by rw [e10]; exact Ar11.1) (State.isArrayOf_alike hZ.alike Ar11.2.1) Ar11.2.2 hin11 hat11 (g := (mkF m 22 #[.val (.ref a1), .val (.int won), .val (.int i)] [(.int i), (.ref vs)])) rfl rfl (hb hby d3_22) _ ?_
            show Steps p.tables e below (T10.setTop (mkF m 23 #[.val (.ref a1), .val (.int won), .val (.int i)] [(.int (g i.toNatClampNeg))])) _
            refine XS.aloadN X10.here hx rfl (hb hby d3_23) rfl rfl ?_
            show Steps p.tables e below (T10.setTop (mkF m 24 #[.val (.ref a1), .val (.int won), .val (.int i)] [(.ref a1), (.int (g i.toNatClampNeg))])) _
            refine st12 _ ?_
            exact kt
          show own_End p e below s (T12.setTop (mkF m 27 #[.val (.ref a1), .val (.int won), .val (.int i)] [(.int vb), (.int (g i.toNatClampNeg))])) (Q3 Z a1 vw vb vs vp g n h0 n0) ({ frames := 0, cells := 0, slots := 0, locals := 0 } : Room).cells ({ frames := 0, cells := 0, slots := 0, locals := 0 } : Room).slots
          by_cases hc27_13 : (g i.toNatClampNeg) = vb
          · refine own_pre (A := T12.setTop (mkF m 4 #[.val (.ref a1), .val (.int (1 : Int32)), .val (.int (i + (1 : Int32)))] [])) (fun tt kt => ?_) ?_
            · show Steps p.tables e below (T12.setTop (mkF m 27 #[.val (.ref a1), .val (.int won), .val (.int i)] [(.int vb), (.int (g i.toNatClampNeg))])) _
              refine XS.icmpNo X12.here hx rfl (hb hby d3_27) rfl (teq hc27_13).2 ?_
              show Steps p.tables e below (T12.setTop (mkF m 30 #[.val (.ref a1), .val (.int won), .val (.int i)] [])) _
              refine XS.iconst X12.here hx rfl (hb hby d3_30) ?_
              show Steps p.tables e below (T12.setTop (mkF m 31 #[.val (.ref a1), .val (.int won), .val (.int i)] [(.int (1 : Int32))])) _
              refine XS.goto X12.here hx rfl (pc0 := 31) (pc' := 35) rfl (hb hby d3_31) (by decide) (by decide) ?_
              show Steps p.tables e below (T12.setTop (mkF m 35 #[.val (.ref a1), .val (.int won), .val (.int i)] [(.int (1 : Int32))])) _
              refine XS.istoreN X12.here hx rfl (hb hby d3_35) rfl (l' := #[.val (.ref a1), .val (.int (1 : Int32)), .val (.int i)]) rfl ?_
              show Steps p.tables e below (T12.setTop (mkF m 36 #[.val (.ref a1), .val (.int (1 : Int32)), .val (.int i)] [])) _
              refine XS.iinc X12.here hx rfl (hb hby d3_36) rfl (l' := #[.val (.ref a1), .val (.int (1 : Int32)), .val (.int (i + (1 : Int32)))]) rfl ?_
              show Steps p.tables e below (T12.setTop (mkF m 39 #[.val (.ref a1), .val (.int (1 : Int32)), .val (.int (i + (1 : Int32)))] [])) _
              refine XS.goto X12.here hx rfl (pc0 := 39) (pc' := 4) rfl (hb hby d3_39) (by decide) (by decide) ?_
              exact kt
            show own_End p e below s (T12.setTop (mkF m 4 #[.val (.ref a1), .val (.int (1 : Int32)), .val (.int (i + (1 : Int32)))] [])) (Q3 Z a1 vw vb vs vp g n h0 n0) ({ frames := 0, cells := 0, slots := 0, locals := 0 } : Room).cells ({ frames := 0, cells := 0, slots := 0, locals := 0 } : Room).slots
            exact ih _ _ X12 e12 Nj4 (1 : Int32) (i + (1 : Int32))  (by have := own_next hi0 hc10_8; omega) (by have := own_next hi0 hc10_8; omega) (by have := own_next hi0 hc10_8; omega) (hj.trans (by simp only [own_shows_4, if_pos hc10_8, if_pos hc14_9, if_pos hc27_13]))
          · refine own_pre (A := T12.setTop (mkF m 4 #[.val (.ref a1), .val (.int (0 : Int32)), .val (.int (i + (1 : Int32)))] [])) (fun tt kt => ?_) ?_
            · show Steps p.tables e below (T12.setTop (mkF m 27 #[.val (.ref a1), .val (.int won), .val (.int i)] [(.int vb), (.int (g i.toNatClampNeg))])) _
              refine XS.icmpYes X12.here hx rfl (pc0 := 27) (pc' := 34) rfl (hb hby d3_27) rfl (feq hc27_13).2 (by decide) (by decide) ?_
              show Steps p.tables e below (T12.setTop (mkF m 34 #[.val (.ref a1), .val (.int won), .val (.int i)] [])) _
              refine XS.iconst X12.here hx rfl (hb hby d3_34) ?_
              show Steps p.tables e below (T12.setTop (mkF m 35 #[.val (.ref a1), .val (.int won), .val (.int i)] [(.int (0 : Int32))])) _
              refine XS.istoreN X12.here hx rfl (hb hby d3_35) rfl (l' := #[.val (.ref a1), .val (.int (0 : Int32)), .val (.int i)]) rfl ?_
              show Steps p.tables e below (T12.setTop (mkF m 36 #[.val (.ref a1), .val (.int (0 : Int32)), .val (.int i)] [])) _
              refine XS.iinc X12.here hx rfl (hb hby d3_36) rfl (l' := #[.val (.ref a1), .val (.int (0 : Int32)), .val (.int (i + (1 : Int32)))]) rfl ?_
              show Steps p.tables e below (T12.setTop (mkF m 39 #[.val (.ref a1), .val (.int (0 : Int32)), .val (.int (i + (1 : Int32)))] [])) _
              refine XS.goto X12.here hx rfl (pc0 := 39) (pc' := 4) rfl (hb hby d3_39) (by decide) (by decide) ?_
              exact kt
            show own_End p e below s (T12.setTop (mkF m 4 #[.val (.ref a1), .val (.int (0 : Int32)), .val (.int (i + (1 : Int32)))] [])) (Q3 Z a1 vw vb vs vp g n h0 n0) ({ frames := 0, cells := 0, slots := 0, locals := 0 } : Room).cells ({ frames := 0, cells := 0, slots := 0, locals := 0 } : Room).slots
            exact ih _ _ X12 e12 Nj4 (0 : Int32) (i + (1 : Int32))  (by have := own_next hi0 hc10_8; omega) (by have := own_next hi0 hc10_8; omega) (by have := own_next hi0 hc10_8; omega) (hj.trans (by simp only [own_shows_4, if_pos hc10_8, if_pos hc14_9, if_neg hc27_13]))
        · refine own_pre (A := T6.setTop (mkF m 43 #[.val (.ref a1), .val (.int won), .val (.int i)] [(.int won)])) (fun tt kt => ?_) ?_
          · show Steps p.tables e below (T6.setTop (mkF m 14 #[.val (.ref a1), .val (.int won), .val (.int i)] [(.int won)])) _
            refine XS.ifYes X6.here hx rfl (pc0 := 14) (pc' := 42) rfl (hb hby d3_14) rfl ((if0 _ _).trans (feq hc14_9).2) (by decide) (by decide) ?_
            show Steps p.tables e below (T6.setTop (mkF m 42 #[.val (.ref a1), .val (.int won), .val (.int i)] [])) _
            refine XS.iloadN X6.here hx rfl (hb hby d3_42) rfl ?_
            exact kt
          show own_End p e below s (T6.setTop (mkF m 43 #[.val (.ref a1), .val (.int won), .val (.int i)] [(.int won)])) (Q3 Z a1 vw vb vs vp g n h0 n0) ({ frames := 0, cells := 0, slots := 0, locals := 0 } : Room).cells ({ frames := 0, cells := 0, slots := 0, locals := 0 } : Room).slots
          have hv : (own_shows g n vb) = (won &&& (1 : Int32)) := hj.trans (by simp only [own_shows_4, if_pos hc10_8, if_neg hc14_9])
          obtain ⟨fs, hr, hrun, hended, hW, hsame⟩ := X6.leave (v := some (.int (won &&& (1 : Int32)))) (fun h => by rw [Bd.returns] at h; cases h)
          refine ⟨_, _, ?_, hrun, hended, _, _, rfl, ?_, ⟨_, rfl⟩, hW, hsame.mono (by decide) (by decide)⟩
          · exact retN X6 hx (t := .boolean) Bd.returns (by simp) (hb hby d3_43) hr
          · show Q3 Z a1 vw vb vs vp g n h0 n0 _ T6.heap _
            rw [e6]
            exact ⟨(congrArg (fun z => some (Value.int z)) hv.symm), Nj4, rfl⟩
      · refine own_pre (A := T6.setTop (mkF m 43 #[.val (.ref a1), .val (.int won), .val (.int i)] [(.int won)])) (fun tt kt => ?_) ?_
        · show Steps p.tables e below (T6.setTop (mkF m 10 #[.val (.ref a1), .val (.int won), .val (.int i)] [(.int n), (.int i)])) _
          refine XS.icmpYes X6.here hx rfl (pc0 := 10) (pc' := 42) rfl (hb hby d3_10) rfl (flt hc10_8).2.1 (by decide) (by decide) ?_
          show Steps p.tables e below (T6.setTop (mkF m 42 #[.val (.ref a1), .val (.int won), .val (.int i)] [])) _
          refine XS.iloadN X6.here hx rfl (hb hby d3_42) rfl ?_
          exact kt
        show own_End p e below s (T6.setTop (mkF m 43 #[.val (.ref a1), .val (.int won), .val (.int i)] [(.int won)])) (Q3 Z a1 vw vb vs vp g n h0 n0) ({ frames := 0, cells := 0, slots := 0, locals := 0 } : Room).cells ({ frames := 0, cells := 0, slots := 0, locals := 0 } : Room).slots
        have hv : (own_shows g n vb) = (won &&& (1 : Int32)) := hj.trans (by simp only [own_shows_4, if_neg hc10_8])
        obtain ⟨fs, hr, hrun, hended, hW, hsame⟩ := X6.leave (v := some (.int (won &&& (1 : Int32)))) (fun h => by rw [Bd.returns] at h; cases h)
        refine ⟨_, _, ?_, hrun, hended, _, _, rfl, ?_, ⟨_, rfl⟩, hW, hsame.mono (by decide) (by decide)⟩
        · exact retN X6 hx (t := .boolean) Bd.returns (by simp) (hb hby d3_43) hr
        · show Q3 Z a1 vw vb vs vp g n h0 n0 _ T6.heap _
          rw [e6]
          exact ⟨(congrArg (fun z => some (Value.int z)) hv.symm), Nj4, rfl⟩
  exact j4 (n.toNatClampNeg + 1) _ _ X0 e0 N0 (0 : Int32) (0 : Int32)  (by decide) (by have := V_vs.nn; have z : (0 : Int32).toInt = 0 := (by decide); omega) (by have := V_vs.nn; have z : (0 : Int32).toInt = 0 := (by decide); omega) (hj.trans (by simp only [own_shows]))
def own_law0_g6 (p1 : Int32) (p2 : Int32) (p3 : Int32) (p4 : Int32) (p5 : Int32) (p6 : Int32) (xa : Int32) (xb : Int32) (xc : Int32) (wv : Int32) : Nat → Int32 := fun ii => if ii = 0 then wv else (fun _ => (0 : Int32)) ii
def own_law_203 (p1 : Int32) (p2 : Int32) (p3 : Int32) (p4 : Int32) (p5 : Int32) (p6 : Int32) (xa : Int32) (xb : Int32) (xc : Int32) (wv : Int32) (ex : Int32) : Int32 := (if (own_shows (fun _ => (0 : Int32)) (0 : Int32) p2) = ex then (1 : Int32) else (0 : Int32))
def own_law_142 (p1 : Int32) (p2 : Int32) (p3 : Int32) (p4 : Int32) (p5 : Int32) (p6 : Int32) (xa : Int32) (xb : Int32) (xc : Int32) (wv : Int32) : Int32 := (if (p1 &&& (3 : Int32)) < (1 : Int32) then (if (p1 &&& (3 : Int32)) < (2 : Int32) then (if (p1 &&& (3 : Int32)) < (3 : Int32) then (own_law_203 p1 p2 p3 p4 p5 p6 xa xb xc wv (0 : Int32)) else (if xc = p2 then (own_law_203 p1 p2 p3 p4 p5 p6 xa xb xc wv (1 : Int32)) else (own_law_203 p1 p2 p3 p4 p5 p6 xa xb xc wv (0 : Int32)))) else (if xb = p2 then (own_law_203 p1 p2 p3 p4 p5 p6 xa xb xc wv (1 : Int32)) else (if (p1 &&& (3 : Int32)) < (3 : Int32) then (own_law_203 p1 p2 p3 p4 p5 p6 xa xb xc wv (0 : Int32)) else (if xc = p2 then (own_law_203 p1 p2 p3 p4 p5 p6 xa xb xc wv (1 : Int32)) else (own_law_203 p1 p2 p3 p4 p5 p6 xa xb xc wv (0 : Int32)))))) else (if xa = p2 then (own_law_203 p1 p2 p3 p4 p5 p6 xa xb xc wv (1 : Int32)) else (if (p1 &&& (3 : Int32)) < (2 : Int32) then (if (p1 &&& (3 : Int32)) < (3 : Int32) then (own_law_203 p1 p2 p3 p4 p5 p6 xa xb xc wv (0 : Int32)) else (if xc = p2 then (own_law_203 p1 p2 p3 p4 p5 p6 xa xb xc wv (1 : Int32)) else (own_law_203 p1 p2 p3 p4 p5 p6 xa xb xc wv (0 : Int32)))) else (if xb = p2 then (own_law_203 p1 p2 p3 p4 p5 p6 xa xb xc wv (1 : Int32)) else (if (p1 &&& (3 : Int32)) < (3 : Int32) then (own_law_203 p1 p2 p3 p4 p5 p6 xa xb xc wv (0 : Int32)) else (if xc = p2 then (own_law_203 p1 p2 p3 p4 p5 p6 xa xb xc wv (1 : Int32)) else (own_law_203 p1 p2 p3 p4 p5 p6 xa xb xc wv (0 : Int32))))))))
def own_law0_g36 (p1 : Int32) (p2 : Int32) (p3 : Int32) (p4 : Int32) (p5 : Int32) (p6 : Int32) (xa : Int32) (xb : Int32) (xc : Int32) : Nat → Int32 := fun ii => if ii = 0 then xa else (fun _ => (0 : Int32)) ii
def own_law0_g40 (p1 : Int32) (p2 : Int32) (p3 : Int32) (p4 : Int32) (p5 : Int32) (p6 : Int32) (xa : Int32) (xb : Int32) (xc : Int32) (wv : Int32) : Nat → Int32 := fun ii => if ii = 0 then wv else (fun _ => (0 : Int32)) ii
def own_law_203b (p1 : Int32) (p2 : Int32) (p3 : Int32) (p4 : Int32) (p5 : Int32) (p6 : Int32) (xa : Int32) (xb : Int32) (xc : Int32) (wv : Int32) (ex : Int32) : Int32 := (if (own_shows (own_law0_g36 p1 p2 p3 p4 p5 p6 xa xb xc) (1 : Int32) p2) = ex then (1 : Int32) else (0 : Int32))
def own_law_142b (p1 : Int32) (p2 : Int32) (p3 : Int32) (p4 : Int32) (p5 : Int32) (p6 : Int32) (xa : Int32) (xb : Int32) (xc : Int32) (wv : Int32) : Int32 := (if (p1 &&& (3 : Int32)) < (1 : Int32) then (if (p1 &&& (3 : Int32)) < (2 : Int32) then (if (p1 &&& (3 : Int32)) < (3 : Int32) then (own_law_203b p1 p2 p3 p4 p5 p6 xa xb xc wv (0 : Int32)) else (if xc = p2 then (own_law_203b p1 p2 p3 p4 p5 p6 xa xb xc wv (1 : Int32)) else (own_law_203b p1 p2 p3 p4 p5 p6 xa xb xc wv (0 : Int32)))) else (if xb = p2 then (own_law_203b p1 p2 p3 p4 p5 p6 xa xb xc wv (1 : Int32)) else (if (p1 &&& (3 : Int32)) < (3 : Int32) then (own_law_203b p1 p2 p3 p4 p5 p6 xa xb xc wv (0 : Int32)) else (if xc = p2 then (own_law_203b p1 p2 p3 p4 p5 p6 xa xb xc wv (1 : Int32)) else (own_law_203b p1 p2 p3 p4 p5 p6 xa xb xc wv (0 : Int32)))))) else (if xa = p2 then (own_law_203b p1 p2 p3 p4 p5 p6 xa xb xc wv (1 : Int32)) else (if (p1 &&& (3 : Int32)) < (2 : Int32) then (if (p1 &&& (3 : Int32)) < (3 : Int32) then (own_law_203b p1 p2 p3 p4 p5 p6 xa xb xc wv (0 : Int32)) else (if xc = p2 then (own_law_203b p1 p2 p3 p4 p5 p6 xa xb xc wv (1 : Int32)) else (own_law_203b p1 p2 p3 p4 p5 p6 xa xb xc wv (0 : Int32)))) else (if xb = p2 then (own_law_203b p1 p2 p3 p4 p5 p6 xa xb xc wv (1 : Int32)) else (if (p1 &&& (3 : Int32)) < (3 : Int32) then (own_law_203b p1 p2 p3 p4 p5 p6 xa xb xc wv (0 : Int32)) else (if xc = p2 then (own_law_203b p1 p2 p3 p4 p5 p6 xa xb xc wv (1 : Int32)) else (own_law_203b p1 p2 p3 p4 p5 p6 xa xb xc wv (0 : Int32))))))))
def own_law0_g70 (p1 : Int32) (p2 : Int32) (p3 : Int32) (p4 : Int32) (p5 : Int32) (p6 : Int32) (xa : Int32) (xb : Int32) (xc : Int32) : Nat → Int32 := fun ii => if ii = 0 then xa else (fun _ => (0 : Int32)) ii
def own_law0_g73 (p1 : Int32) (p2 : Int32) (p3 : Int32) (p4 : Int32) (p5 : Int32) (p6 : Int32) (xa : Int32) (xb : Int32) (xc : Int32) : Nat → Int32 := fun ii => if ii = 1 then xb else (own_law0_g70 p1 p2 p3 p4 p5 p6 xa xb xc) ii
def own_law0_g77 (p1 : Int32) (p2 : Int32) (p3 : Int32) (p4 : Int32) (p5 : Int32) (p6 : Int32) (xa : Int32) (xb : Int32) (xc : Int32) (wv : Int32) : Nat → Int32 := fun ii => if ii = 0 then wv else (fun _ => (0 : Int32)) ii
def own_law_203bb (p1 : Int32) (p2 : Int32) (p3 : Int32) (p4 : Int32) (p5 : Int32) (p6 : Int32) (xa : Int32) (xb : Int32) (xc : Int32) (wv : Int32) (ex : Int32) : Int32 := (if (own_shows (own_law0_g73 p1 p2 p3 p4 p5 p6 xa xb xc) (2 : Int32) p2) = ex then (1 : Int32) else (0 : Int32))
def own_law_142bb (p1 : Int32) (p2 : Int32) (p3 : Int32) (p4 : Int32) (p5 : Int32) (p6 : Int32) (xa : Int32) (xb : Int32) (xc : Int32) (wv : Int32) : Int32 := (if (p1 &&& (3 : Int32)) < (1 : Int32) then (if (p1 &&& (3 : Int32)) < (2 : Int32) then (if (p1 &&& (3 : Int32)) < (3 : Int32) then (own_law_203bb p1 p2 p3 p4 p5 p6 xa xb xc wv (0 : Int32)) else (if xc = p2 then (own_law_203bb p1 p2 p3 p4 p5 p6 xa xb xc wv (1 : Int32)) else (own_law_203bb p1 p2 p3 p4 p5 p6 xa xb xc wv (0 : Int32)))) else (if xb = p2 then (own_law_203bb p1 p2 p3 p4 p5 p6 xa xb xc wv (1 : Int32)) else (if (p1 &&& (3 : Int32)) < (3 : Int32) then (own_law_203bb p1 p2 p3 p4 p5 p6 xa xb xc wv (0 : Int32)) else (if xc = p2 then (own_law_203bb p1 p2 p3 p4 p5 p6 xa xb xc wv (1 : Int32)) else (own_law_203bb p1 p2 p3 p4 p5 p6 xa xb xc wv (0 : Int32)))))) else (if xa = p2 then (own_law_203bb p1 p2 p3 p4 p5 p6 xa xb xc wv (1 : Int32)) else (if (p1 &&& (3 : Int32)) < (2 : Int32) then (if (p1 &&& (3 : Int32)) < (3 : Int32) then (own_law_203bb p1 p2 p3 p4 p5 p6 xa xb xc wv (0 : Int32)) else (if xc = p2 then (own_law_203bb p1 p2 p3 p4 p5 p6 xa xb xc wv (1 : Int32)) else (own_law_203bb p1 p2 p3 p4 p5 p6 xa xb xc wv (0 : Int32)))) else (if xb = p2 then (own_law_203bb p1 p2 p3 p4 p5 p6 xa xb xc wv (1 : Int32)) else (if (p1 &&& (3 : Int32)) < (3 : Int32) then (own_law_203bb p1 p2 p3 p4 p5 p6 xa xb xc wv (0 : Int32)) else (if xc = p2 then (own_law_203bb p1 p2 p3 p4 p5 p6 xa xb xc wv (1 : Int32)) else (own_law_203bb p1 p2 p3 p4 p5 p6 xa xb xc wv (0 : Int32))))))))
def own_law0_g106 (p1 : Int32) (p2 : Int32) (p3 : Int32) (p4 : Int32) (p5 : Int32) (p6 : Int32) (xa : Int32) (xb : Int32) (xc : Int32) : Nat → Int32 := fun ii => if ii = 0 then xa else (fun _ => (0 : Int32)) ii
def own_law0_g109 (p1 : Int32) (p2 : Int32) (p3 : Int32) (p4 : Int32) (p5 : Int32) (p6 : Int32) (xa : Int32) (xb : Int32) (xc : Int32) : Nat → Int32 := fun ii => if ii = 1 then xb else (own_law0_g106 p1 p2 p3 p4 p5 p6 xa xb xc) ii
def own_law0_g112 (p1 : Int32) (p2 : Int32) (p3 : Int32) (p4 : Int32) (p5 : Int32) (p6 : Int32) (xa : Int32) (xb : Int32) (xc : Int32) : Nat → Int32 := fun ii => if ii = 2 then xc else (own_law0_g109 p1 p2 p3 p4 p5 p6 xa xb xc) ii
def own_law0_g116 (p1 : Int32) (p2 : Int32) (p3 : Int32) (p4 : Int32) (p5 : Int32) (p6 : Int32) (xa : Int32) (xb : Int32) (xc : Int32) (wv : Int32) : Nat → Int32 := fun ii => if ii = 0 then wv else (fun _ => (0 : Int32)) ii
def own_law_203bbb (p1 : Int32) (p2 : Int32) (p3 : Int32) (p4 : Int32) (p5 : Int32) (p6 : Int32) (xa : Int32) (xb : Int32) (xc : Int32) (wv : Int32) (ex : Int32) : Int32 := (if (own_shows (own_law0_g112 p1 p2 p3 p4 p5 p6 xa xb xc) (3 : Int32) p2) = ex then (1 : Int32) else (0 : Int32))
def own_law_142bbb (p1 : Int32) (p2 : Int32) (p3 : Int32) (p4 : Int32) (p5 : Int32) (p6 : Int32) (xa : Int32) (xb : Int32) (xc : Int32) (wv : Int32) : Int32 := (if (p1 &&& (3 : Int32)) < (1 : Int32) then (if (p1 &&& (3 : Int32)) < (2 : Int32) then (if (p1 &&& (3 : Int32)) < (3 : Int32) then (own_law_203bbb p1 p2 p3 p4 p5 p6 xa xb xc wv (0 : Int32)) else (if xc = p2 then (own_law_203bbb p1 p2 p3 p4 p5 p6 xa xb xc wv (1 : Int32)) else (own_law_203bbb p1 p2 p3 p4 p5 p6 xa xb xc wv (0 : Int32)))) else (if xb = p2 then (own_law_203bbb p1 p2 p3 p4 p5 p6 xa xb xc wv (1 : Int32)) else (if (p1 &&& (3 : Int32)) < (3 : Int32) then (own_law_203bbb p1 p2 p3 p4 p5 p6 xa xb xc wv (0 : Int32)) else (if xc = p2 then (own_law_203bbb p1 p2 p3 p4 p5 p6 xa xb xc wv (1 : Int32)) else (own_law_203bbb p1 p2 p3 p4 p5 p6 xa xb xc wv (0 : Int32)))))) else (if xa = p2 then (own_law_203bbb p1 p2 p3 p4 p5 p6 xa xb xc wv (1 : Int32)) else (if (p1 &&& (3 : Int32)) < (2 : Int32) then (if (p1 &&& (3 : Int32)) < (3 : Int32) then (own_law_203bbb p1 p2 p3 p4 p5 p6 xa xb xc wv (0 : Int32)) else (if xc = p2 then (own_law_203bbb p1 p2 p3 p4 p5 p6 xa xb xc wv (1 : Int32)) else (own_law_203bbb p1 p2 p3 p4 p5 p6 xa xb xc wv (0 : Int32)))) else (if xb = p2 then (own_law_203bbb p1 p2 p3 p4 p5 p6 xa xb xc wv (1 : Int32)) else (if (p1 &&& (3 : Int32)) < (3 : Int32) then (own_law_203bbb p1 p2 p3 p4 p5 p6 xa xb xc wv (0 : Int32)) else (if xc = p2 then (own_law_203bbb p1 p2 p3 p4 p5 p6 xa xb xc wv (1 : Int32)) else (own_law_203bbb p1 p2 p3 p4 p5 p6 xa xb xc wv (0 : Int32))))))))
def own_law_46 (p1 : Int32) (p2 : Int32) (p3 : Int32) (p4 : Int32) (p5 : Int32) (p6 : Int32) (xa : Int32) (xb : Int32) (xc : Int32) : Int32 := (if (p1 &&& (3 : Int32)) = (0 : Int32) then (if (p6 &&& (8 : Int32)) = (0 : Int32) then (own_law_142 p1 p2 p3 p4 p5 p6 xa xb xc p4) else (own_law_142 p1 p2 p3 p4 p5 p6 xa xb xc p2)) else (if (p1 &&& (3 : Int32)) = (1 : Int32) then (if (p6 &&& (8 : Int32)) = (0 : Int32) then (own_law_142b p1 p2 p3 p4 p5 p6 xa xb xc p4) else (own_law_142b p1 p2 p3 p4 p5 p6 xa xb xc p2)) else (if (p1 &&& (3 : Int32)) = (2 : Int32) then (if (p6 &&& (8 : Int32)) = (0 : Int32) then (own_law_142bb p1 p2 p3 p4 p5 p6 xa xb xc p4) else (own_law_142bb p1 p2 p3 p4 p5 p6 xa xb xc p2)) else (if (p6 &&& (8 : Int32)) = (0 : Int32) then (own_law_142bbb p1 p2 p3 p4 p5 p6 xa xb xc p4) else (own_law_142bbb p1 p2 p3 p4 p5 p6 xa xb xc p2)))))
def own_law_31 (p1 : Int32) (p2 : Int32) (p3 : Int32) (p4 : Int32) (p5 : Int32) (p6 : Int32) (xa : Int32) (xb : Int32) : Int32 := (if (p6 &&& (4 : Int32)) = (0 : Int32) then (own_law_46 p1 p2 p3 p4 p5 p6 xa xb p5) else (own_law_46 p1 p2 p3 p4 p5 p6 xa xb p2))
def own_law_17 (p1 : Int32) (p2 : Int32) (p3 : Int32) (p4 : Int32) (p5 : Int32) (p6 : Int32) (xa : Int32) : Int32 := (if (p6 &&& (2 : Int32)) = (0 : Int32) then (own_law_31 p1 p2 p3 p4 p5 p6 xa p4) else (own_law_31 p1 p2 p3 p4 p5 p6 xa p2))
def own_law (p1 : Int32) (p2 : Int32) (p3 : Int32) (p4 : Int32) (p5 : Int32) (p6 : Int32) : Int32 := (if (p6 &&& (1 : Int32)) = (0 : Int32) then (own_law_17 p1 p2 p3 p4 p5 p6 p3) else (own_law_17 p1 p2 p3 p4 p5 p6 p2))
theorem pn_0 : plainName "com/example/scratchline/scratchline/game/FaceShowsBonusPinLaw" = true := by first | (simp [plainName, overriddenIn]; done) | decide +kernel
theorem pd_0_0 : parseMethodDescriptor "([II[I[J)V" = some ⟨[(.array .int), .int, (.array .int), (.array .long)], none⟩ := by decide +kernel
theorem pd_0_1 : parseMethodDescriptor "()Z" = some ⟨[], some .boolean⟩ := by decide +kernel
theorem ef_0 (m : MethodId) (x0 : Int32) (x1 : Int32) (x2 : Int32) (x3 : Int32) (x4 : Int32) (x5 : Int32) : entryFrame m #[(.int x0), (.int x1), (.int x2), (.int x3), (.int x4), (.int x5)] maxLocals = mkF m 0 #[.val (.int x0), .val (.int x1), .val (.int x2), .val (.int x3), .val (.int x4), .val (.int x5), .unset, .unset, .unset, .unset, .unset, .unset, .unset, .unset] [] := by first | (simp [entryFrame, mkF, argsToLocals, Value.category, maxLocals]; done) | rfl
def Q0 (Z : State) (p1 : Int32) (p2 : Int32) (p3 : Int32) (p4 : Int32) (p5 : Int32) (p6 : Int32) (h0 : Heap) (n0 : Nat) (v : Option Value) (h : Heap) (L : List Loc) : Prop := v = some (.int (own_law p1 p2 p3 p4 p5 p6)) ∧ Fr n0 L
set_option maxRecDepth 65536 in
set_option maxHeartbeats 40000000 in
theorem rm0 (l : Launch) (Z : State) (a0 : Array Value) (hw : ∀ d ∈ tables_1, d.before a0 Z = true) (ws : List Jvm.Cond) (p1 : Int32) (p2 : Int32) (p3 : Int32) (p4 : Int32) (p5 : Int32) (p6 : Int32) (h0 : Heap) (n0 : Nat) (Z0 : n0 ≤ h0.size) :
    MetFree l x (head1 (Jvm.Cond.code x code maxLocals ret :: ws) room_1) (fun a U => a = #[(.int p1), (.int p2), (.int p3), (.int p4), (.int p5), (.int p6)] ∧ Z.Warmed39 U.vm ∧ U.heap = h0) (fun _ _ _ _ _ => True) (fun _ U o U' => ∃ v L, o = .returned v ∧ Q0 Z p1 p2 p3 p4 p5 p6 h0 n0 v U'.heap L ∧ FrameEnd U o U' L room_1.cells room_1.slots) := by
  refine MetFree.of_bodySF (plainFor_of_name pn_0) hisR ?_
  intro p e s m args below meth c s₁ Bd hml0 hP hK
  obtain ⟨rfl, hZ, hh⟩ := hP
  have hx := Bd.exec
  have hby := Bd.bytes
  have hml : c.maxLocals = 14 := hml0
  have hown : s.vm.findClass "com/example/scratchline/scratchline/game/FaceShowsBonusPinLaw" = some m.cls := findClass_of_methodNamed Bd.named
  have hnm := (name_of_methodNamed Bd.named Bd.method).1
  have X0 : Stand p l e room_1 s m #[(.int p1), (.int p2), (.int p3), (.int p4), (.int p5), (.int p6)] below meth c s₁ [] 0 0 := Stand.of_body Bd
  have e0 : s₁.heap = h0 := by rw [← hh, Bd.state]; rfl
  have N0 := Fr.nil n0
  show own_End p e below s (s₁.setTop (entryFrame m #[(.int p1), (.int p2), (.int p3), (.int p4), (.int p5), (.int p6)] maxLocals)) (Q0 Z p1 p2 p3 p4 p5 p6 h0 n0) room_1.cells room_1.slots
  refine own_pre (A := s₁.setTop (mkF m 0 #[.val (.int p1), .val (.int p2), .val (.int p3), .val (.int p4), .val (.int p5), .val (.int p6), .unset, .unset, .unset, .unset, .unset, .unset, .unset, .unset] [])) (fun tt kt => castTop (ef_0 m p1 p2 p3 p4 p5 p6) kt) ?_
  show own_End p e below s (s₁.setTop (mkF m 0 #[.val (.int p1), .val (.int p2), .val (.int p3), .val (.int p4), .val (.int p5), .val (.int p6), .unset, .unset, .unset, .unset, .unset, .unset, .unset, .unset] [])) (Q0 Z p1 p2 p3 p4 p5 p6 h0 n0) room_1.cells room_1.slots
  have hj : own_law p1 p2 p3 p4 p5 p6 = own_law p1 p2 p3 p4 p5 p6 := rfl
  refine own_pre (A := s₁.setTop (mkF m 9 #[.val (.int p1), .val (.int p2), .val (.int p3), .val (.int p4), .val (.int p5), .val (.int p6), .val (.int (p1 &&& (3 : Int32))), .unset, .unset, .unset, .unset, .unset, .unset, .unset] [(.int (p6 &&& (1 : Int32)))])) (fun tt kt => ?_) ?_
  · show Steps p.tables e below (s₁.setTop (mkF m 0 #[.val (.int p1), .val (.int p2), .val (.int p3), .val (.int p4), .val (.int p5), .val (.int p6), .unset, .unset, .unset, .unset, .unset, .unset, .unset, .unset] [])) _
    refine XS.iloadN X0.here hx rfl (hb hby at_0) rfl ?_
    show Steps p.tables e below (s₁.setTop (mkF m 1 #[.val (.int p1), .val (.int p2), .val (.int p3), .val (.int p4), .val (.int p5), .val (.int p6), .unset, .unset, .unset, .unset, .unset, .unset, .unset, .unset] [(.int p1)])) _
    refine XS.iconst X0.here hx rfl (hb hby at_1) ?_
    show Steps p.tables e below (s₁.setTop (mkF m 2 #[.val (.int p1), .val (.int p2), .val (.int p3), .val (.int p4), .val (.int p5), .val (.int p6), .unset, .unset, .unset, .unset, .unset, .unset, .unset, .unset] [(.int (3 : Int32)), (.int p1)])) _
    refine XS.iand X0.here hx rfl (hb hby at_2) rfl ?_
    show Steps p.tables e below (s₁.setTop (mkF m 3 #[.val (.int p1), .val (.int p2), .val (.int p3), .val (.int p4), .val (.int p5), .val (.int p6), .unset, .unset, .unset, .unset, .unset, .unset, .unset, .unset] [(.int (p1 &&& (3 : Int32)))])) _
    refine XS.istore X0.here hx rfl (hb hby at_3) rfl (l' := #[.val (.int p1), .val (.int p2), .val (.int p3), .val (.int p4), .val (.int p5), .val (.int p6), .val (.int (p1 &&& (3 : Int32))), .unset, .unset, .unset, .unset, .unset, .unset, .unset]) rfl ?_
    show Steps p.tables e below (s₁.setTop (mkF m 5 #[.val (.int p1), .val (.int p2), .val (.int p3), .val (.int p4), .val (.int p5), .val (.int p6), .val (.int (p1 &&& (3 : Int32))), .unset, .unset, .unset, .unset, .unset, .unset, .unset] [])) _
    refine XS.iload X0.here hx rfl (hb hby at_5) rfl ?_
    show Steps p.tables e below (s₁.setTop (mkF m 7 #[.val (.int p1), .val (.int p2), .val (.int p3), .val (.int p4), .val (.int p5), .val (.int p6), .val (.int (p1 &&& (3 : Int32))), .unset, .unset, .unset, .unset, .unset, .unset, .unset] [(.int p6)])) _
    refine XS.iconst X0.here hx rfl (hb hby at_7) ?_
    show Steps p.tables e below (s₁.setTop (mkF m 8 #[.val (.int p1), .val (.int p2), .val (.int p3), .val (.int p4), .val (.int p5), .val (.int p6), .val (.int (p1 &&& (3 : Int32))), .unset, .unset, .unset, .unset, .unset, .unset, .unset] [(.int (1 : Int32)), (.int p6)])) _
    refine XS.iand X0.here hx rfl (hb hby at_8) rfl ?_
    exact kt
  show own_End p e below s (s₁.setTop (mkF m 9 #[.val (.int p1), .val (.int p2), .val (.int p3), .val (.int p4), .val (.int p5), .val (.int p6), .val (.int (p1 &&& (3 : Int32))), .unset, .unset, .unset, .unset, .unset, .unset, .unset] [(.int (p6 &&& (1 : Int32)))])) (Q0 Z p1 p2 p3 p4 p5 p6 h0 n0) room_1.cells room_1.slots
  have j17 : ∀ (Tj17 : State) (Lj17 : List Loc) (Xj17 : Stand p l e room_1 s m #[(.int p1), (.int p2), (.int p3), (.int p4), (.int p5), (.int p6)] below meth c Tj17 Lj17 0 0) (ej17 : Tj17.heap = h0) (Nj17 : Fr n0 Lj17) (xa : Int32) , own_law p1 p2 p3 p4 p5 p6 = own_law_17 p1 p2 p3 p4 p5 p6 xa → own_End p e below s (Tj17.setTop (mkF m 17 #[.val (.int p1), .val (.int p2), .val (.int p3), .val (.int p4), .val (.int p5), .val (.int p6), .val (.int (p1 &&& (3 : Int32))), .unset, .unset, .unset, .unset, .unset, .unset, .unset] [(.int xa)])) (Q0 Z p1 p2 p3 p4 p5 p6 h0 n0) room_1.cells room_1.slots := by
    intro Tj17 Lj17 Xj17 ej17 Nj17 xa  hj
    refine own_pre (A := Tj17.setTop (mkF m 23 #[.val (.int p1), .val (.int p2), .val (.int p3), .val (.int p4), .val (.int p5), .val (.int p6), .val (.int (p1 &&& (3 : Int32))), .val (.int xa), .unset, .unset, .unset, .unset, .unset, .unset] [(.int (p6 &&& (2 : Int32)))])) (fun tt kt => ?_) ?_
    · show Steps p.tables e below (Tj17.setTop (mkF m 17 #[.val (.int p1), .val (.int p2), .val (.int p3), .val (.int p4), .val (.int p5), .val (.int p6), .val (.int (p1 &&& (3 : Int32))), .unset, .unset, .unset, .unset, .unset, .unset, .unset] [(.int xa)])) _
      refine XS.istore Xj17.here hx rfl (hb hby at_17) rfl (l' := #[.val (.int p1), .val (.int p2), .val (.int p3), .val (.int p4), .val (.int p5), .val (.int p6), .val (.int (p1 &&& (3 : Int32))), .val (.int xa), .unset, .unset, .unset, .unset, .unset, .unset]) rfl ?_
      show Steps p.tables e below (Tj17.setTop (mkF m 19 #[.val (.int p1), .val (.int p2), .val (.int p3), .val (.int p4), .val (.int p5), .val (.int p6), .val (.int (p1 &&& (3 : Int32))), .val (.int xa), .unset, .unset, .unset, .unset, .unset, .unset] [])) _
      refine XS.iload Xj17.here hx rfl (hb hby at_19) rfl ?_
      show Steps p.tables e below (Tj17.setTop (mkF m 21 #[.val (.int p1), .val (.int p2), .val (.int p3), .val (.int p4), .val (.int p5), .val (.int p6), .val (.int (p1 &&& (3 : Int32))), .val (.int xa), .unset, .unset, .unset, .unset, .unset, .unset] [(.int p6)])) _
      refine XS.iconst Xj17.here hx rfl (hb hby at_21) ?_
      show Steps p.tables e below (Tj17.setTop (mkF m 22 #[.val (.int p1), .val (.int p2), .val (.int p3), .val (.int p4), .val (.int p5), .val (.int p6), .val (.int (p1 &&& (3 : Int32))), .val (.int xa), .unset, .unset, .unset, .unset, .unset, .unset] [(.int (2 : Int32)), (.int p6)])) _
      refine XS.iand Xj17.here hx rfl (hb hby at_22) rfl ?_
      exact kt
    show own_End p e below s (Tj17.setTop (mkF m 23 #[.val (.int p1), .val (.int p2), .val (.int p3), .val (.int p4), .val (.int p5), .val (.int p6), .val (.int (p1 &&& (3 : Int32))), .val (.int xa), .unset, .unset, .unset, .unset, .unset, .unset] [(.int (p6 &&& (2 : Int32)))])) (Q0 Z p1 p2 p3 p4 p5 p6 h0 n0) room_1.cells room_1.slots
    have j31 : ∀ (Tj31 : State) (Lj31 : List Loc) (Xj31 : Stand p l e room_1 s m #[(.int p1), (.int p2), (.int p3), (.int p4), (.int p5), (.int p6)] below meth c Tj31 Lj31 0 0) (ej31 : Tj31.heap = h0) (Nj31 : Fr n0 Lj31) (xb : Int32) , own_law p1 p2 p3 p4 p5 p6 = own_law_31 p1 p2 p3 p4 p5 p6 xa xb → own_End p e below s (Tj31.setTop (mkF m 31 #[.val (.int p1), .val (.int p2), .val (.int p3), .val (.int p4), .val (.int p5), .val (.int p6), .val (.int (p1 &&& (3 : Int32))), .val (.int xa), .unset, .unset, .unset, .unset, .unset, .unset] [(.int xb)])) (Q0 Z p1 p2 p3 p4 p5 p6 h0 n0) room_1.cells room_1.slots := by
      intro Tj31 Lj31 Xj31 ej31 Nj31 xb  hj
      refine own_pre (A := Tj31.setTop (mkF m 37 #[.val (.int p1), .val (.int p2), .val (.int p3), .val (.int p4), .val (.int p5), .val (.int p6), .val (.int (p1 &&& (3 : Int32))), .val (.int xa), .val (.int xb), .unset, .unset, .unset, .unset, .unset] [(.int (p6 &&& (4 : Int32)))])) (fun tt kt => ?_) ?_
      · show Steps p.tables e below (Tj31.setTop (mkF m 31 #[.val (.int p1), .val (.int p2), .val (.int p3), .val (.int p4), .val (.int p5), .val (.int p6), .val (.int (p1 &&& (3 : Int32))), .val (.int xa), .unset, .unset, .unset, .unset, .unset, .unset] [(.int xb)])) _
        refine XS.istore Xj31.here hx rfl (hb hby at_31) rfl (l' := #[.val (.int p1), .val (.int p2), .val (.int p3), .val (.int p4), .val (.int p5), .val (.int p6), .val (.int (p1 &&& (3 : Int32))), .val (.int xa), .val (.int xb), .unset, .unset, .unset, .unset, .unset]) rfl ?_
        show Steps p.tables e below (Tj31.setTop (mkF m 33 #[.val (.int p1), .val (.int p2), .val (.int p3), .val (.int p4), .val (.int p5), .val (.int p6), .val (.int (p1 &&& (3 : Int32))), .val (.int xa), .val (.int xb), .unset, .unset, .unset, .unset, .unset] [])) _
        refine XS.iload Xj31.here hx rfl (hb hby at_33) rfl ?_
        show Steps p.tables e below (Tj31.setTop (mkF m 35 #[.val (.int p1), .val (.int p2), .val (.int p3), .val (.int p4), .val (.int p5), .val (.int p6), .val (.int (p1 &&& (3 : Int32))), .val (.int xa), .val (.int xb), .unset, .unset, .unset, .unset, .unset] [(.int p6)])) _
        refine XS.iconst Xj31.here hx rfl (hb hby at_35) ?_
        show Steps p.tables e below (Tj31.setTop (mkF m 36 #[.val (.int p1), .val (.int p2), .val (.int p3), .val (.int p4), .val (.int p5), .val (.int p6), .val (.int (p1 &&& (3 : Int32))), .val (.int xa), .val (.int xb), .unset, .unset, .unset, .unset, .unset] [(.int (4 : Int32)), (.int p6)])) _
        refine XS.iand Xj31.here hx rfl (hb hby at_36) rfl ?_
        exact kt
      show own_End p e below s (Tj31.setTop (mkF m 37 #[.val (.int p1), .val (.int p2), .val (.int p3), .val (.int p4), .val (.int p5), .val (.int p6), .val (.int (p1 &&& (3 : Int32))), .val (.int xa), .val (.int xb), .unset, .unset, .unset, .unset, .unset] [(.int (p6 &&& (4 : Int32)))])) (Q0 Z p1 p2 p3 p4 p5 p6 h0 n0) room_1.cells room_1.slots
      have j46 : ∀ (Tj46 : State) (Lj46 : List Loc) (Xj46 : Stand p l e room_1 s m #[(.int p1), (.int p2), (.int p3), (.int p4), (.int p5), (.int p6)] below meth c Tj46 Lj46 0 0) (ej46 : Tj46.heap = h0) (Nj46 : Fr n0 Lj46) (xc : Int32) , own_law p1 p2 p3 p4 p5 p6 = own_law_46 p1 p2 p3 p4 p5 p6 xa xb xc → own_End p e below s (Tj46.setTop (mkF m 46 #[.val (.int p1), .val (.int p2), .val (.int p3), .val (.int p4), .val (.int p5), .val (.int p6), .val (.int (p1 &&& (3 : Int32))), .val (.int xa), .val (.int xb), .unset, .unset, .unset, .unset, .unset] [(.int xc)])) (Q0 Z p1 p2 p3 p4 p5 p6 h0 n0) room_1.cells room_1.slots := by
        intro Tj46 Lj46 Xj46 ej46 Nj46 xc  hj
        refine own_pre (A := Tj46.setTop (mkF m 50 #[.val (.int p1), .val (.int p2), .val (.int p3), .val (.int p4), .val (.int p5), .val (.int p6), .val (.int (p1 &&& (3 : Int32))), .val (.int xa), .val (.int xb), .val (.int xc), .unset, .unset, .unset, .unset] [(.int (p1 &&& (3 : Int32)))])) (fun tt kt => ?_) ?_
        · show Steps p.tables e below (Tj46.setTop (mkF m 46 #[.val (.int p1), .val (.int p2), .val (.int p3), .val (.int p4), .val (.int p5), .val (.int p6), .val (.int (p1 &&& (3 : Int32))), .val (.int xa), .val (.int xb), .unset, .unset, .unset, .unset, .unset] [(.int xc)])) _
          refine XS.istore Xj46.here hx rfl (hb hby at_46) rfl (l' := #[.val (.int p1), .val (.int p2), .val (.int p3), .val (.int p4), .val (.int p5), .val (.int p6), .val (.int (p1 &&& (3 : Int32))), .val (.int xa), .val (.int xb), .val (.int xc), .unset, .unset, .unset, .unset]) rfl ?_
          show Steps p.tables e below (Tj46.setTop (mkF m 48 #[.val (.int p1), .val (.int p2), .val (.int p3), .val (.int p4), .val (.int p5), .val (.int p6), .val (.int (p1 &&& (3 : Int32))), .val (.int xa), .val (.int xb), .val (.int xc), .unset, .unset, .unset, .unset] [])) _
          refine XS.iload Xj46.here hx rfl (hb hby at_48) rfl ?_
          exact kt
        show own_End p e below s (Tj46.setTop (mkF m 50 #[.val (.int p1), .val (.int p2), .val (.int p3), .val (.int p4), .val (.int p5), .val (.int p6), .val (.int (p1 &&& (3 : Int32))), .val (.int xa), .val (.int xb), .val (.int xc), .unset, .unset, .unset, .unset] [(.int (p1 &&& (3 : Int32)))])) (Q0 Z p1 p2 p3 p4 p5 p6 h0 n0) room_1.cells room_1.slots
        by_cases hc50_1 : (p1 &&& (3 : Int32)) = (0 : Int32)
        · obtain ⟨T2, h2, k2, X2, e2, E2, A2, st2⟩ := newP Xj46 hx hZ (hw _ (List.mem_of_getElem? (i := 0) rfl)) ej46 (g := (mkF m 54 #[.val (.int p1), .val (.int p2), .val (.int p3), .val (.int p4), .val (.int p5), .val (.int p6), .val (.int (p1 &&& (3 : Int32))), .val (.int xa), .val (.int xb), .val (.int xc), .unset, .unset, .unset, .unset] [(.int (0 : Int32))])) rfl (hb hby at_54) rfl (by decide) (cap := 0) (by decide) (by decide) (by decide) (by decide)
          obtain ⟨b2, g2⟩ : ∃ z, z = h0.size := ⟨_, rfl⟩
          rw [← g2] at A2 st2
          have g_b2 : n0 ≤ b2 := Nat.le_trans Z0 (Nat.le_of_eq g2.symm)
          have sz_b2 : h0.size ≤ b2 := Nat.le_trans (show Keep h0 h0 [] from (Keep.refl h0 _)).1 (Nat.le_of_eq g2.symm)
          have K2 : Keep h0 h2 [] := Keep.ext (Keep.refl h0 _) E2
          have Z2 : n0 ≤ h2.size := Nat.le_trans Z0 E2.1
          have V2 : own_Arr Z h2 b2 .int (0 : Int32) (fun i => Value.int ((fun _ => (0 : Int32)) i)) := own_Arr.new A2 (by decide) (fun _ => rfl)
          obtain ⟨T3, h3, k3, X3, e3, E3, A3, st3⟩ := newP X2 hx hZ (hw _ (List.mem_of_getElem? (i := 0) rfl)) e2 (g := (mkF m 125 #[.val (.int p1), .val (.int p2), .val (.int p3), .val (.int p4), .val (.int p5), .val (.int p6), .val (.int (p1 &&& (3 : Int32))), .val (.int xa), .val (.int xb), .val (.int xc), .val (.ref b2), .unset, .unset, .unset] [(.int (1 : Int32))])) rfl (hb hby at_125) rfl (by decide) (cap := 1) (by decide) (by decide) (by decide) (by decide)
          obtain ⟨b3, g3⟩ : ∃ z, z = h2.size := ⟨_, rfl⟩
          rw [← g3] at A3 st3
          have ne_b2_b3 : b2 ≠ b3 := Nat.ne_of_lt (Nat.lt_of_lt_of_le V2.lt (Nat.le_of_eq g3.symm))
          have g_b3 : n0 ≤ b3 := Nat.le_trans Z2 (Nat.le_of_eq g3.symm)
          have sz_b3 : h0.size ≤ b3 := Nat.le_trans (show Keep h0 h2 [] from K2).1 (Nat.le_of_eq g3.symm)
          have fA_b2_x3 := (V2.ext E3)
          have K3 : Keep h0 h3 [] := Keep.ext K2 E3
          have Z3 : n0 ≤ h3.size := Nat.le_trans Z2 E3.1
          have V3 : own_Arr Z h3 b3 .int (1 : Int32) (fun i => Value.int ((fun _ => (0 : Int32)) i)) := own_Arr.new A3 (by decide) (fun _ => rfl)
          refine own_pre (A := T3.setTop (mkF m 134 #[.val (.int p1), .val (.int p2), .val (.int p3), .val (.int p4), .val (.int p5), .val (.int p6), .val (.int (p1 &&& (3 : Int32))), .val (.int xa), .val (.int xb), .val (.int xc), .val (.ref b2), .unset, .unset, .unset] [(.int (p6 &&& (8 : Int32))), (.int (0 : Int32)), (.ref b3), (.ref b3)])) (fun tt kt => ?_) ?_
          · show Steps p.tables e below (Tj46.setTop (mkF m 50 #[.val (.int p1), .val (.int p2), .val (.int p3), .val (.int p4), .val (.int p5), .val (.int p6), .val (.int (p1 &&& (3 : Int32))), .val (.int xa), .val (.int xb), .val (.int xc), .unset, .unset, .unset, .unset] [(.int (p1 &&& (3 : Int32)))])) _
            refine XS.ifNo Xj46.here hx rfl (hb hby at_50) rfl ((if0 _ _).trans (teq hc50_1).2) ?_
            show Steps p.tables e below (Tj46.setTop (mkF m 53 #[.val (.int p1), .val (.int p2), .val (.int p3), .val (.int p4), .val (.int p5), .val (.int p6), .val (.int (p1 &&& (3 : Int32))), .val (.int xa), .val (.int xb), .val (.int xc), .unset, .unset, .unset, .unset] [])) _
            refine XS.iconst Xj46.here hx rfl (hb hby at_53) ?_
            show Steps p.tables e below (Tj46.setTop (mkF m 54 #[.val (.int p1), .val (.int p2), .val (.int p3), .val (.int p4), .val (.int p5), .val (.int p6), .val (.int (p1 &&& (3 : Int32))), .val (.int xa), .val (.int xb), .val (.int xc), .unset, .unset, .unset, .unset] [(.int (0 : Int32))])) _
            refine st2 _ ?_
            show Steps p.tables e below (T2.setTop (mkF m 56 #[.val (.int p1), .val (.int p2), .val (.int p3), .val (.int p4), .val (.int p5), .val (.int p6), .val (.int (p1 &&& (3 : Int32))), .val (.int xa), .val (.int xb), .val (.int xc), .unset, .unset, .unset, .unset] [(.ref b2)])) _
            refine XS.astore X2.here hx rfl (hb hby at_56) rfl rfl (l' := #[.val (.int p1), .val (.int p2), .val (.int p3), .val (.int p4), .val (.int p5), .val (.int p6), .val (.int (p1 &&& (3 : Int32))), .val (.int xa), .val (.int xb), .val (.int xc), .val (.ref b2), .unset, .unset, .unset]) rfl ?_
            show Steps p.tables e below (T2.setTop (mkF m 58 #[.val (.int p1), .val (.int p2), .val (.int p3), .val (.int p4), .val (.int p5), .val (.int p6), .val (.int (p1 &&& (3 : Int32))), .val (.int xa), .val (.int xb), .val (.int xc), .val (.ref b2), .unset, .unset, .unset] [])) _
            refine XS.goto X2.here hx rfl (pc0 := 58) (pc' := 124) rfl (hb hby at_58) (by decide) (by decide) ?_
            show Steps p.tables e below (T2.setTop (mkF m 124 #[.val (.int p1), .val (.int p2), .val (.int p3), .val (.int p4), .val (.int p5), .val (.int p6), .val (.int (p1 &&& (3 : Int32))), .val (.int xa), .val (.int xb), .val (.int xc), .val (.ref b2), .unset, .unset, .unset] [])) _
            refine XS.iconst X2.here hx rfl (hb hby at_124) ?_
            show Steps p.tables e below (T2.setTop (mkF m 125 #[.val (.int p1), .val (.int p2), .val (.int p3), .val (.int p4), .val (.int p5), .val (.int p6), .val (.int (p1 &&& (3 : Int32))), .val (.int xa), .val (.int xb), .val (.int xc), .val (.ref b2), .unset, .unset, .unset] [(.int (1 : Int32))])) _
            refine st3 _ ?_
            show Steps p.tables e below (T3.setTop (mkF m 127 #[.val (.int p1), .val (.int p2), .val (.int p3), .val (.int p4), .val (.int p5), .val (.int p6), .val (.int (p1 &&& (3 : Int32))), .val (.int xa), .val (.int xb), .val (.int xc), .val (.ref b2), .unset, .unset, .unset] [(.ref b3)])) _
            refine XS.dup X3.here hx rfl (hb hby at_127) rfl rfl ?_
            show Steps p.tables e below (T3.setTop (mkF m 128 #[.val (.int p1), .val (.int p2), .val (.int p3), .val (.int p4), .val (.int p5), .val (.int p6), .val (.int (p1 &&& (3 : Int32))), .val (.int xa), .val (.int xb), .val (.int xc), .val (.ref b2), .unset, .unset, .unset] [(.ref b3), (.ref b3)])) _
            refine XS.iconst X3.here hx rfl (hb hby at_128) ?_
            show Steps p.tables e below (T3.setTop (mkF m 129 #[.val (.int p1), .val (.int p2), .val (.int p3), .val (.int p4), .val (.int p5), .val (.int p6), .val (.int (p1 &&& (3 : Int32))), .val (.int xa), .val (.int xb), .val (.int xc), .val (.ref b2), .unset, .unset, .unset] [(.int (0 : Int32)), (.ref b3), (.ref b3)])) _
            refine XS.iload X3.here hx rfl (hb hby at_129) rfl ?_
            show Steps p.tables e below (T3.setTop (mkF m 131 #[.val (.int p1), .val (.int p2), .val (.int p3), .val (.int p4), .val (.int p5), .val (.int p6), .val (.int (p1 &&& (3 : Int32))), .val (.int xa), .val (.int xb), .val (.int xc), .val (.ref b2), .unset, .unset, .unset] [(.int p6), (.int (0 : Int32)), (.ref b3), (.ref b3)])) _
            refine XS.bipush X3.here hx rfl (hb hby at_131) ?_
            show Steps p.tables e below (T3.setTop (mkF m 133 #[.val (.int p1), .val (.int p2), .val (.int p3), .val (.int p4), .val (.int p5), .val (.int p6), .val (.int (p1 &&& (3 : Int32))), .val (.int xa), .val (.int xb), .val (.int xc), .val (.ref b2), .unset, .unset, .unset] [(.int (8 : Int32)), (.int p6), (.int (0 : Int32)), (.ref b3), (.ref b3)])) _
            refine XS.iand X3.here hx rfl (hb hby at_133) rfl ?_
            exact kt
          show own_End p e below s (T3.setTop (mkF m 134 #[.val (.int p1), .val (.int p2), .val (.int p3), .val (.int p4), .val (.int p5), .val (.int p6), .val (.int (p1 &&& (3 : Int32))), .val (.int xa), .val (.int xb), .val (.int xc), .val (.ref b2), .unset, .unset, .unset] [(.int (p6 &&& (8 : Int32))), (.int (0 : Int32)), (.ref b3), (.ref b3)])) (Q0 Z p1 p2 p3 p4 p5 p6 h0 n0) room_1.cells room_1.slots
          have j142 : ∀ (Tj142 : State) (Lj142 : List Loc) (Xj142 : Stand p l e room_1 s m #[(.int p1), (.int p2), (.int p3), (.int p4), (.int p5), (.int p6)] below meth c Tj142 Lj142 2 1) (ej142 : Tj142.heap = h3) (Nj142 : Fr n0 Lj142) (wv : Int32) , own_law p1 p2 p3 p4 p5 p6 = own_law_142 p1 p2 p3 p4 p5 p6 xa xb xc wv → own_End p e below s (Tj142.setTop (mkF m 142 #[.val (.int p1), .val (.int p2), .val (.int p3), .val (.int p4), .val (.int p5), .val (.int p6), .val (.int (p1 &&& (3 : Int32))), .val (.int xa), .val (.int xb), .val (.int xc), .val (.ref b2), .unset, .unset, .unset] [(.int wv), (.int (0 : Int32)), (.ref b3), (.ref b3)])) (Q0 Z p1 p2 p3 p4 p5 p6 h0 n0) room_1.cells room_1.slots := by
            intro Tj142 Lj142 Xj142 ej142 Nj142 wv  hj
            obtain ⟨cl4, Ar4, S4, Nn4, G4⟩ := id V3
            have hin4 : ¬ ((0 : Int32) < 0 ∨ cl4.slots.size ≤ (0 : Int32).toNatClampNeg) := inb_of S4 (⟨by decide, by decide⟩ : ¬ (0 : Int32) < 0 ∧ (0 : Int32) < (1 : Int32))
            obtain ⟨T5, h5, X5, e5, W5, st5⟩ := stI Xj142 hx hZ ej142 Ar4 (j := (0 : Int32)) hin4 (g := (mkF m 142 #[.val (.int p1), .val (.int p2), .val (.int p3), .val (.int p4), .val (.int p5), .val (.int p6), .val (.int (p1 &&& (3 : Int32))), .val (.int xa), .val (.int xb), .val (.int xc), .val (.ref b2), .unset, .unset, .unset] [(.int wv), (.int (0 : Int32)), (.ref b3), (.ref b3)])) rfl rfl (hb hby at_142)
            have fA_b2_x5 := (fA_b2_x3.other W5 ne_b2_b3)
            have V5 : own_Arr Z h5 b3 .int (1 : Int32) (fun i => Value.int ((own_law0_g6 p1 p2 p3 p4 p5 p6 xa xb xc wv) i)) := own_Arr.set (w := Value.int) (g := (fun _ => (0 : Int32))) (x := wv) V3 W5 rfl (fun i => rfl)
            have N5 := Fr.snoc X5 Nj142 g_b3
            have K5 : Keep h0 h5 [] := Keep.wr K3 W5 (Or.inr sz_b3)
            have Z5 : n0 ≤ h5.size := Nat.le_trans Z3 (Nat.le_of_eq W5.size.symm)
            obtain ⟨T7, h7, X7, e7, E7, A7, D7, -, st7⟩ := newO X5 hx hZ hown (hw _ (List.mem_of_getElem? (i := 1) rfl)) (hw _ (List.mem_of_getElem? (i := 2) rfl)) (hw _ (List.mem_of_getElem? (i := 3) rfl)) e5 (g := (mkF m 145 #[.val (.int p1), .val (.int p2), .val (.int p3), .val (.int p4), .val (.int p5), .val (.int p6), .val (.int (p1 &&& (3 : Int32))), .val (.int xa), .val (.int xb), .val (.int xc), .val (.ref b2), .val (.ref b3), .unset, .unset] [])) rfl (hb hby at_145) (by decide) (by decide)
            obtain ⟨b7, g7⟩ : ∃ z, z = h5.size := ⟨_, rfl⟩
            rw [← g7] at A7 D7 st7
            have ne_b2_b7 : b2 ≠ b7 := Nat.ne_of_lt (Nat.lt_of_lt_of_le fA_b2_x5.lt (Nat.le_of_eq g7.symm))
            have ne_b3_b7 : b3 ≠ b7 := Nat.ne_of_lt (Nat.lt_of_lt_of_le V5.lt (Nat.le_of_eq g7.symm))
            have g_b7 : n0 ≤ b7 := Nat.le_trans Z5 (Nat.le_of_eq g7.symm)
            have sz_b7 : h0.size ≤ b7 := Nat.le_trans (show Keep h0 h5 [] from K5).1 (Nat.le_of_eq g7.symm)
            have fA_b2_x7 := (fA_b2_x5.ext E7)
            have fA_b3_x7 := (V5.ext E7)
            have K7 : Keep h0 h7 [] := Keep.ext K5 E7
            have Z7 : n0 ≤ h7.size := Nat.le_trans Z5 E7.1
            have F_winning_b7 : Fld Z h7 b7 "com/example/scratchline/scratchline/game/Face" "winning" "[I" .null := D7 (Or.inr (hw _ (List.mem_of_getElem? (i := 12) rfl))) (ty := (.array .int)) (by decide)
            have F_bonus_b7 : Fld Z h7 b7 "com/example/scratchline/scratchline/game/Face" "bonus" "I" (.int (0 : Int32)) := D7 (Or.inr (hw _ (List.mem_of_getElem? (i := 14) rfl))) (ty := .int) (by decide)
            have F_spots_b7 : Fld Z h7 b7 "com/example/scratchline/scratchline/game/Face" "spots" "[I" .null := D7 (Or.inr (hw _ (List.mem_of_getElem? (i := 16) rfl))) (ty := (.array .int)) (by decide)
            have F_prizes_b7 : Fld Z h7 b7 "com/example/scratchline/scratchline/game/Face" "prizes" "[J" .null := D7 (Or.inr (hw _ (List.mem_of_getElem? (i := 18) rfl))) (ty := (.array .long)) (by decide)
            obtain ⟨T8, h8, k8, X8, e8, E8, A8, st8⟩ := newP X7 hx hZ (hw _ (List.mem_of_getElem? (i := 4) rfl)) e7 (g := (mkF m 155 #[.val (.int p1), .val (.int p2), .val (.int p3), .val (.int p4), .val (.int p5), .val (.int p6), .val (.int (p1 &&& (3 : Int32))), .val (.int xa), .val (.int xb), .val (.int xc), .val (.ref b2), .val (.ref b3), .unset, .unset] [(.int (0 : Int32)), (.ref b2), (.int p2), (.ref b3), (.ref b7), (.ref b7)])) rfl (hb hby at_155) rfl (by decide) (cap := 0) (by decide) (by decide) (by decide) (by decide)
            obtain ⟨b8, g8⟩ : ∃ z, z = h7.size := ⟨_, rfl⟩
            rw [← g8] at A8 st8
            have ne_b2_b8 : b2 ≠ b8 := Nat.ne_of_lt (Nat.lt_of_lt_of_le fA_b2_x7.lt (Nat.le_of_eq g8.symm))
            have ne_b3_b8 : b3 ≠ b8 := Nat.ne_of_lt (Nat.lt_of_lt_of_le fA_b3_x7.lt (Nat.le_of_eq g8.symm))
            have ne_b7_b8 : b7 ≠ b8 := Nat.ne_of_lt (Nat.lt_of_lt_of_le A7.lt (Nat.le_of_eq g8.symm))
            have g_b8 : n0 ≤ b8 := Nat.le_trans Z7 (Nat.le_of_eq g8.symm)
            have sz_b8 : h0.size ≤ b8 := Nat.le_trans (show Keep h0 h7 [] from K7).1 (Nat.le_of_eq g8.symm)
            have fA_b2_x8 := (fA_b2_x7.ext E8)
            have fA_b3_x8 := (fA_b3_x7.ext E8)
            have fE_b7_x8 := (A7.ext E8)
            have fF_b7_winning_x8 := (F_winning_b7.ext E8)
            have fF_b7_bonus_x8 := (F_bonus_b7.ext E8)
            have fF_b7_spots_x8 := (F_spots_b7.ext E8)
            have fF_b7_prizes_x8 := (F_prizes_b7.ext E8)
            have K8 : Keep h0 h8 [] := Keep.ext K7 E8
            have Z8 : n0 ≤ h8.size := Nat.le_trans Z7 E8.1
            have V8 : own_Arr Z h8 b8 .long (0 : Int32) (fun i => Value.long ((fun _ => (0 : Int64)) i)) := own_Arr.new A8 (by decide) (fun _ => rfl)
            obtain ⟨_, _, ⟨T9, L9, k9, n9⟩, -, X9, ⟨Lc9, hQ9, l9, y9, z9⟩, st9⟩ := X8.specialBack hx (y := (⟨"com/example/scratchline/scratchline/game/Face", "<init>", "([II[I[J)V"⟩ : MethodName)) rfl hown (mvT hZ (hw _ (List.mem_of_getElem? (i := 5) rfl))) (mvT hZ (hw _ (List.mem_of_getElem? (i := 6) rfl))) (mvT hZ (hw _ (List.mem_of_getElem? (i := 7) rfl))) (by decide) (backOf (W := 1) (rm1 l Z a0 hw [] b7 b3 p2 b2 b8 (0 : Int32) h8 n0 Z8 ⟨fE_b7_x8, fF_b7_winning_x8, fF_b7_bonus_x8, fF_b7_spots_x8, fF_b7_prizes_x8⟩ g_b7) hZ (hw _ (List.mem_of_getElem? (i := 7) rfl)) (hw _ (List.mem_of_getElem? (i := 3) rfl)) (by decide) (by decide)) (g := (mkF m 157 #[.val (.int p1), .val (.int p2), .val (.int p3), .val (.int p4), .val (.int p5), .val (.int p6), .val (.int (p1 &&& (3 : Int32))), .val (.int xa), .val (.int xb), .val (.int xc), .val (.ref b2), .val (.ref b3), .unset, .unset] [(.ref b8), (.ref b2), (.int p2), (.ref b3), (.ref b7), (.ref b7)])) rfl (by rw [hml]; rfl) (Steps.refl _) (a := b7) (argsL := [(.ref b3), (.int p2), (.ref b2), (.ref b8)]) (rest := [(.ref b7)]) (lenOf pd_0_0 rfl) rfl (by show 2 * 0 + _ ≤ _; exact Nat.le_of_eq rfl) (hb hby at_157) (fun _ _ => ⟨rfl, e8, (by decide : 4 + 0 ≤ _), (by decide : 5 + 0 ≤ _)⟩)
            dsimp only [Pt.U, Pt.locs, Pt.cells, Pt.slots] at X9 l9 y9 z9 st9 hQ9
            subst l9 y9 z9
            obtain ⟨rfl, N9q, Kq9, O9_0⟩ := hQ9
            have N9 := Fr.app N5 N9q
            have fA_b2_x9 := (fA_b2_x8.keep Kq9 (ninS ne_b2_b7 nin0))
            have fA_b3_x9 := (fA_b3_x8.keep Kq9 (ninS ne_b3_b7 nin0))
            have fE_b7_x9 := (fE_b7_x8.keep Kq9)
            have fA_b8_x9 := (V8.keep Kq9 (ninS (Ne.symm ne_b7_b8) nin0))
            have K9 : Keep h0 T9.heap [] := Keep.trans K8 Kq9 (allS (Or.inr sz_b7) all0)
            have Z9 : n0 ≤ T9.heap.size := Nat.le_trans Z8 Kq9.1
            obtain ⟨E_b7_10, F_winning_b7_11, F_bonus_b7_12, F_spots_b7_13, F_prizes_b7_14⟩ := O9_0
            refine own_pre (A := T9.setTop (mkF m 165 #[.val (.int p1), .val (.int p2), .val (.int p3), .val (.int p4), .val (.int p5), .val (.int p6), .val (.int (p1 &&& (3 : Int32))), .val (.int xa), .val (.int xb), .val (.int xc), .val (.ref b2), .val (.ref b3), .val (.ref b7), .unset] [(.int (1 : Int32)), (.int (p1 &&& (3 : Int32)))])) (fun tt kt => ?_) ?_
            · show Steps p.tables e below (Tj142.setTop (mkF m 142 #[.val (.int p1), .val (.int p2), .val (.int p3), .val (.int p4), .val (.int p5), .val (.int p6), .val (.int (p1 &&& (3 : Int32))), .val (.int xa), .val (.int xb), .val (.int xc), .val (.ref b2), .unset, .unset, .unset] [(.int wv), (.int (0 : Int32)), (.ref b3), (.ref b3)])) _
              refine st5 _ ?_
              show Steps p.tables e below (T5.setTop (mkF m 143 #[.val (.int p1), .val (.int p2), .val (.int p3), .val (.int p4), .val (.int p5), .val (.int p6), .val (.int (p1 &&& (3 : Int32))), .val (.int xa), .val (.int xb), .val (.int xc), .val (.ref b2), .unset, .unset, .unset] [(.ref b3)])) _
              refine XS.astore X5.here hx rfl (hb hby at_143) rfl rfl (l' := #[.val (.int p1), .val (.int p2), .val (.int p3), .val (.int p4), .val (.int p5), .val (.int p6), .val (.int (p1 &&& (3 : Int32))), .val (.int xa), .val (.int xb), .val (.int xc), .val (.ref b2), .val (.ref b3), .unset, .unset]) rfl ?_
              show Steps p.tables e below (T5.setTop (mkF m 145 #[.val (.int p1), .val (.int p2), .val (.int p3), .val (.int p4), .val (.int p5), .val (.int p6), .val (.int (p1 &&& (3 : Int32))), .val (.int xa), .val (.int xb), .val (.int xc), .val (.ref b2), .val (.ref b3), .unset, .unset] [])) _
              refine st7 _ ?_
              show Steps p.tables e below (T7.setTop (mkF m 148 #[.val (.int p1), .val (.int p2), .val (.int p3), .val (.int p4), .val (.int p5), .val (.int p6), .val (.int (p1 &&& (3 : Int32))), .val (.int xa), .val (.int xb), .val (.int xc), .val (.ref b2), .val (.ref b3), .unset, .unset] [(.ref b7)])) _
              refine XS.dup X7.here hx rfl (hb hby at_148) rfl rfl ?_
              show Steps p.tables e below (T7.setTop (mkF m 149 #[.val (.int p1), .val (.int p2), .val (.int p3), .val (.int p4), .val (.int p5), .val (.int p6), .val (.int (p1 &&& (3 : Int32))), .val (.int xa), .val (.int xb), .val (.int xc), .val (.ref b2), .val (.ref b3), .unset, .unset] [(.ref b7), (.ref b7)])) _
              refine XS.aload X7.here hx rfl (hb hby at_149) rfl rfl ?_
              show Steps p.tables e below (T7.setTop (mkF m 151 #[.val (.int p1), .val (.int p2), .val (.int p3), .val (.int p4), .val (.int p5), .val (.int p6), .val (.int (p1 &&& (3 : Int32))), .val (.int xa), .val (.int xb), .val (.int xc), .val (.ref b2), .val (.ref b3), .unset, .unset] [(.ref b3), (.ref b7), (.ref b7)])) _
              refine XS.iloadN X7.here hx rfl (hb hby at_151) rfl ?_
              show Steps p.tables e below (T7.setTop (mkF m 152 #[.val (.int p1), .val (.int p2), .val (.int p3), .val (.int p4), .val (.int p5), .val (.int p6), .val (.int (p1 &&& (3 : Int32))), .val (.int xa), .val (.int xb), .val (.int xc), .val (.ref b2), .val (.ref b3), .unset, .unset] [(.int p2), (.ref b3), (.ref b7), (.ref b7)])) _
              refine XS.aload X7.here hx rfl (hb hby at_152) rfl rfl ?_
              show Steps p.tables e below (T7.setTop (mkF m 154 #[.val (.int p1), .val (.int p2), .val (.int p3), .val (.int p4), .val (.int p5), .val (.int p6), .val (.int (p1 &&& (3 : Int32))), .val (.int xa), .val (.int xb), .val (.int xc), .val (.ref b2), .val (.ref b3), .unset, .unset] [(.ref b2), (.int p2), (.ref b3), (.ref b7), (.ref b7)])) _
              refine XS.iconst X7.here hx rfl (hb hby at_154) ?_
              show Steps p.tables e below (T7.setTop (mkF m 155 #[.val (.int p1), .val (.int p2), .val (.int p3), .val (.int p4), .val (.int p5), .val (.int p6), .val (.int (p1 &&& (3 : Int32))), .val (.int xa), .val (.int xb), .val (.int xc), .val (.ref b2), .val (.ref b3), .unset, .unset] [(.int (0 : Int32)), (.ref b2), (.int p2), (.ref b3), (.ref b7), (.ref b7)])) _
              refine st8 _ ?_
              show Steps p.tables e below (T8.setTop (mkF m 157 #[.val (.int p1), .val (.int p2), .val (.int p3), .val (.int p4), .val (.int p5), .val (.int p6), .val (.int (p1 &&& (3 : Int32))), .val (.int xa), .val (.int xb), .val (.int xc), .val (.ref b2), .val (.ref b3), .unset, .unset] [(.ref b8), (.ref b2), (.int p2), (.ref b3), (.ref b7), (.ref b7)])) _
              refine st9.trans ?_
              show Steps p.tables e below (T9.setTop (mkF m 160 #[.val (.int p1), .val (.int p2), .val (.int p3), .val (.int p4), .val (.int p5), .val (.int p6), .val (.int (p1 &&& (3 : Int32))), .val (.int xa), .val (.int xb), .val (.int xc), .val (.ref b2), .val (.ref b3), .unset, .unset] [(.ref b7)])) _
              refine XS.astore X9.here hx rfl (hb hby at_160) rfl rfl (l' := #[.val (.int p1), .val (.int p2), .val (.int p3), .val (.int p4), .val (.int p5), .val (.int p6), .val (.int (p1 &&& (3 : Int32))), .val (.int xa), .val (.int xb), .val (.int xc), .val (.ref b2), .val (.ref b3), .val (.ref b7), .unset]) rfl ?_
              show Steps p.tables e below (T9.setTop (mkF m 162 #[.val (.int p1), .val (.int p2), .val (.int p3), .val (.int p4), .val (.int p5), .val (.int p6), .val (.int (p1 &&& (3 : Int32))), .val (.int xa), .val (.int xb), .val (.int xc), .val (.ref b2), .val (.ref b3), .val (.ref b7), .unset] [])) _
              refine XS.iload X9.here hx rfl (hb hby at_162) rfl ?_
              show Steps p.tables e below (T9.setTop (mkF m 164 #[.val (.int p1), .val (.int p2), .val (.int p3), .val (.int p4), .val (.int p5), .val (.int p6), .val (.int (p1 &&& (3 : Int32))), .val (.int xa), .val (.int xb), .val (.int xc), .val (.ref b2), .val (.ref b3), .val (.ref b7), .unset] [(.int (p1 &&& (3 : Int32)))])) _
              refine XS.iconst X9.here hx rfl (hb hby at_164) ?_
              exact kt
            show own_End p e below s (T9.setTop (mkF m 165 #[.val (.int p1), .val (.int p2), .val (.int p3), .val (.int p4), .val (.int p5), .val (.int p6), .val (.int (p1 &&& (3 : Int32))), .val (.int xa), .val (.int xb), .val (.int xc), .val (.ref b2), .val (.ref b3), .val (.ref b7), .unset] [(.int (1 : Int32)), (.int (p1 &&& (3 : Int32)))])) (Q0 Z p1 p2 p3 p4 p5 p6 h0 n0) room_1.cells room_1.slots
            have j203 : ∀ (Tj203 : State) (Lj203 : List Loc) (Xj203 : Stand p l e room_1 s m #[(.int p1), (.int p2), (.int p3), (.int p4), (.int p5), (.int p6)] below meth c Tj203 Lj203 4 5) (ej203 : Tj203.heap = T9.heap) (Nj203 : Fr n0 Lj203) (ex : Int32) , own_law p1 p2 p3 p4 p5 p6 = own_law_203 p1 p2 p3 p4 p5 p6 xa xb xc wv ex → own_End p e below s (Tj203.setTop (mkF m 203 #[.val (.int p1), .val (.int p2), .val (.int p3), .val (.int p4), .val (.int p5), .val (.int p6), .val (.int (p1 &&& (3 : Int32))), .val (.int xa), .val (.int xb), .val (.int xc), .val (.ref b2), .val (.ref b3), .val (.ref b7), .unset] [(.int ex)])) (Q0 Z p1 p2 p3 p4 p5 p6 h0 n0) room_1.cells room_1.slots := by
              intro Tj203 Lj203 Xj203 ej203 Nj203 ex  hj
              obtain ⟨cq15, kq15, q15a, q15b, q15c⟩ := isOf hZ ej203 E_b7_10
              obtain ⟨_, _, ⟨T15, L15, k15, n15⟩, -, X15, ⟨Lc15, hQ15, l15, y15, z15⟩, st15⟩ := Xj203.virtualBack hx (y := (⟨"com/example/scratchline/scratchline/game/Face", "showsBonus", "()Z"⟩ : MethodName)) (z := (⟨"com/example/scratchline/scratchline/game/Face", "showsBonus", "()Z"⟩ : MethodName)) hown (mvT hZ (hw _ (List.mem_of_getElem? (i := 19) rfl))) (mvT hZ (hw _ (List.mem_of_getElem? (i := 20) rfl))) (notFace_of_selects (args := #[]) (mvT hZ (hw _ (List.mem_of_getElem? (i := 22) rfl)))) (mvT hZ (hw _ (List.mem_of_getElem? (i := 22) rfl))) (mvT hZ (hw _ (List.mem_of_getElem? (i := 21) rfl))) (by decide) (backOf (W := 0) (rm3 l Z a0 hw [] b7 b3 p2 b2 b8 (fun _ => (0 : Int32)) (0 : Int32) T9.heap n0 Z9 ⟨E_b7_10, F_winning_b7_11, F_bonus_b7_12, F_spots_b7_13, F_prizes_b7_14⟩ fA_b2_x9) hZ (hw _ (List.mem_of_getElem? (i := 23) rfl)) (hw _ (List.mem_of_getElem? (i := 3) rfl)) (by decide) (by decide)) q15a q15c (g := (mkF m 207 #[.val (.int p1), .val (.int p2), .val (.int p3), .val (.int p4), .val (.int p5), .val (.int p6), .val (.int (p1 &&& (3 : Int32))), .val (.int xa), .val (.int xb), .val (.int xc), .val (.ref b2), .val (.ref b3), .val (.ref b7), .val (.int ex)] [(.ref b7)])) rfl (by rw [hml]; rfl) (Steps.refl _) (argsL := []) (rest := []) (lenOf pd_0_1 rfl) rfl (by show 2 * 0 + _ ≤ _; exact Nat.le_of_eq rfl) (hb hby at_207) (fun _ _ => ⟨rfl, ej203, (by decide : 4 + 0 ≤ _), (by decide : 5 + 0 ≤ _)⟩)
              dsimp only [Pt.U, Pt.locs, Pt.cells, Pt.slots] at X15 l15 y15 z15 st15 hQ15
              subst l15 y15 z15
              obtain ⟨rfl, N15q, e15⟩ := hQ15
              have N15 := Fr.app Nj203 N15q
              refine own_pre (A := T15.setTop (mkF m 212 #[.val (.int p1), .val (.int p2), .val (.int p3), .val (.int p4), .val (.int p5), .val (.int p6), .val (.int (p1 &&& (3 : Int32))), .val (.int xa), .val (.int xb), .val (.int xc), .val (.ref b2), .val (.ref b3), .val (.ref b7), .val (.int ex)] [(.int ex), (.int (own_shows (fun _ => (0 : Int32)) (0 : Int32) p2))])) (fun tt kt => ?_) ?_
              · show Steps p.tables e below (Tj203.setTop (mkF m 203 #[.val (.int p1), .val (.int p2), .val (.int p3), .val (.int p4), .val (.int p5), .val (.int p6), .val (.int (p1 &&& (3 : Int32))), .val (.int xa), .val (.int xb), .val (.int xc), .val (.ref b2), .val (.ref b3), .val (.ref b7), .unset] [(.int ex)])) _
                refine XS.istore Xj203.here hx rfl (hb hby at_203) rfl (l' := #[.val (.int p1), .val (.int p2), .val (.int p3), .val (.int p4), .val (.int p5), .val (.int p6), .val (.int (p1 &&& (3 : Int32))), .val (.int xa), .val (.int xb), .val (.int xc), .val (.ref b2), .val (.ref b3), .val (.ref b7), .val (.int ex)]) rfl ?_
                show Steps p.tables e below (Tj203.setTop (mkF m 205 #[.val (.int p1), .val (.int p2), .val (.int p3), .val (.int p4), .val (.int p5), .val (.int p6), .val (.int (p1 &&& (3 : Int32))), .val (.int xa), .val (.int xb), .val (.int xc), .val (.ref b2), .val (.ref b3), .val (.ref b7), .val (.int ex)] [])) _
                refine XS.aload Xj203.here hx rfl (hb hby at_205) rfl rfl ?_
                show Steps p.tables e below (Tj203.setTop (mkF m 207 #[.val (.int p1), .val (.int p2), .val (.int p3), .val (.int p4), .val (.int p5), .val (.int p6), .val (.int (p1 &&& (3 : Int32))), .val (.int xa), .val (.int xb), .val (.int xc), .val (.ref b2), .val (.ref b3), .val (.ref b7), .val (.int ex)] [(.ref b7)])) _
                refine st15.trans ?_
                show Steps p.tables e below (T15.setTop (mkF m 210 #[.val (.int p1), .val (.int p2), .val (.int p3), .val (.int p4), .val (.int p5), .val (.int p6), .val (.int (p1 &&& (3 : Int32))), .val (.int xa), .val (.int xb), .val (.int xc), .val (.ref b2), .val (.ref b3), .val (.ref b7), .val (.int ex)] [(.int (own_shows (fun _ => (0 : Int32)) (0 : Int32) p2))])) _
                refine XS.iload X15.here hx rfl (hb hby at_210) rfl ?_
                exact kt
              show own_End p e below s (T15.setTop (mkF m 212 #[.val (.int p1), .val (.int p2), .val (.int p3), .val (.int p4), .val (.int p5), .val (.int p6), .val (.int (p1 &&& (3 : Int32))), .val (.int xa), .val (.int xb), .val (.int xc), .val (.ref b2), .val (.ref b3), .val (.ref b7), .val (.int ex)] [(.int ex), (.int (own_shows (fun _ => (0 : Int32)) (0 : Int32) p2))])) (Q0 Z p1 p2 p3 p4 p5 p6 h0 n0) room_1.cells room_1.slots
              by_cases hc212_16 : (own_shows (fun _ => (0 : Int32)) (0 : Int32) p2) = ex
              · refine own_pre (A := T15.setTop (mkF m 220 #[.val (.int p1), .val (.int p2), .val (.int p3), .val (.int p4), .val (.int p5), .val (.int p6), .val (.int (p1 &&& (3 : Int32))), .val (.int xa), .val (.int xb), .val (.int xc), .val (.ref b2), .val (.ref b3), .val (.ref b7), .val (.int ex)] [(.int (1 : Int32))])) (fun tt kt => ?_) ?_
                · show Steps p.tables e below (T15.setTop (mkF m 212 #[.val (.int p1), .val (.int p2), .val (.int p3), .val (.int p4), .val (.int p5), .val (.int p6), .val (.int (p1 &&& (3 : Int32))), .val (.int xa), .val (.int xb), .val (.int xc), .val (.ref b2), .val (.ref b3), .val (.ref b7), .val (.int ex)] [(.int ex), (.int (own_shows (fun _ => (0 : Int32)) (0 : Int32) p2))])) _
                  refine XS.icmpNo X15.here hx rfl (hb hby at_212) rfl (teq hc212_16).2 ?_
                  show Steps p.tables e below (T15.setTop (mkF m 215 #[.val (.int p1), .val (.int p2), .val (.int p3), .val (.int p4), .val (.int p5), .val (.int p6), .val (.int (p1 &&& (3 : Int32))), .val (.int xa), .val (.int xb), .val (.int xc), .val (.ref b2), .val (.ref b3), .val (.ref b7), .val (.int ex)] [])) _
                  refine XS.iconst X15.here hx rfl (hb hby at_215) ?_
                  show Steps p.tables e below (T15.setTop (mkF m 216 #[.val (.int p1), .val (.int p2), .val (.int p3), .val (.int p4), .val (.int p5), .val (.int p6), .val (.int (p1 &&& (3 : Int32))), .val (.int xa), .val (.int xb), .val (.int xc), .val (.ref b2), .val (.ref b3), .val (.ref b7), .val (.int ex)] [(.int (1 : Int32))])) _
                  refine XS.goto X15.here hx rfl (pc0 := 216) (pc' := 220) rfl (hb hby at_216) (by decide) (by decide) ?_
                  exact kt
                show own_End p e below s (T15.setTop (mkF m 220 #[.val (.int p1), .val (.int p2), .val (.int p3), .val (.int p4), .val (.int p5), .val (.int p6), .val (.int (p1 &&& (3 : Int32))), .val (.int xa), .val (.int xb), .val (.int xc), .val (.ref b2), .val (.ref b3), .val (.ref b7), .val (.int ex)] [(.int (1 : Int32))])) (Q0 Z p1 p2 p3 p4 p5 p6 h0 n0) room_1.cells room_1.slots
                have hv : (own_law p1 p2 p3 p4 p5 p6) = (1 : Int32) := hj.trans (by simp only [own_law_203, if_pos hc212_16])
                obtain ⟨fs, hr, hrun, hended, hW, hsame⟩ := X15.leave (v := some (.int (1 : Int32))) (fun h => by rw [Bd.returns] at h; cases h)
                refine ⟨_, _, ?_, hrun, hended, _, _, rfl, ?_, ⟨_, rfl⟩, hW, hsame.mono (by decide) (by decide)⟩
                · exact retN X15 hx (t := .boolean) Bd.returns (by simp) (hb hby at_220) hr
                · show Q0 Z p1 p2 p3 p4 p5 p6 h0 n0 _ T15.heap _
                  rw [e15]
                  exact ⟨(congrArg (fun z => some (Value.int z)) hv.symm), N15⟩
              · refine own_pre (A := T15.setTop (mkF m 220 #[.val (.int p1), .val (.int p2), .val (.int p3), .val (.int p4), .val (.int p5), .val (.int p6), .val (.int (p1 &&& (3 : Int32))), .val (.int xa), .val (.int xb), .val (.int xc), .val (.ref b2), .val (.ref b3), .val (.ref b7), .val (.int ex)] [(.int (0 : Int32))])) (fun tt kt => ?_) ?_
                · show Steps p.tables e below (T15.setTop (mkF m 212 #[.val (.int p1), .val (.int p2), .val (.int p3), .val (.int p4), .val (.int p5), .val (.int p6), .val (.int (p1 &&& (3 : Int32))), .val (.int xa), .val (.int xb), .val (.int xc), .val (.ref b2), .val (.ref b3), .val (.ref b7), .val (.int ex)] [(.int ex), (.int (own_shows (fun _ => (0 : Int32)) (0 : Int32) p2))])) _
                  refine XS.icmpYes X15.here hx rfl (pc0 := 212) (pc' := 219) rfl (hb hby at_212) rfl (feq hc212_16).2 (by decide) (by decide) ?_
                  show Steps p.tables e below (T15.setTop (mkF m 219 #[.val (.int p1), .val (.int p2), .val (.int p3), .val (.int p4), .val (.int p5), .val (.int p6), .val (.int (p1 &&& (3 : Int32))), .val (.int xa), .val (.int xb), .val (.int xc), .val (.ref b2), .val (.ref b3), .val (.ref b7), .val (.int ex)] [])) _
                  refine XS.iconst X15.here hx rfl (hb hby at_219) ?_
                  exact kt
                show own_End p e below s (T15.setTop (mkF m 220 #[.val (.int p1), .val (.int p2), .val (.int p3), .val (.int p4), .val (.int p5), .val (.int p6), .val (.int (p1 &&& (3 : Int32))), .val (.int xa), .val (.int xb), .val (.int xc), .val (.ref b2), .val (.ref b3), .val (.ref b7), .val (.int ex)] [(.int (0 : Int32))])) (Q0 Z p1 p2 p3 p4 p5 p6 h0 n0) room_1.cells room_1.slots
                have hv : (own_law p1 p2 p3 p4 p5 p6) = (0 : Int32) := hj.trans (by simp only [own_law_203, if_neg hc212_16])
                obtain ⟨fs, hr, hrun, hended, hW, hsame⟩ := X15.leave (v := some (.int (0 : Int32))) (fun h => by rw [Bd.returns] at h; cases h)
                refine ⟨_, _, ?_, hrun, hended, _, _, rfl, ?_, ⟨_, rfl⟩, hW, hsame.mono (by decide) (by decide)⟩
                · exact retN X15 hx (t := .boolean) Bd.returns (by simp) (hb hby at_220) hr
                · show Q0 Z p1 p2 p3 p4 p5 p6 h0 n0 _ T15.heap _
                  rw [e15]
                  exact ⟨(congrArg (fun z => some (Value.int z)) hv.symm), N15⟩
            by_cases hc165_17 : (p1 &&& (3 : Int32)) < (1 : Int32)
            · refine own_pre (A := T9.setTop (mkF m 177 #[.val (.int p1), .val (.int p2), .val (.int p3), .val (.int p4), .val (.int p5), .val (.int p6), .val (.int (p1 &&& (3 : Int32))), .val (.int xa), .val (.int xb), .val (.int xc), .val (.ref b2), .val (.ref b3), .val (.ref b7), .unset] [(.int (2 : Int32)), (.int (p1 &&& (3 : Int32)))])) (fun tt kt => ?_) ?_
              · show Steps p.tables e below (T9.setTop (mkF m 165 #[.val (.int p1), .val (.int p2), .val (.int p3), .val (.int p4), .val (.int p5), .val (.int p6), .val (.int (p1 &&& (3 : Int32))), .val (.int xa), .val (.int xb), .val (.int xc), .val (.ref b2), .val (.ref b3), .val (.ref b7), .unset] [(.int (1 : Int32)), (.int (p1 &&& (3 : Int32)))])) _
                refine XS.icmpYes X9.here hx rfl (pc0 := 165) (pc' := 174) rfl (hb hby at_165) rfl (tlt hc165_17).1 (by decide) (by decide) ?_
                show Steps p.tables e below (T9.setTop (mkF m 174 #[.val (.int p1), .val (.int p2), .val (.int p3), .val (.int p4), .val (.int p5), .val (.int p6), .val (.int (p1 &&& (3 : Int32))), .val (.int xa), .val (.int xb), .val (.int xc), .val (.ref b2), .val (.ref b3), .val (.ref b7), .unset] [])) _
                refine XS.iload X9.here hx rfl (hb hby at_174) rfl ?_
                show Steps p.tables e below (T9.setTop (mkF m 176 #[.val (.int p1), .val (.int p2), .val (.int p3), .val (.int p4), .val (.int p5), .val (.int p6), .val (.int (p1 &&& (3 : Int32))), .val (.int xa), .val (.int xb), .val (.int xc), .val (.ref b2), .val (.ref b3), .val (.ref b7), .unset] [(.int (p1 &&& (3 : Int32)))])) _
                refine XS.iconst X9.here hx rfl (hb hby at_176) ?_
                exact kt
              show own_End p e below s (T9.setTop (mkF m 177 #[.val (.int p1), .val (.int p2), .val (.int p3), .val (.int p4), .val (.int p5), .val (.int p6), .val (.int (p1 &&& (3 : Int32))), .val (.int xa), .val (.int xb), .val (.int xc), .val (.ref b2), .val (.ref b3), .val (.ref b7), .unset] [(.int (2 : Int32)), (.int (p1 &&& (3 : Int32)))])) (Q0 Z p1 p2 p3 p4 p5 p6 h0 n0) room_1.cells room_1.slots
              by_cases hc177_18 : (p1 &&& (3 : Int32)) < (2 : Int32)
              · refine own_pre (A := T9.setTop (mkF m 189 #[.val (.int p1), .val (.int p2), .val (.int p3), .val (.int p4), .val (.int p5), .val (.int p6), .val (.int (p1 &&& (3 : Int32))), .val (.int xa), .val (.int xb), .val (.int xc), .val (.ref b2), .val (.ref b3), .val (.ref b7), .unset] [(.int (3 : Int32)), (.int (p1 &&& (3 : Int32)))])) (fun tt kt => ?_) ?_
                · show Steps p.tables e below (T9.setTop (mkF m 177 #[.val (.int p1), .val (.int p2), .val (.int p3), .val (.int p4), .val (.int p5), .val (.int p6), .val (.int (p1 &&& (3 : Int32))), .val (.int xa), .val (.int xb), .val (.int xc), .val (.ref b2), .val (.ref b3), .val (.ref b7), .unset] [(.int (2 : Int32)), (.int (p1 &&& (3 : Int32)))])) _
                  refine XS.icmpYes X9.here hx rfl (pc0 := 177) (pc' := 186) rfl (hb hby at_177) rfl (tlt hc177_18).1 (by decide) (by decide) ?_
                  show Steps p.tables e below (T9.setTop (mkF m 186 #[.val (.int p1), .val (.int p2), .val (.int p3), .val (.int p4), .val (.int p5), .val (.int p6), .val (.int (p1 &&& (3 : Int32))), .val (.int xa), .val (.int xb), .val (.int xc), .val (.ref b2), .val (.ref b3), .val (.ref b7), .unset] [])) _
                  refine XS.iload X9.here hx rfl (hb hby at_186) rfl ?_
                  show Steps p.tables e below (T9.setTop (mkF m 188 #[.val (.int p1), .val (.int p2), .val (.int p3), .val (.int p4), .val (.int p5), .val (.int p6), .val (.int (p1 &&& (3 : Int32))), .val (.int xa), .val (.int xb), .val (.int xc), .val (.ref b2), .val (.ref b3), .val (.ref b7), .unset] [(.int (p1 &&& (3 : Int32)))])) _
                  refine XS.iconst X9.here hx rfl (hb hby at_188) ?_
                  exact kt
                show own_End p e below s (T9.setTop (mkF m 189 #[.val (.int p1), .val (.int p2), .val (.int p3), .val (.int p4), .val (.int p5), .val (.int p6), .val (.int (p1 &&& (3 : Int32))), .val (.int xa), .val (.int xb), .val (.int xc), .val (.ref b2), .val (.ref b3), .val (.ref b7), .unset] [(.int (3 : Int32)), (.int (p1 &&& (3 : Int32)))])) (Q0 Z p1 p2 p3 p4 p5 p6 h0 n0) room_1.cells room_1.slots
                by_cases hc189_19 : (p1 &&& (3 : Int32)) < (3 : Int32)
                · refine own_pre (A := T9.setTop (mkF m 203 #[.val (.int p1), .val (.int p2), .val (.int p3), .val (.int p4), .val (.int p5), .val (.int p6), .val (.int (p1 &&& (3 : Int32))), .val (.int xa), .val (.int xb), .val (.int xc), .val (.ref b2), .val (.ref b3), .val (.ref b7), .unset] [(.int (0 : Int32))])) (fun tt kt => ?_) ?_
                  · show Steps p.tables e below (T9.setTop (mkF m 189 #[.val (.int p1), .val (.int p2), .val (.int p3), .val (.int p4), .val (.int p5), .val (.int p6), .val (.int (p1 &&& (3 : Int32))), .val (.int xa), .val (.int xb), .val (.int xc), .val (.ref b2), .val (.ref b3), .val (.ref b7), .unset] [(.int (3 : Int32)), (.int (p1 &&& (3 : Int32)))])) _
                    refine XS.icmpYes X9.here hx rfl (pc0 := 189) (pc' := 202) rfl (hb hby at_189) rfl (tlt hc189_19).1 (by decide) (by decide) ?_
                    show Steps p.tables e below (T9.setTop (mkF m 202 #[.val (.int p1), .val (.int p2), .val (.int p3), .val (.int p4), .val (.int p5), .val (.int p6), .val (.int (p1 &&& (3 : Int32))), .val (.int xa), .val (.int xb), .val (.int xc), .val (.ref b2), .val (.ref b3), .val (.ref b7), .unset] [])) _
                    refine XS.iconst X9.here hx rfl (hb hby at_202) ?_
                    exact kt
                  show own_End p e below s (T9.setTop (mkF m 203 #[.val (.int p1), .val (.int p2), .val (.int p3), .val (.int p4), .val (.int p5), .val (.int p6), .val (.int (p1 &&& (3 : Int32))), .val (.int xa), .val (.int xb), .val (.int xc), .val (.ref b2), .val (.ref b3), .val (.ref b7), .unset] [(.int (0 : Int32))])) (Q0 Z p1 p2 p3 p4 p5 p6 h0 n0) room_1.cells room_1.slots
                  exact j203 _ _ X9 rfl N9 (0 : Int32)  (hj.trans (by simp only [own_law_142, if_pos hc165_17, if_pos hc177_18, if_pos hc189_19]))
                · refine own_pre (A := T9.setTop (mkF m 195 #[.val (.int p1), .val (.int p2), .val (.int p3), .val (.int p4), .val (.int p5), .val (.int p6), .val (.int (p1 &&& (3 : Int32))), .val (.int xa), .val (.int xb), .val (.int xc), .val (.ref b2), .val (.ref b3), .val (.ref b7), .unset] [(.int p2), (.int xc)])) (fun tt kt => ?_) ?_
                  · show Steps p.tables e below (T9.setTop (mkF m 189 #[.val (.int p1), .val (.int p2), .val (.int p3), .val (.int p4), .val (.int p5), .val (.int p6), .val (.int (p1 &&& (3 : Int32))), .val (.int xa), .val (.int xb), .val (.int xc), .val (.ref b2), .val (.ref b3), .val (.ref b7), .unset] [(.int (3 : Int32)), (.int (p1 &&& (3 : Int32)))])) _
                    refine XS.icmpNo X9.here hx rfl (hb hby at_189) rfl (flt hc189_19).1 ?_
                    show Steps p.tables e below (T9.setTop (mkF m 192 #[.val (.int p1), .val (.int p2), .val (.int p3), .val (.int p4), .val (.int p5), .val (.int p6), .val (.int (p1 &&& (3 : Int32))), .val (.int xa), .val (.int xb), .val (.int xc), .val (.ref b2), .val (.ref b3), .val (.ref b7), .unset] [])) _
                    refine XS.iload X9.here hx rfl (hb hby at_192) rfl ?_
                    show Steps p.tables e below (T9.setTop (mkF m 194 #[.val (.int p1), .val (.int p2), .val (.int p3), .val (.int p4), .val (.int p5), .val (.int p6), .val (.int (p1 &&& (3 : Int32))), .val (.int xa), .val (.int xb), .val (.int xc), .val (.ref b2), .val (.ref b3), .val (.ref b7), .unset] [(.int xc)])) _
                    refine XS.iloadN X9.here hx rfl (hb hby at_194) rfl ?_
                    exact kt
                  show own_End p e below s (T9.setTop (mkF m 195 #[.val (.int p1), .val (.int p2), .val (.int p3), .val (.int p4), .val (.int p5), .val (.int p6), .val (.int (p1 &&& (3 : Int32))), .val (.int xa), .val (.int xb), .val (.int xc), .val (.ref b2), .val (.ref b3), .val (.ref b7), .unset] [(.int p2), (.int xc)])) (Q0 Z p1 p2 p3 p4 p5 p6 h0 n0) room_1.cells room_1.slots
                  by_cases hc195_20 : xc = p2
                  · refine own_pre (A := T9.setTop (mkF m 203 #[.val (.int p1), .val (.int p2), .val (.int p3), .val (.int p4), .val (.int p5), .val (.int p6), .val (.int (p1 &&& (3 : Int32))), .val (.int xa), .val (.int xb), .val (.int xc), .val (.ref b2), .val (.ref b3), .val (.ref b7), .unset] [(.int (1 : Int32))])) (fun tt kt => ?_) ?_
                    · show Steps p.tables e below (T9.setTop (mkF m 195 #[.val (.int p1), .val (.int p2), .val (.int p3), .val (.int p4), .val (.int p5), .val (.int p6), .val (.int (p1 &&& (3 : Int32))), .val (.int xa), .val (.int xb), .val (.int xc), .val (.ref b2), .val (.ref b3), .val (.ref b7), .unset] [(.int p2), (.int xc)])) _
                      refine XS.icmpNo X9.here hx rfl (hb hby at_195) rfl (teq hc195_20).2 ?_
                      show Steps p.tables e below (T9.setTop (mkF m 198 #[.val (.int p1), .val (.int p2), .val (.int p3), .val (.int p4), .val (.int p5), .val (.int p6), .val (.int (p1 &&& (3 : Int32))), .val (.int xa), .val (.int xb), .val (.int xc), .val (.ref b2), .val (.ref b3), .val (.ref b7), .unset] [])) _
                      refine XS.iconst X9.here hx rfl (hb hby at_198) ?_
                      show Steps p.tables e below (T9.setTop (mkF m 199 #[.val (.int p1), .val (.int p2), .val (.int p3), .val (.int p4), .val (.int p5), .val (.int p6), .val (.int (p1 &&& (3 : Int32))), .val (.int xa), .val (.int xb), .val (.int xc), .val (.ref b2), .val (.ref b3), .val (.ref b7), .unset] [(.int (1 : Int32))])) _
                      refine XS.goto X9.here hx rfl (pc0 := 199) (pc' := 203) rfl (hb hby at_199) (by decide) (by decide) ?_
                      exact kt
                    show own_End p e below s (T9.setTop (mkF m 203 #[.val (.int p1), .val (.int p2), .val (.int p3), .val (.int p4), .val (.int p5), .val (.int p6), .val (.int (p1 &&& (3 : Int32))), .val (.int xa), .val (.int xb), .val (.int xc), .val (.ref b2), .val (.ref b3), .val (.ref b7), .unset] [(.int (1 : Int32))])) (Q0 Z p1 p2 p3 p4 p5 p6 h0 n0) room_1.cells room_1.slots
                    exact j203 _ _ X9 rfl N9 (1 : Int32)  (hj.trans (by simp only [own_law_142, if_pos hc165_17, if_pos hc177_18, if_neg hc189_19, if_pos hc195_20]))
                  · refine own_pre (A := T9.setTop (mkF m 203 #[.val (.int p1), .val (.int p2), .val (.int p3), .val (.int p4), .val (.int p5), .val (.int p6), .val (.int (p1 &&& (3 : Int32))), .val (.int xa), .val (.int xb), .val (.int xc), .val (.ref b2), .val (.ref b3), .val (.ref b7), .unset] [(.int (0 : Int32))])) (fun tt kt => ?_) ?_
                    · show Steps p.tables e below (T9.setTop (mkF m 195 #[.val (.int p1), .val (.int p2), .val (.int p3), .val (.int p4), .val (.int p5), .val (.int p6), .val (.int (p1 &&& (3 : Int32))), .val (.int xa), .val (.int xb), .val (.int xc), .val (.ref b2), .val (.ref b3), .val (.ref b7), .unset] [(.int p2), (.int xc)])) _
                      refine XS.icmpYes X9.here hx rfl (pc0 := 195) (pc' := 202) rfl (hb hby at_195) rfl (feq hc195_20).2 (by decide) (by decide) ?_
                      show Steps p.tables e below (T9.setTop (mkF m 202 #[.val (.int p1), .val (.int p2), .val (.int p3), .val (.int p4), .val (.int p5), .val (.int p6), .val (.int (p1 &&& (3 : Int32))), .val (.int xa), .val (.int xb), .val (.int xc), .val (.ref b2), .val (.ref b3), .val (.ref b7), .unset] [])) _
                      refine XS.iconst X9.here hx rfl (hb hby at_202) ?_
                      exact kt
                    show own_End p e below s (T9.setTop (mkF m 203 #[.val (.int p1), .val (.int p2), .val (.int p3), .val (.int p4), .val (.int p5), .val (.int p6), .val (.int (p1 &&& (3 : Int32))), .val (.int xa), .val (.int xb), .val (.int xc), .val (.ref b2), .val (.ref b3), .val (.ref b7), .unset] [(.int (0 : Int32))])) (Q0 Z p1 p2 p3 p4 p5 p6 h0 n0) room_1.cells room_1.slots
                    exact j203 _ _ X9 rfl N9 (0 : Int32)  (hj.trans (by simp only [own_law_142, if_pos hc165_17, if_pos hc177_18, if_neg hc189_19, if_neg hc195_20]))
              · refine own_pre (A := T9.setTop (mkF m 183 #[.val (.int p1), .val (.int p2), .val (.int p3), .val (.int p4), .val (.int p5), .val (.int p6), .val (.int (p1 &&& (3 : Int32))), .val (.int xa), .val (.int xb), .val (.int xc), .val (.ref b2), .val (.ref b3), .val (.ref b7), .unset] [(.int p2), (.int xb)])) (fun tt kt => ?_) ?_
                · show Steps p.tables e below (T9.setTop (mkF m 177 #[.val (.int p1), .val (.int p2), .val (.int p3), .val (.int p4), .val (.int p5), .val (.int p6), .val (.int (p1 &&& (3 : Int32))), .val (.int xa), .val (.int xb), .val (.int xc), .val (.ref b2), .val (.ref b3), .val (.ref b7), .unset] [(.int (2 : Int32)), (.int (p1 &&& (3 : Int32)))])) _
                  refine XS.icmpNo X9.here hx rfl (hb hby at_177) rfl (flt hc177_18).1 ?_
                  show Steps p.tables e below (T9.setTop (mkF m 180 #[.val (.int p1), .val (.int p2), .val (.int p3), .val (.int p4), .val (.int p5), .val (.int p6), .val (.int (p1 &&& (3 : Int32))), .val (.int xa), .val (.int xb), .val (.int xc), .val (.ref b2), .val (.ref b3), .val (.ref b7), .unset] [])) _
                  refine XS.iload X9.here hx rfl (hb hby at_180) rfl ?_
                  show Steps p.tables e below (T9.setTop (mkF m 182 #[.val (.int p1), .val (.int p2), .val (.int p3), .val (.int p4), .val (.int p5), .val (.int p6), .val (.int (p1 &&& (3 : Int32))), .val (.int xa), .val (.int xb), .val (.int xc), .val (.ref b2), .val (.ref b3), .val (.ref b7), .unset] [(.int xb)])) _
                  refine XS.iloadN X9.here hx rfl (hb hby at_182) rfl ?_
                  exact kt
                show own_End p e below s (T9.setTop (mkF m 183 #[.val (.int p1), .val (.int p2), .val (.int p3), .val (.int p4), .val (.int p5), .val (.int p6), .val (.int (p1 &&& (3 : Int32))), .val (.int xa), .val (.int xb), .val (.int xc), .val (.ref b2), .val (.ref b3), .val (.ref b7), .unset] [(.int p2), (.int xb)])) (Q0 Z p1 p2 p3 p4 p5 p6 h0 n0) room_1.cells room_1.slots
                by_cases hc183_21 : xb = p2
                · refine own_pre (A := T9.setTop (mkF m 203 #[.val (.int p1), .val (.int p2), .val (.int p3), .val (.int p4), .val (.int p5), .val (.int p6), .val (.int (p1 &&& (3 : Int32))), .val (.int xa), .val (.int xb), .val (.int xc), .val (.ref b2), .val (.ref b3), .val (.ref b7), .unset] [(.int (1 : Int32))])) (fun tt kt => ?_) ?_
                  · show Steps p.tables e below (T9.setTop (mkF m 183 #[.val (.int p1), .val (.int p2), .val (.int p3), .val (.int p4), .val (.int p5), .val (.int p6), .val (.int (p1 &&& (3 : Int32))), .val (.int xa), .val (.int xb), .val (.int xc), .val (.ref b2), .val (.ref b3), .val (.ref b7), .unset] [(.int p2), (.int xb)])) _
                    refine XS.icmpYes X9.here hx rfl (pc0 := 183) (pc' := 198) rfl (hb hby at_183) rfl (teq hc183_21).1 (by decide) (by decide) ?_
                    show Steps p.tables e below (T9.setTop (mkF m 198 #[.val (.int p1), .val (.int p2), .val (.int p3), .val (.int p4), .val (.int p5), .val (.int p6), .val (.int (p1 &&& (3 : Int32))), .val (.int xa), .val (.int xb), .val (.int xc), .val (.ref b2), .val (.ref b3), .val (.ref b7), .unset] [])) _
                    refine XS.iconst X9.here hx rfl (hb hby at_198) ?_
                    show Steps p.tables e below (T9.setTop (mkF m 199 #[.val (.int p1), .val (.int p2), .val (.int p3), .val (.int p4), .val (.int p5), .val (.int p6), .val (.int (p1 &&& (3 : Int32))), .val (.int xa), .val (.int xb), .val (.int xc), .val (.ref b2), .val (.ref b3), .val (.ref b7), .unset] [(.int (1 : Int32))])) _
                    refine XS.goto X9.here hx rfl (pc0 := 199) (pc' := 203) rfl (hb hby at_199) (by decide) (by decide) ?_
                    exact kt
                  show own_End p e below s (T9.setTop (mkF m 203 #[.val (.int p1), .val (.int p2), .val (.int p3), .val (.int p4), .val (.int p5), .val (.int p6), .val (.int (p1 &&& (3 : Int32))), .val (.int xa), .val (.int xb), .val (.int xc), .val (.ref b2), .val (.ref b3), .val (.ref b7), .unset] [(.int (1 : Int32))])) (Q0 Z p1 p2 p3 p4 p5 p6 h0 n0) room_1.cells room_1.slots
                  exact j203 _ _ X9 rfl N9 (1 : Int32)  (hj.trans (by simp only [own_law_142, if_pos hc165_17, if_neg hc177_18, if_pos hc183_21]))
                · refine own_pre (A := T9.setTop (mkF m 189 #[.val (.int p1), .val (.int p2), .val (.int p3), .val (.int p4), .val (.int p5), .val (.int p6), .val (.int (p1 &&& (3 : Int32))), .val (.int xa), .val (.int xb), .val (.int xc), .val (.ref b2), .val (.ref b3), .val (.ref b7), .unset] [(.int (3 : Int32)), (.int (p1 &&& (3 : Int32)))])) (fun tt kt => ?_) ?_
                  · show Steps p.tables e below (T9.setTop (mkF m 183 #[.val (.int p1), .val (.int p2), .val (.int p3), .val (.int p4), .val (.int p5), .val (.int p6), .val (.int (p1 &&& (3 : Int32))), .val (.int xa), .val (.int xb), .val (.int xc), .val (.ref b2), .val (.ref b3), .val (.ref b7), .unset] [(.int p2), (.int xb)])) _
                    refine XS.icmpNo X9.here hx rfl (hb hby at_183) rfl (feq hc183_21).1 ?_
                    show Steps p.tables e below (T9.setTop (mkF m 186 #[.val (.int p1), .val (.int p2), .val (.int p3), .val (.int p4), .val (.int p5), .val (.int p6), .val (.int (p1 &&& (3 : Int32))), .val (.int xa), .val (.int xb), .val (.int xc), .val (.ref b2), .val (.ref b3), .val (.ref b7), .unset] [])) _
                    refine XS.iload X9.here hx rfl (hb hby at_186) rfl ?_
                    show Steps p.tables e below (T9.setTop (mkF m 188 #[.val (.int p1), .val (.int p2), .val (.int p3), .val (.int p4), .val (.int p5), .val (.int p6), .val (.int (p1 &&& (3 : Int32))), .val (.int xa), .val (.int xb), .val (.int xc), .val (.ref b2), .val (.ref b3), .val (.ref b7), .unset] [(.int (p1 &&& (3 : Int32)))])) _
                    refine XS.iconst X9.here hx rfl (hb hby at_188) ?_
                    exact kt
                  show own_End p e below s (T9.setTop (mkF m 189 #[.val (.int p1), .val (.int p2), .val (.int p3), .val (.int p4), .val (.int p5), .val (.int p6), .val (.int (p1 &&& (3 : Int32))), .val (.int xa), .val (.int xb), .val (.int xc), .val (.ref b2), .val (.ref b3), .val (.ref b7), .unset] [(.int (3 : Int32)), (.int (p1 &&& (3 : Int32)))])) (Q0 Z p1 p2 p3 p4 p5 p6 h0 n0) room_1.cells room_1.slots
                  by_cases hc189_22 : (p1 &&& (3 : Int32)) < (3 : Int32)
                  · refine own_pre (A := T9.setTop (mkF m 203 #[.val (.int p1), .val (.int p2), .val (.int p3), .val (.int p4), .val (.int p5), .val (.int p6), .val (.int (p1 &&& (3 : Int32))), .val (.int xa), .val (.int xb), .val (.int xc), .val (.ref b2), .val (.ref b3), .val (.ref b7), .unset] [(.int (0 : Int32))])) (fun tt kt => ?_) ?_
                    · show Steps p.tables e below (T9.setTop (mkF m 189 #[.val (.int p1), .val (.int p2), .val (.int p3), .val (.int p4), .val (.int p5), .val (.int p6), .val (.int (p1 &&& (3 : Int32))), .val (.int xa), .val (.int xb), .val (.int xc), .val (.ref b2), .val (.ref b3), .val (.ref b7), .unset] [(.int (3 : Int32)), (.int (p1 &&& (3 : Int32)))])) _
                      refine XS.icmpYes X9.here hx rfl (pc0 := 189) (pc' := 202) rfl (hb hby at_189) rfl (tlt hc189_22).1 (by decide) (by decide) ?_
                      show Steps p.tables e below (T9.setTop (mkF m 202 #[.val (.int p1), .val (.int p2), .val (.int p3), .val (.int p4), .val (.int p5), .val (.int p6), .val (.int (p1 &&& (3 : Int32))), .val (.int xa), .val (.int xb), .val (.int xc), .val (.ref b2), .val (.ref b3), .val (.ref b7), .unset] [])) _
                      refine XS.iconst X9.here hx rfl (hb hby at_202) ?_
                      exact kt
                    show own_End p e below s (T9.setTop (mkF m 203 #[.val (.int p1), .val (.int p2), .val (.int p3), .val (.int p4), .val (.int p5), .val (.int p6), .val (.int (p1 &&& (3 : Int32))), .val (.int xa), .val (.int xb), .val (.int xc), .val (.ref b2), .val (.ref b3), .val (.ref b7), .unset] [(.int (0 : Int32))])) (Q0 Z p1 p2 p3 p4 p5 p6 h0 n0) room_1.cells room_1.slots
                    exact j203 _ _ X9 rfl N9 (0 : Int32)  (hj.trans (by simp only [own_law_142, if_pos hc165_17, if_neg hc177_18, if_neg hc183_21, if_pos hc189_22]))
                  · refine own_pre (A := T9.setTop (mkF m 195 #[.val (.int p1), .val (.int p2), .val (.int p3), .val (.int p4), .val (.int p5), .val (.int p6), .val (.int (p1 &&& (3 : Int32))), .val (.int xa), .val (.int xb), .val (.int xc), .val (.ref b2), .val (.ref b3), .val (.ref b7), .unset] [(.int p2), (.int xc)])) (fun tt kt => ?_) ?_
                    · show Steps p.tables e below (T9.setTop (mkF m 189 #[.val (.int p1), .val (.int p2), .val (.int p3), .val (.int p4), .val (.int p5), .val (.int p6), .val (.int (p1 &&& (3 : Int32))), .val (.int xa), .val (.int xb), .val (.int xc), .val (.ref b2), .val (.ref b3), .val (.ref b7), .unset] [(.int (3 : Int32)), (.int (p1 &&& (3 : Int32)))])) _
                      refine XS.icmpNo X9.here hx rfl (hb hby at_189) rfl (flt hc189_22).1 ?_
                      show Steps p.tables e below (T9.setTop (mkF m 192 #[.val (.int p1), .val (.int p2), .val (.int p3), .val (.int p4), .val (.int p5), .val (.int p6), .val (.int (p1 &&& (3 : Int32))), .val (.int xa), .val (.int xb), .val (.int xc), .val (.ref b2), .val (.ref b3), .val (.ref b7), .unset] [])) _
                      refine XS.iload X9.here hx rfl (hb hby at_192) rfl ?_
                      show Steps p.tables e below (T9.setTop (mkF m 194 #[.val (.int p1), .val (.int p2), .val (.int p3), .val (.int p4), .val (.int p5), .val (.int p6), .val (.int (p1 &&& (3 : Int32))), .val (.int xa), .val (.int xb), .val (.int xc), .val (.ref b2), .val (.ref b3), .val (.ref b7), .unset] [(.int xc)])) _
                      refine XS.iloadN X9.here hx rfl (hb hby at_194) rfl ?_
                      exact kt
                    show own_End p e below s (T9.setTop (mkF m 195 #[.val (.int p1), .val (.int p2), .val (.int p3), .val (.int p4), .val (.int p5), .val (.int p6), .val (.int (p1 &&& (3 : Int32))), .val (.int xa), .val (.int xb), .val (.int xc), .val (.ref b2), .val (.ref b3), .val (.ref b7), .unset] [(.int p2), (.int xc)])) (Q0 Z p1 p2 p3 p4 p5 p6 h0 n0) room_1.cells room_1.slots
                    by_cases hc195_23 : xc = p2
                    · refine own_pre (A := T9.setTop (mkF m 203 #[.val (.int p1), .val (.int p2), .val (.int p3), .val (.int p4), .val (.int p5), .val (.int p6), .val (.int (p1 &&& (3 : Int32))), .val (.int xa), .val (.int xb), .val (.int xc), .val (.ref b2), .val (.ref b3), .val (.ref b7), .unset] [(.int (1 : Int32))])) (fun tt kt => ?_) ?_
                      · show Steps p.tables e below (T9.setTop (mkF m 195 #[.val (.int p1), .val (.int p2), .val (.int p3), .val (.int p4), .val (.int p5), .val (.int p6), .val (.int (p1 &&& (3 : Int32))), .val (.int xa), .val (.int xb), .val (.int xc), .val (.ref b2), .val (.ref b3), .val (.ref b7), .unset] [(.int p2), (.int xc)])) _
                        refine XS.icmpNo X9.here hx rfl (hb hby at_195) rfl (teq hc195_23).2 ?_
                        show Steps p.tables e below (T9.setTop (mkF m 198 #[.val (.int p1), .val (.int p2), .val (.int p3), .val (.int p4), .val (.int p5), .val (.int p6), .val (.int (p1 &&& (3 : Int32))), .val (.int xa), .val (.int xb), .val (.int xc), .val (.ref b2), .val (.ref b3), .val (.ref b7), .unset] [])) _
                        refine XS.iconst X9.here hx rfl (hb hby at_198) ?_
                        show Steps p.tables e below (T9.setTop (mkF m 199 #[.val (.int p1), .val (.int p2), .val (.int p3), .val (.int p4), .val (.int p5), .val (.int p6), .val (.int (p1 &&& (3 : Int32))), .val (.int xa), .val (.int xb), .val (.int xc), .val (.ref b2), .val (.ref b3), .val (.ref b7), .unset] [(.int (1 : Int32))])) _
                        refine XS.goto X9.here hx rfl (pc0 := 199) (pc' := 203) rfl (hb hby at_199) (by decide) (by decide) ?_
                        exact kt
                      show own_End p e below s (T9.setTop (mkF m 203 #[.val (.int p1), .val (.int p2), .val (.int p3), .val (.int p4), .val (.int p5), .val (.int p6), .val (.int (p1 &&& (3 : Int32))), .val (.int xa), .val (.int xb), .val (.int xc), .val (.ref b2), .val (.ref b3), .val (.ref b7), .unset] [(.int (1 : Int32))])) (Q0 Z p1 p2 p3 p4 p5 p6 h0 n0) room_1.cells room_1.slots
                      exact j203 _ _ X9 rfl N9 (1 : Int32)  (hj.trans (by simp only [own_law_142, if_pos hc165_17, if_neg hc177_18, if_neg hc183_21, if_neg hc189_22, if_pos hc195_23]))
                    · refine own_pre (A := T9.setTop (mkF m 203 #[.val (.int p1), .val (.int p2), .val (.int p3), .val (.int p4), .val (.int p5), .val (.int p6), .val (.int (p1 &&& (3 : Int32))), .val (.int xa), .val (.int xb), .val (.int xc), .val (.ref b2), .val (.ref b3), .val (.ref b7), .unset] [(.int (0 : Int32))])) (fun tt kt => ?_) ?_
                      · show Steps p.tables e below (T9.setTop (mkF m 195 #[.val (.int p1), .val (.int p2), .val (.int p3), .val (.int p4), .val (.int p5), .val (.int p6), .val (.int (p1 &&& (3 : Int32))), .val (.int xa), .val (.int xb), .val (.int xc), .val (.ref b2), .val (.ref b3), .val (.ref b7), .unset] [(.int p2), (.int xc)])) _
                        refine XS.icmpYes X9.here hx rfl (pc0 := 195) (pc' := 202) rfl (hb hby at_195) rfl (feq hc195_23).2 (by decide) (by decide) ?_
                        show Steps p.tables e below (T9.setTop (mkF m 202 #[.val (.int p1), .val (.int p2), .val (.int p3), .val (.int p4), .val (.int p5), .val (.int p6), .val (.int (p1 &&& (3 : Int32))), .val (.int xa), .val (.int xb), .val (.int xc), .val (.ref b2), .val (.ref b3), .val (.ref b7), .unset] [])) _
                        refine XS.iconst X9.here hx rfl (hb hby at_202) ?_
                        exact kt
                      show own_End p e below s (T9.setTop (mkF m 203 #[.val (.int p1), .val (.int p2), .val (.int p3), .val (.int p4), .val (.int p5), .val (.int p6), .val (.int (p1 &&& (3 : Int32))), .val (.int xa), .val (.int xb), .val (.int xc), .val (.ref b2), .val (.ref b3), .val (.ref b7), .unset] [(.int (0 : Int32))])) (Q0 Z p1 p2 p3 p4 p5 p6 h0 n0) room_1.cells room_1.slots
                      exact j203 _ _ X9 rfl N9 (0 : Int32)  (hj.trans (by simp only [own_law_142, if_pos hc165_17, if_neg hc177_18, if_neg hc183_21, if_neg hc189_22, if_neg hc195_23]))
            · refine own_pre (A := T9.setTop (mkF m 171 #[.val (.int p1), .val (.int p2), .val (.int p3), .val (.int p4), .val (.int p5), .val (.int p6), .val (.int (p1 &&& (3 : Int32))), .val (.int xa), .val (.int xb), .val (.int xc), .val (.ref b2), .val (.ref b3), .val (.ref b7), .unset] [(.int p2), (.int xa)])) (fun tt kt => ?_) ?_
              · show Steps p.tables e below (T9.setTop (mkF m 165 #[.val (.int p1), .val (.int p2), .val (.int p3), .val (.int p4), .val (.int p5), .val (.int p6), .val (.int (p1 &&& (3 : Int32))), .val (.int xa), .val (.int xb), .val (.int xc), .val (.ref b2), .val (.ref b3), .val (.ref b7), .unset] [(.int (1 : Int32)), (.int (p1 &&& (3 : Int32)))])) _
                refine XS.icmpNo X9.here hx rfl (hb hby at_165) rfl (flt hc165_17).1 ?_
                show Steps p.tables e below (T9.setTop (mkF m 168 #[.val (.int p1), .val (.int p2), .val (.int p3), .val (.int p4), .val (.int p5), .val (.int p6), .val (.int (p1 &&& (3 : Int32))), .val (.int xa), .val (.int xb), .val (.int xc), .val (.ref b2), .val (.ref b3), .val (.ref b7), .unset] [])) _
                refine XS.iload X9.here hx rfl (hb hby at_168) rfl ?_
                show Steps p.tables e below (T9.setTop (mkF m 170 #[.val (.int p1), .val (.int p2), .val (.int p3), .val (.int p4), .val (.int p5), .val (.int p6), .val (.int (p1 &&& (3 : Int32))), .val (.int xa), .val (.int xb), .val (.int xc), .val (.ref b2), .val (.ref b3), .val (.ref b7), .unset] [(.int xa)])) _
                refine XS.iloadN X9.here hx rfl (hb hby at_170) rfl ?_
                exact kt
              show own_End p e below s (T9.setTop (mkF m 171 #[.val (.int p1), .val (.int p2), .val (.int p3), .val (.int p4), .val (.int p5), .val (.int p6), .val (.int (p1 &&& (3 : Int32))), .val (.int xa), .val (.int xb), .val (.int xc), .val (.ref b2), .val (.ref b3), .val (.ref b7), .unset] [(.int p2), (.int xa)])) (Q0 Z p1 p2 p3 p4 p5 p6 h0 n0) room_1.cells room_1.slots
              by_cases hc171_24 : xa = p2
              · refine own_pre (A := T9.setTop (mkF m 203 #[.val (.int p1), .val (.int p2), .val (.int p3), .val (.int p4), .val (.int p5), .val (.int p6), .val (.int (p1 &&& (3 : Int32))), .val (.int xa), .val (.int xb), .val (.int xc), .val (.ref b2), .val (.ref b3), .val (.ref b7), .unset] [(.int (1 : Int32))])) (fun tt kt => ?_) ?_
                · show Steps p.tables e below (T9.setTop (mkF m 171 #[.val (.int p1), .val (.int p2), .val (.int p3), .val (.int p4), .val (.int p5), .val (.int p6), .val (.int (p1 &&& (3 : Int32))), .val (.int xa), .val (.int xb), .val (.int xc), .val (.ref b2), .val (.ref b3), .val (.ref b7), .unset] [(.int p2), (.int xa)])) _
                  refine XS.icmpYes X9.here hx rfl (pc0 := 171) (pc' := 198) rfl (hb hby at_171) rfl (teq hc171_24).1 (by decide) (by decide) ?_
                  show Steps p.tables e below (T9.setTop (mkF m 198 #[.val (.int p1), .val (.int p2), .val (.int p3), .val (.int p4), .val (.int p5), .val (.int p6), .val (.int (p1 &&& (3 : Int32))), .val (.int xa), .val (.int xb), .val (.int xc), .val (.ref b2), .val (.ref b3), .val (.ref b7), .unset] [])) _
                  refine XS.iconst X9.here hx rfl (hb hby at_198) ?_
                  show Steps p.tables e below (T9.setTop (mkF m 199 #[.val (.int p1), .val (.int p2), .val (.int p3), .val (.int p4), .val (.int p5), .val (.int p6), .val (.int (p1 &&& (3 : Int32))), .val (.int xa), .val (.int xb), .val (.int xc), .val (.ref b2), .val (.ref b3), .val (.ref b7), .unset] [(.int (1 : Int32))])) _
                  refine XS.goto X9.here hx rfl (pc0 := 199) (pc' := 203) rfl (hb hby at_199) (by decide) (by decide) ?_
                  exact kt
                show own_End p e below s (T9.setTop (mkF m 203 #[.val (.int p1), .val (.int p2), .val (.int p3), .val (.int p4), .val (.int p5), .val (.int p6), .val (.int (p1 &&& (3 : Int32))), .val (.int xa), .val (.int xb), .val (.int xc), .val (.ref b2), .val (.ref b3), .val (.ref b7), .unset] [(.int (1 : Int32))])) (Q0 Z p1 p2 p3 p4 p5 p6 h0 n0) room_1.cells room_1.slots
                exact j203 _ _ X9 rfl N9 (1 : Int32)  (hj.trans (by simp only [own_law_142, if_neg hc165_17, if_pos hc171_24]))
              · refine own_pre (A := T9.setTop (mkF m 177 #[.val (.int p1), .val (.int p2), .val (.int p3), .val (.int p4), .val (.int p5), .val (.int p6), .val (.int (p1 &&& (3 : Int32))), .val (.int xa), .val (.int xb), .val (.int xc), .val (.ref b2), .val (.ref b3), .val (.ref b7), .unset] [(.int (2 : Int32)), (.int (p1 &&& (3 : Int32)))])) (fun tt kt => ?_) ?_
                · show Steps p.tables e below (T9.setTop (mkF m 171 #[.val (.int p1), .val (.int p2), .val (.int p3), .val (.int p4), .val (.int p5), .val (.int p6), .val (.int (p1 &&& (3 : Int32))), .val (.int xa), .val (.int xb), .val (.int xc), .val (.ref b2), .val (.ref b3), .val (.ref b7), .unset] [(.int p2), (.int xa)])) _
                  refine XS.icmpNo X9.here hx rfl (hb hby at_171) rfl (feq hc171_24).1 ?_
                  show Steps p.tables e below (T9.setTop (mkF m 174 #[.val (.int p1), .val (.int p2), .val (.int p3), .val (.int p4), .val (.int p5), .val (.int p6), .val (.int (p1 &&& (3 : Int32))), .val (.int xa), .val (.int xb), .val (.int xc), .val (.ref b2), .val (.ref b3), .val (.ref b7), .unset] [])) _
                  refine XS.iload X9.here hx rfl (hb hby at_174) rfl ?_
                  show Steps p.tables e below (T9.setTop (mkF m 176 #[.val (.int p1), .val (.int p2), .val (.int p3), .val (.int p4), .val (.int p5), .val (.int p6), .val (.int (p1 &&& (3 : Int32))), .val (.int xa), .val (.int xb), .val (.int xc), .val (.ref b2), .val (.ref b3), .val (.ref b7), .unset] [(.int (p1 &&& (3 : Int32)))])) _
                  refine XS.iconst X9.here hx rfl (hb hby at_176) ?_
                  exact kt
                show own_End p e below s (T9.setTop (mkF m 177 #[.val (.int p1), .val (.int p2), .val (.int p3), .val (.int p4), .val (.int p5), .val (.int p6), .val (.int (p1 &&& (3 : Int32))), .val (.int xa), .val (.int xb), .val (.int xc), .val (.ref b2), .val (.ref b3), .val (.ref b7), .unset] [(.int (2 : Int32)), (.int (p1 &&& (3 : Int32)))])) (Q0 Z p1 p2 p3 p4 p5 p6 h0 n0) room_1.cells room_1.slots
                by_cases hc177_25 : (p1 &&& (3 : Int32)) < (2 : Int32)
                · refine own_pre (A := T9.setTop (mkF m 189 #[.val (.int p1), .val (.int p2), .val (.int p3), .val (.int p4), .val (.int p5), .val (.int p6), .val (.int (p1 &&& (3 : Int32))), .val (.int xa), .val (.int xb), .val (.int xc), .val (.ref b2), .val (.ref b3), .val (.ref b7), .unset] [(.int (3 : Int32)), (.int (p1 &&& (3 : Int32)))])) (fun tt kt => ?_) ?_
                  · show Steps p.tables e below (T9.setTop (mkF m 177 #[.val (.int p1), .val (.int p2), .val (.int p3), .val (.int p4), .val (.int p5), .val (.int p6), .val (.int (p1 &&& (3 : Int32))), .val (.int xa), .val (.int xb), .val (.int xc), .val (.ref b2), .val (.ref b3), .val (.ref b7), .unset] [(.int (2 : Int32)), (.int (p1 &&& (3 : Int32)))])) _
                    refine XS.icmpYes X9.here hx rfl (pc0 := 177) (pc' := 186) rfl (hb hby at_177) rfl (tlt hc177_25).1 (by decide) (by decide) ?_
                    show Steps p.tables e below (T9.setTop (mkF m 186 #[.val (.int p1), .val (.int p2), .val (.int p3), .val (.int p4), .val (.int p5), .val (.int p6), .val (.int (p1 &&& (3 : Int32))), .val (.int xa), .val (.int xb), .val (.int xc), .val (.ref b2), .val (.ref b3), .val (.ref b7), .unset] [])) _
                    refine XS.iload X9.here hx rfl (hb hby at_186) rfl ?_
                    show Steps p.tables e below (T9.setTop (mkF m 188 #[.val (.int p1), .val (.int p2), .val (.int p3), .val (.int p4), .val (.int p5), .val (.int p6), .val (.int (p1 &&& (3 : Int32))), .val (.int xa), .val (.int xb), .val (.int xc), .val (.ref b2), .val (.ref b3), .val (.ref b7), .unset] [(.int (p1 &&& (3 : Int32)))])) _
                    refine XS.iconst X9.here hx rfl (hb hby at_188) ?_
                    exact kt
                  show own_End p e below s (T9.setTop (mkF m 189 #[.val (.int p1), .val (.int p2), .val (.int p3), .val (.int p4), .val (.int p5), .val (.int p6), .val (.int (p1 &&& (3 : Int32))), .val (.int xa), .val (.int xb), .val (.int xc), .val (.ref b2), .val (.ref b3), .val (.ref b7), .unset] [(.int (3 : Int32)), (.int (p1 &&& (3 : Int32)))])) (Q0 Z p1 p2 p3 p4 p5 p6 h0 n0) room_1.cells room_1.slots
                  by_cases hc189_26 : (p1 &&& (3 : Int32)) < (3 : Int32)
                  · refine own_pre (A := T9.setTop (mkF m 203 #[.val (.int p1), .val (.int p2), .val (.int p3), .val (.int p4), .val (.int p5), .val (.int p6), .val (.int (p1 &&& (3 : Int32))), .val (.int xa), .val (.int xb), .val (.int xc), .val (.ref b2), .val (.ref b3), .val (.ref b7), .unset] [(.int (0 : Int32))])) (fun tt kt => ?_) ?_
                    · show Steps p.tables e below (T9.setTop (mkF m 189 #[.val (.int p1), .val (.int p2), .val (.int p3), .val (.int p4), .val (.int p5), .val (.int p6), .val (.int (p1 &&& (3 : Int32))), .val (.int xa), .val (.int xb), .val (.int xc), .val (.ref b2), .val (.ref b3), .val (.ref b7), .unset] [(.int (3 : Int32)), (.int (p1 &&& (3 : Int32)))])) _
                      refine XS.icmpYes X9.here hx rfl (pc0 := 189) (pc' := 202) rfl (hb hby at_189) rfl (tlt hc189_26).1 (by decide) (by decide) ?_
                      show Steps p.tables e below (T9.setTop (mkF m 202 #[.val (.int p1), .val (.int p2), .val (.int p3), .val (.int p4), .val (.int p5), .val (.int p6), .val (.int (p1 &&& (3 : Int32))), .val (.int xa), .val (.int xb), .val (.int xc), .val (.ref b2), .val (.ref b3), .val (.ref b7), .unset] [])) _
                      refine XS.iconst X9.here hx rfl (hb hby at_202) ?_
                      exact kt
                    show own_End p e below s (T9.setTop (mkF m 203 #[.val (.int p1), .val (.int p2), .val (.int p3), .val (.int p4), .val (.int p5), .val (.int p6), .val (.int (p1 &&& (3 : Int32))), .val (.int xa), .val (.int xb), .val (.int xc), .val (.ref b2), .val (.ref b3), .val (.ref b7), .unset] [(.int (0 : Int32))])) (Q0 Z p1 p2 p3 p4 p5 p6 h0 n0) room_1.cells room_1.slots
                    exact j203 _ _ X9 rfl N9 (0 : Int32)  (hj.trans (by simp only [own_law_142, if_neg hc165_17, if_neg hc171_24, if_pos hc177_25, if_pos hc189_26]))
                  · refine own_pre (A := T9.setTop (mkF m 195 #[.val (.int p1), .val (.int p2), .val (.int p3), .val (.int p4), .val (.int p5), .val (.int p6), .val (.int (p1 &&& (3 : Int32))), .val (.int xa), .val (.int xb), .val (.int xc), .val (.ref b2), .val (.ref b3), .val (.ref b7), .unset] [(.int p2), (.int xc)])) (fun tt kt => ?_) ?_
                    · show Steps p.tables e below (T9.setTop (mkF m 189 #[.val (.int p1), .val (.int p2), .val (.int p3), .val (.int p4), .val (.int p5), .val (.int p6), .val (.int (p1 &&& (3 : Int32))), .val (.int xa), .val (.int xb), .val (.int xc), .val (.ref b2), .val (.ref b3), .val (.ref b7), .unset] [(.int (3 : Int32)), (.int (p1 &&& (3 : Int32)))])) _
                      refine XS.icmpNo X9.here hx rfl (hb hby at_189) rfl (flt hc189_26).1 ?_
                      show Steps p.tables e below (T9.setTop (mkF m 192 #[.val (.int p1), .val (.int p2), .val (.int p3), .val (.int p4), .val (.int p5), .val (.int p6), .val (.int (p1 &&& (3 : Int32))), .val (.int xa), .val (.int xb), .val (.int xc), .val (.ref b2), .val (.ref b3), .val (.ref b7), .unset] [])) _
                      refine XS.iload X9.here hx rfl (hb hby at_192) rfl ?_
                      show Steps p.tables e below (T9.setTop (mkF m 194 #[.val (.int p1), .val (.int p2), .val (.int p3), .val (.int p4), .val (.int p5), .val (.int p6), .val (.int (p1 &&& (3 : Int32))), .val (.int xa), .val (.int xb), .val (.int xc), .val (.ref b2), .val (.ref b3), .val (.ref b7), .unset] [(.int xc)])) _
                      refine XS.iloadN X9.here hx rfl (hb hby at_194) rfl ?_
                      exact kt
                    show own_End p e below s (T9.setTop (mkF m 195 #[.val (.int p1), .val (.int p2), .val (.int p3), .val (.int p4), .val (.int p5), .val (.int p6), .val (.int (p1 &&& (3 : Int32))), .val (.int xa), .val (.int xb), .val (.int xc), .val (.ref b2), .val (.ref b3), .val (.ref b7), .unset] [(.int p2), (.int xc)])) (Q0 Z p1 p2 p3 p4 p5 p6 h0 n0) room_1.cells room_1.slots
                    by_cases hc195_27 : xc = p2
                    · refine own_pre (A := T9.setTop (mkF m 203 #[.val (.int p1), .val (.int p2), .val (.int p3), .val (.int p4), .val (.int p5), .val (.int p6), .val (.int (p1 &&& (3 : Int32))), .val (.int xa), .val (.int xb), .val (.int xc), .val (.ref b2), .val (.ref b3), .val (.ref b7), .unset] [(.int (1 : Int32))])) (fun tt kt => ?_) ?_
                      · show Steps p.tables e below (T9.setTop (mkF m 195 #[.val (.int p1), .val (.int p2), .val (.int p3), .val (.int p4), .val (.int p5), .val (.int p6), .val (.int (p1 &&& (3 : Int32))), .val (.int xa), .val (.int xb), .val (.int xc), .val (.ref b2), .val (.ref b3), .val (.ref b7), .unset] [(.int p2), (.int xc)])) _
                        refine XS.icmpNo X9.here hx rfl (hb hby at_195) rfl (teq hc195_27).2 ?_
                        show Steps p.tables e below (T9.setTop (mkF m 198 #[.val (.int p1), .val (.int p2), .val (.int p3), .val (.int p4), .val (.int p5), .val (.int p6), .val (.int (p1 &&& (3 : Int32))), .val (.int xa), .val (.int xb), .val (.int xc), .val (.ref b2), .val (.ref b3), .val (.ref b7), .unset] [])) _
                        refine XS.iconst X9.here hx rfl (hb hby at_198) ?_
                        show Steps p.tables e below (T9.setTop (mkF m 199 #[.val (.int p1), .val (.int p2), .val (.int p3), .val (.int p4), .val (.int p5), .val (.int p6), .val (.int (p1 &&& (3 : Int32))), .val (.int xa), .val (.int xb), .val (.int xc), .val (.ref b2), .val (.ref b3), .val (.ref b7), .unset] [(.int (1 : Int32))])) _
                        refine XS.goto X9.here hx rfl (pc0 := 199) (pc' := 203) rfl (hb hby at_199) (by decide) (by decide) ?_
                        exact kt
                      show own_End p e below s (T9.setTop (mkF m 203 #[.val (.int p1), .val (.int p2), .val (.int p3), .val (.int p4), .val (.int p5), .val (.int p6), .val (.int (p1 &&& (3 : Int32))), .val (.int xa), .val (.int xb), .val (.int xc), .val (.ref b2), .val (.ref b3), .val (.ref b7), .unset] [(.int (1 : Int32))])) (Q0 Z p1 p2 p3 p4 p5 p6 h0 n0) room_1.cells room_1.slots
                      exact j203 _ _ X9 rfl N9 (1 : Int32)  (hj.trans (by simp only [own_law_142, if_neg hc165_17, if_neg hc171_24, if_pos hc177_25, if_neg hc189_26, if_pos hc195_27]))
                    · refine own_pre (A := T9.setTop (mkF m 203 #[.val (.int p1), .val (.int p2), .val (.int p3), .val (.int p4), .val (.int p5), .val (.int p6), .val (.int (p1 &&& (3 : Int32))), .val (.int xa), .val (.int xb), .val (.int xc), .val (.ref b2), .val (.ref b3), .val (.ref b7), .unset] [(.int (0 : Int32))])) (fun tt kt => ?_) ?_
                      · show Steps p.tables e below (T9.setTop (mkF m 195 #[.val (.int p1), .val (.int p2), .val (.int p3), .val (.int p4), .val (.int p5), .val (.int p6), .val (.int (p1 &&& (3 : Int32))), .val (.int xa), .val (.int xb), .val (.int xc), .val (.ref b2), .val (.ref b3), .val (.ref b7), .unset] [(.int p2), (.int xc)])) _
                        refine XS.icmpYes X9.here hx rfl (pc0 := 195) (pc' := 202) rfl (hb hby at_195) rfl (feq hc195_27).2 (by decide) (by decide) ?_
                        show Steps p.tables e below (T9.setTop (mkF m 202 #[.val (.int p1), .val (.int p2), .val (.int p3), .val (.int p4), .val (.int p5), .val (.int p6), .val (.int (p1 &&& (3 : Int32))), .val (.int xa), .val (.int xb), .val (.int xc), .val (.ref b2), .val (.ref b3), .val (.ref b7), .unset] [])) _
                        refine XS.iconst X9.here hx rfl (hb hby at_202) ?_
                        exact kt
                      show own_End p e below s (T9.setTop (mkF m 203 #[.val (.int p1), .val (.int p2), .val (.int p3), .val (.int p4), .val (.int p5), .val (.int p6), .val (.int (p1 &&& (3 : Int32))), .val (.int xa), .val (.int xb), .val (.int xc), .val (.ref b2), .val (.ref b3), .val (.ref b7), .unset] [(.int (0 : Int32))])) (Q0 Z p1 p2 p3 p4 p5 p6 h0 n0) room_1.cells room_1.slots
                      exact j203 _ _ X9 rfl N9 (0 : Int32)  (hj.trans (by simp only [own_law_142, if_neg hc165_17, if_neg hc171_24, if_pos hc177_25, if_neg hc189_26, if_neg hc195_27]))
                · refine own_pre (A := T9.setTop (mkF m 183 #[.val (.int p1), .val (.int p2), .val (.int p3), .val (.int p4), .val (.int p5), .val (.int p6), .val (.int (p1 &&& (3 : Int32))), .val (.int xa), .val (.int xb), .val (.int xc), .val (.ref b2), .val (.ref b3), .val (.ref b7), .unset] [(.int p2), (.int xb)])) (fun tt kt => ?_) ?_
                  · show Steps p.tables e below (T9.setTop (mkF m 177 #[.val (.int p1), .val (.int p2), .val (.int p3), .val (.int p4), .val (.int p5), .val (.int p6), .val (.int (p1 &&& (3 : Int32))), .val (.int xa), .val (.int xb), .val (.int xc), .val (.ref b2), .val (.ref b3), .val (.ref b7), .unset] [(.int (2 : Int32)), (.int (p1 &&& (3 : Int32)))])) _
                    refine XS.icmpNo X9.here hx rfl (hb hby at_177) rfl (flt hc177_25).1 ?_
                    show Steps p.tables e below (T9.setTop (mkF m 180 #[.val (.int p1), .val (.int p2), .val (.int p3), .val (.int p4), .val (.int p5), .val (.int p6), .val (.int (p1 &&& (3 : Int32))), .val (.int xa), .val (.int xb), .val (.int xc), .val (.ref b2), .val (.ref b3), .val (.ref b7), .unset] [])) _
                    refine XS.iload X9.here hx rfl (hb hby at_180) rfl ?_
                    show Steps p.tables e below (T9.setTop (mkF m 182 #[.val (.int p1), .val (.int p2), .val (.int p3), .val (.int p4), .val (.int p5), .val (.int p6), .val (.int (p1 &&& (3 : Int32))), .val (.int xa), .val (.int xb), .val (.int xc), .val (.ref b2), .val (.ref b3), .val (.ref b7), .unset] [(.int xb)])) _
                    refine XS.iloadN X9.here hx rfl (hb hby at_182) rfl ?_
                    exact kt
                  show own_End p e below s (T9.setTop (mkF m 183 #[.val (.int p1), .val (.int p2), .val (.int p3), .val (.int p4), .val (.int p5), .val (.int p6), .val (.int (p1 &&& (3 : Int32))), .val (.int xa), .val (.int xb), .val (.int xc), .val (.ref b2), .val (.ref b3), .val (.ref b7), .unset] [(.int p2), (.int xb)])) (Q0 Z p1 p2 p3 p4 p5 p6 h0 n0) room_1.cells room_1.slots
                  by_cases hc183_28 : xb = p2
                  · refine own_pre (A := T9.setTop (mkF m 203 #[.val (.int p1), .val (.int p2), .val (.int p3), .val (.int p4), .val (.int p5), .val (.int p6), .val (.int (p1 &&& (3 : Int32))), .val (.int xa), .val (.int xb), .val (.int xc), .val (.ref b2), .val (.ref b3), .val (.ref b7), .unset] [(.int (1 : Int32))])) (fun tt kt => ?_) ?_
                    · show Steps p.tables e below (T9.setTop (mkF m 183 #[.val (.int p1), .val (.int p2), .val (.int p3), .val (.int p4), .val (.int p5), .val (.int p6), .val (.int (p1 &&& (3 : Int32))), .val (.int xa), .val (.int xb), .val (.int xc), .val (.ref b2), .val (.ref b3), .val (.ref b7), .unset] [(.int p2), (.int xb)])) _
                      refine XS.icmpYes X9.here hx rfl (pc0 := 183) (pc' := 198) rfl (hb hby at_183) rfl (teq hc183_28).1 (by decide) (by decide) ?_
                      show Steps p.tables e below (T9.setTop (mkF m 198 #[.val (.int p1), .val (.int p2), .val (.int p3), .val (.int p4), .val (.int p5), .val (.int p6), .val (.int (p1 &&& (3 : Int32))), .val (.int xa), .val (.int xb), .val (.int xc), .val (.ref b2), .val (.ref b3), .val (.ref b7), .unset] [])) _
                      refine XS.iconst X9.here hx rfl (hb hby at_198) ?_
                      show Steps p.tables e below (T9.setTop (mkF m 199 #[.val (.int p1), .val (.int p2), .val (.int p3), .val (.int p4), .val (.int p5), .val (.int p6), .val (.int (p1 &&& (3 : Int32))), .val (.int xa), .val (.int xb), .val (.int xc), .val (.ref b2), .val (.ref b3), .val (.ref b7), .unset] [(.int (1 : Int32))])) _
                      refine XS.goto X9.here hx rfl (pc0 := 199) (pc' := 203) rfl (hb hby at_199) (by decide) (by decide) ?_
                      exact kt
                    show own_End p e below s (T9.setTop (mkF m 203 #[.val (.int p1), .val (.int p2), .val (.int p3), .val (.int p4), .val (.int p5), .val (.int p6), .val (.int (p1 &&& (3 : Int32))), .val (.int xa), .val (.int xb), .val (.int xc), .val (.ref b2), .val (.ref b3), .val (.ref b7), .unset] [(.int (1 : Int32))])) (Q0 Z p1 p2 p3 p4 p5 p6 h0 n0) room_1.cells room_1.slots
                    exact j203 _ _ X9 rfl N9 (1 : Int32)  (hj.trans (by simp only [own_law_142, if_neg hc165_17, if_neg hc171_24, if_neg hc177_25, if_pos hc183_28]))
                  · refine own_pre (A := T9.setTop (mkF m 189 #[.val (.int p1), .val (.int p2), .val (.int p3), .val (.int p4), .val (.int p5), .val (.int p6), .val (.int (p1 &&& (3 : Int32))), .val (.int xa), .val (.int xb), .val (.int xc), .val (.ref b2), .val (.ref b3), .val (.ref b7), .unset] [(.int (3 : Int32)), (.int (p1 &&& (3 : Int32)))])) (fun tt kt => ?_) ?_
                    · show Steps p.tables e below (T9.setTop (mkF m 183 #[.val (.int p1), .val (.int p2), .val (.int p3), .val (.int p4), .val (.int p5), .val (.int p6), .val (.int (p1 &&& (3 : Int32))), .val (.int xa), .val (.int xb), .val (.int xc), .val (.ref b2), .val (.ref b3), .val (.ref b7), .unset] [(.int p2), (.int xb)])) _
                      refine XS.icmpNo X9.here hx rfl (hb hby at_183) rfl (feq hc183_28).1 ?_
                      show Steps p.tables e below (T9.setTop (mkF m 186 #[.val (.int p1), .val (.int p2), .val (.int p3), .val (.int p4), .val (.int p5), .val (.int p6), .val (.int (p1 &&& (3 : Int32))), .val (.int xa), .val (.int xb), .val (.int xc), .val (.ref b2), .val (.ref b3), .val (.ref b7), .unset] [])) _
                      refine XS.iload X9.here hx rfl (hb hby at_186) rfl ?_
                      show Steps p.tables e below (T9.setTop (mkF m 188 #[.val (.int p1), .val (.int p2), .val (.int p3), .val (.int p4), .val (.int p5), .val (.int p6), .val (.int (p1 &&& (3 : Int32))), .val (.int xa), .val (.int xb), .val (.int xc), .val (.ref b2), .val (.ref b3), .val (.ref b7), .unset] [(.int (p1 &&& (3 : Int32)))])) _
                      refine XS.iconst X9.here hx rfl (hb hby at_188) ?_
                      exact kt
                    show own_End p e below s (T9.setTop (mkF m 189 #[.val (.int p1), .val (.int p2), .val (.int p3), .val (.int p4), .val (.int p5), .val (.int p6), .val (.int (p1 &&& (3 : Int32))), .val (.int xa), .val (.int xb), .val (.int xc), .val (.ref b2), .val (.ref b3), .val (.ref b7), .unset] [(.int (3 : Int32)), (.int (p1 &&& (3 : Int32)))])) (Q0 Z p1 p2 p3 p4 p5 p6 h0 n0) room_1.cells room_1.slots
                    by_cases hc189_29 : (p1 &&& (3 : Int32)) < (3 : Int32)
                    · refine own_pre (A := T9.setTop (mkF m 203 #[.val (.int p1), .val (.int p2), .val (.int p3), .val (.int p4), .val (.int p5), .val (.int p6), .val (.int (p1 &&& (3 : Int32))), .val (.int xa), .val (.int xb), .val (.int xc), .val (.ref b2), .val (.ref b3), .val (.ref b7), .unset] [(.int (0 : Int32))])) (fun tt kt => ?_) ?_
                      · show Steps p.tables e below (T9.setTop (mkF m 189 #[.val (.int p1), .val (.int p2), .val (.int p3), .val (.int p4), .val (.int p5), .val (.int p6), .val (.int (p1 &&& (3 : Int32))), .val (.int xa), .val (.int xb), .val (.int xc), .val (.ref b2), .val (.ref b3), .val (.ref b7), .unset] [(.int (3 : Int32)), (.int (p1 &&& (3 : Int32)))])) _
                        refine XS.icmpYes X9.here hx rfl (pc0 := 189) (pc' := 202) rfl (hb hby at_189) rfl (tlt hc189_29).1 (by decide) (by decide) ?_
                        show Steps p.tables e below (T9.setTop (mkF m 202 #[.val (.int p1), .val (.int p2), .val (.int p3), .val (.int p4), .val (.int p5), .val (.int p6), .val (.int (p1 &&& (3 : Int32))), .val (.int xa), .val (.int xb), .val (.int xc), .val (.ref b2), .val (.ref b3), .val (.ref b7), .unset] [])) _
                        refine XS.iconst X9.here hx rfl (hb hby at_202) ?_
                        exact kt
                      show own_End p e below s (T9.setTop (mkF m 203 #[.val (.int p1), .val (.int p2), .val (.int p3), .val (.int p4), .val (.int p5), .val (.int p6), .val (.int (p1 &&& (3 : Int32))), .val (.int xa), .val (.int xb), .val (.int xc), .val (.ref b2), .val (.ref b3), .val (.ref b7), .unset] [(.int (0 : Int32))])) (Q0 Z p1 p2 p3 p4 p5 p6 h0 n0) room_1.cells room_1.slots
                      exact j203 _ _ X9 rfl N9 (0 : Int32)  (hj.trans (by simp only [own_law_142, if_neg hc165_17, if_neg hc171_24, if_neg hc177_25, if_neg hc183_28, if_pos hc189_29]))
                    · refine own_pre (A := T9.setTop (mkF m 195 #[.val (.int p1), .val (.int p2), .val (.int p3), .val (.int p4), .val (.int p5), .val (.int p6), .val (.int (p1 &&& (3 : Int32))), .val (.int xa), .val (.int xb), .val (.int xc), .val (.ref b2), .val (.ref b3), .val (.ref b7), .unset] [(.int p2), (.int xc)])) (fun tt kt => ?_) ?_
                      · show Steps p.tables e below (T9.setTop (mkF m 189 #[.val (.int p1), .val (.int p2), .val (.int p3), .val (.int p4), .val (.int p5), .val (.int p6), .val (.int (p1 &&& (3 : Int32))), .val (.int xa), .val (.int xb), .val (.int xc), .val (.ref b2), .val (.ref b3), .val (.ref b7), .unset] [(.int (3 : Int32)), (.int (p1 &&& (3 : Int32)))])) _
                        refine XS.icmpNo X9.here hx rfl (hb hby at_189) rfl (flt hc189_29).1 ?_
                        show Steps p.tables e below (T9.setTop (mkF m 192 #[.val (.int p1), .val (.int p2), .val (.int p3), .val (.int p4), .val (.int p5), .val (.int p6), .val (.int (p1 &&& (3 : Int32))), .val (.int xa), .val (.int xb), .val (.int xc), .val (.ref b2), .val (.ref b3), .val (.ref b7), .unset] [])) _
                        refine XS.iload X9.here hx rfl (hb hby at_192) rfl ?_
                        show Steps p.tables e below (T9.setTop (mkF m 194 #[.val (.int p1), .val (.int p2), .val (.int p3), .val (.int p4), .val (.int p5), .val (.int p6), .val (.int (p1 &&& (3 : Int32))), .val (.int xa), .val (.int xb), .val (.int xc), .val (.ref b2), .val (.ref b3), .val (.ref b7), .unset] [(.int xc)])) _
                        refine XS.iloadN X9.here hx rfl (hb hby at_194) rfl ?_
                        exact kt
                      show own_End p e below s (T9.setTop (mkF m 195 #[.val (.int p1), .val (.int p2), .val (.int p3), .val (.int p4), .val (.int p5), .val (.int p6), .val (.int (p1 &&& (3 : Int32))), .val (.int xa), .val (.int xb), .val (.int xc), .val (.ref b2), .val (.ref b3), .val (.ref b7), .unset] [(.int p2), (.int xc)])) (Q0 Z p1 p2 p3 p4 p5 p6 h0 n0) room_1.cells room_1.slots
                      by_cases hc195_30 : xc = p2
                      · refine own_pre (A := T9.setTop (mkF m 203 #[.val (.int p1), .val (.int p2), .val (.int p3), .val (.int p4), .val (.int p5), .val (.int p6), .val (.int (p1 &&& (3 : Int32))), .val (.int xa), .val (.int xb), .val (.int xc), .val (.ref b2), .val (.ref b3), .val (.ref b7), .unset] [(.int (1 : Int32))])) (fun tt kt => ?_) ?_
                        · show Steps p.tables e below (T9.setTop (mkF m 195 #[.val (.int p1), .val (.int p2), .val (.int p3), .val (.int p4), .val (.int p5), .val (.int p6), .val (.int (p1 &&& (3 : Int32))), .val (.int xa), .val (.int xb), .val (.int xc), .val (.ref b2), .val (.ref b3), .val (.ref b7), .unset] [(.int p2), (.int xc)])) _
                          refine XS.icmpNo X9.here hx rfl (hb hby at_195) rfl (teq hc195_30).2 ?_
                          show Steps p.tables e below (T9.setTop (mkF m 198 #[.val (.int p1), .val (.int p2), .val (.int p3), .val (.int p4), .val (.int p5), .val (.int p6), .val (.int (p1 &&& (3 : Int32))), .val (.int xa), .val (.int xb), .val (.int xc), .val (.ref b2), .val (.ref b3), .val (.ref b7), .unset] [])) _
                          refine XS.iconst X9.here hx rfl (hb hby at_198) ?_
                          show Steps p.tables e below (T9.setTop (mkF m 199 #[.val (.int p1), .val (.int p2), .val (.int p3), .val (.int p4), .val (.int p5), .val (.int p6), .val (.int (p1 &&& (3 : Int32))), .val (.int xa), .val (.int xb), .val (.int xc), .val (.ref b2), .val (.ref b3), .val (.ref b7), .unset] [(.int (1 : Int32))])) _
                          refine XS.goto X9.here hx rfl (pc0 := 199) (pc' := 203) rfl (hb hby at_199) (by decide) (by decide) ?_
                          exact kt
                        show own_End p e below s (T9.setTop (mkF m 203 #[.val (.int p1), .val (.int p2), .val (.int p3), .val (.int p4), .val (.int p5), .val (.int p6), .val (.int (p1 &&& (3 : Int32))), .val (.int xa), .val (.int xb), .val (.int xc), .val (.ref b2), .val (.ref b3), .val (.ref b7), .unset] [(.int (1 : Int32))])) (Q0 Z p1 p2 p3 p4 p5 p6 h0 n0) room_1.cells room_1.slots
                        exact j203 _ _ X9 rfl N9 (1 : Int32)  (hj.trans (by simp only [own_law_142, if_neg hc165_17, if_neg hc171_24, if_neg hc177_25, if_neg hc183_28, if_neg hc189_29, if_pos hc195_30]))
                      · refine own_pre (A := T9.setTop (mkF m 203 #[.val (.int p1), .val (.int p2), .val (.int p3), .val (.int p4), .val (.int p5), .val (.int p6), .val (.int (p1 &&& (3 : Int32))), .val (.int xa), .val (.int xb), .val (.int xc), .val (.ref b2), .val (.ref b3), .val (.ref b7), .unset] [(.int (0 : Int32))])) (fun tt kt => ?_) ?_
                        · show Steps p.tables e below (T9.setTop (mkF m 195 #[.val (.int p1), .val (.int p2), .val (.int p3), .val (.int p4), .val (.int p5), .val (.int p6), .val (.int (p1 &&& (3 : Int32))), .val (.int xa), .val (.int xb), .val (.int xc), .val (.ref b2), .val (.ref b3), .val (.ref b7), .unset] [(.int p2), (.int xc)])) _
                          refine XS.icmpYes X9.here hx rfl (pc0 := 195) (pc' := 202) rfl (hb hby at_195) rfl (feq hc195_30).2 (by decide) (by decide) ?_
                          show Steps p.tables e below (T9.setTop (mkF m 202 #[.val (.int p1), .val (.int p2), .val (.int p3), .val (.int p4), .val (.int p5), .val (.int p6), .val (.int (p1 &&& (3 : Int32))), .val (.int xa), .val (.int xb), .val (.int xc), .val (.ref b2), .val (.ref b3), .val (.ref b7), .unset] [])) _
                          refine XS.iconst X9.here hx rfl (hb hby at_202) ?_
                          exact kt
                        show own_End p e below s (T9.setTop (mkF m 203 #[.val (.int p1), .val (.int p2), .val (.int p3), .val (.int p4), .val (.int p5), .val (.int p6), .val (.int (p1 &&& (3 : Int32))), .val (.int xa), .val (.int xb), .val (.int xc), .val (.ref b2), .val (.ref b3), .val (.ref b7), .unset] [(.int (0 : Int32))])) (Q0 Z p1 p2 p3 p4 p5 p6 h0 n0) room_1.cells room_1.slots
                        exact j203 _ _ X9 rfl N9 (0 : Int32)  (hj.trans (by simp only [own_law_142, if_neg hc165_17, if_neg hc171_24, if_neg hc177_25, if_neg hc183_28, if_neg hc189_29, if_neg hc195_30]))
          by_cases hc134_31 : (p6 &&& (8 : Int32)) = (0 : Int32)
          · refine own_pre (A := T3.setTop (mkF m 142 #[.val (.int p1), .val (.int p2), .val (.int p3), .val (.int p4), .val (.int p5), .val (.int p6), .val (.int (p1 &&& (3 : Int32))), .val (.int xa), .val (.int xb), .val (.int xc), .val (.ref b2), .unset, .unset, .unset] [(.int p4), (.int (0 : Int32)), (.ref b3), (.ref b3)])) (fun tt kt => ?_) ?_
            · show Steps p.tables e below (T3.setTop (mkF m 134 #[.val (.int p1), .val (.int p2), .val (.int p3), .val (.int p4), .val (.int p5), .val (.int p6), .val (.int (p1 &&& (3 : Int32))), .val (.int xa), .val (.int xb), .val (.int xc), .val (.ref b2), .unset, .unset, .unset] [(.int (p6 &&& (8 : Int32))), (.int (0 : Int32)), (.ref b3), (.ref b3)])) _
              refine XS.ifYes X3.here hx rfl (pc0 := 134) (pc' := 141) rfl (hb hby at_134) rfl ((if0 _ _).trans (teq hc134_31).1) (by decide) (by decide) ?_
              show Steps p.tables e below (T3.setTop (mkF m 141 #[.val (.int p1), .val (.int p2), .val (.int p3), .val (.int p4), .val (.int p5), .val (.int p6), .val (.int (p1 &&& (3 : Int32))), .val (.int xa), .val (.int xb), .val (.int xc), .val (.ref b2), .unset, .unset, .unset] [(.int (0 : Int32)), (.ref b3), (.ref b3)])) _
              refine XS.iloadN X3.here hx rfl (hb hby at_141) rfl ?_
              exact kt
            show own_End p e below s (T3.setTop (mkF m 142 #[.val (.int p1), .val (.int p2), .val (.int p3), .val (.int p4), .val (.int p5), .val (.int p6), .val (.int (p1 &&& (3 : Int32))), .val (.int xa), .val (.int xb), .val (.int xc), .val (.ref b2), .unset, .unset, .unset] [(.int p4), (.int (0 : Int32)), (.ref b3), (.ref b3)])) (Q0 Z p1 p2 p3 p4 p5 p6 h0 n0) room_1.cells room_1.slots
            exact j142 _ _ X3 e3 Nj46 p4  (hj.trans (by simp only [own_law_46, if_pos hc50_1, if_pos hc134_31]))
          · refine own_pre (A := T3.setTop (mkF m 142 #[.val (.int p1), .val (.int p2), .val (.int p3), .val (.int p4), .val (.int p5), .val (.int p6), .val (.int (p1 &&& (3 : Int32))), .val (.int xa), .val (.int xb), .val (.int xc), .val (.ref b2), .unset, .unset, .unset] [(.int p2), (.int (0 : Int32)), (.ref b3), (.ref b3)])) (fun tt kt => ?_) ?_
            · show Steps p.tables e below (T3.setTop (mkF m 134 #[.val (.int p1), .val (.int p2), .val (.int p3), .val (.int p4), .val (.int p5), .val (.int p6), .val (.int (p1 &&& (3 : Int32))), .val (.int xa), .val (.int xb), .val (.int xc), .val (.ref b2), .unset, .unset, .unset] [(.int (p6 &&& (8 : Int32))), (.int (0 : Int32)), (.ref b3), (.ref b3)])) _
              refine XS.ifNo X3.here hx rfl (hb hby at_134) rfl ((if0 _ _).trans (feq hc134_31).1) ?_
              show Steps p.tables e below (T3.setTop (mkF m 137 #[.val (.int p1), .val (.int p2), .val (.int p3), .val (.int p4), .val (.int p5), .val (.int p6), .val (.int (p1 &&& (3 : Int32))), .val (.int xa), .val (.int xb), .val (.int xc), .val (.ref b2), .unset, .unset, .unset] [(.int (0 : Int32)), (.ref b3), (.ref b3)])) _
              refine XS.iloadN X3.here hx rfl (hb hby at_137) rfl ?_
              show Steps p.tables e below (T3.setTop (mkF m 138 #[.val (.int p1), .val (.int p2), .val (.int p3), .val (.int p4), .val (.int p5), .val (.int p6), .val (.int (p1 &&& (3 : Int32))), .val (.int xa), .val (.int xb), .val (.int xc), .val (.ref b2), .unset, .unset, .unset] [(.int p2), (.int (0 : Int32)), (.ref b3), (.ref b3)])) _
              refine XS.goto X3.here hx rfl (pc0 := 138) (pc' := 142) rfl (hb hby at_138) (by decide) (by decide) ?_
              exact kt
            show own_End p e below s (T3.setTop (mkF m 142 #[.val (.int p1), .val (.int p2), .val (.int p3), .val (.int p4), .val (.int p5), .val (.int p6), .val (.int (p1 &&& (3 : Int32))), .val (.int xa), .val (.int xb), .val (.int xc), .val (.ref b2), .unset, .unset, .unset] [(.int p2), (.int (0 : Int32)), (.ref b3), (.ref b3)])) (Q0 Z p1 p2 p3 p4 p5 p6 h0 n0) room_1.cells room_1.slots
            exact j142 _ _ X3 e3 Nj46 p2  (hj.trans (by simp only [own_law_46, if_pos hc50_1, if_neg hc134_31]))
        · refine own_pre (A := Tj46.setTop (mkF m 64 #[.val (.int p1), .val (.int p2), .val (.int p3), .val (.int p4), .val (.int p5), .val (.int p6), .val (.int (p1 &&& (3 : Int32))), .val (.int xa), .val (.int xb), .val (.int xc), .unset, .unset, .unset, .unset] [(.int (1 : Int32)), (.int (p1 &&& (3 : Int32)))])) (fun tt kt => ?_) ?_
          · show Steps p.tables e below (Tj46.setTop (mkF m 50 #[.val (.int p1), .val (.int p2), .val (.int p3), .val (.int p4), .val (.int p5), .val (.int p6), .val (.int (p1 &&& (3 : Int32))), .val (.int xa), .val (.int xb), .val (.int xc), .unset, .unset, .unset, .unset] [(.int (p1 &&& (3 : Int32)))])) _
            refine XS.ifYes Xj46.here hx rfl (pc0 := 50) (pc' := 61) rfl (hb hby at_50) rfl ((if0 _ _).trans (feq hc50_1).2) (by decide) (by decide) ?_
            show Steps p.tables e below (Tj46.setTop (mkF m 61 #[.val (.int p1), .val (.int p2), .val (.int p3), .val (.int p4), .val (.int p5), .val (.int p6), .val (.int (p1 &&& (3 : Int32))), .val (.int xa), .val (.int xb), .val (.int xc), .unset, .unset, .unset, .unset] [])) _
            refine XS.iload Xj46.here hx rfl (hb hby at_61) rfl ?_
            show Steps p.tables e below (Tj46.setTop (mkF m 63 #[.val (.int p1), .val (.int p2), .val (.int p3), .val (.int p4), .val (.int p5), .val (.int p6), .val (.int (p1 &&& (3 : Int32))), .val (.int xa), .val (.int xb), .val (.int xc), .unset, .unset, .unset, .unset] [(.int (p1 &&& (3 : Int32)))])) _
            refine XS.iconst Xj46.here hx rfl (hb hby at_63) ?_
            exact kt
          show own_End p e below s (Tj46.setTop (mkF m 64 #[.val (.int p1), .val (.int p2), .val (.int p3), .val (.int p4), .val (.int p5), .val (.int p6), .val (.int (p1 &&& (3 : Int32))), .val (.int xa), .val (.int xb), .val (.int xc), .unset, .unset, .unset, .unset] [(.int (1 : Int32)), (.int (p1 &&& (3 : Int32)))])) (Q0 Z p1 p2 p3 p4 p5 p6 h0 n0) room_1.cells room_1.slots
          by_cases hc64_32 : (p1 &&& (3 : Int32)) = (1 : Int32)
          · obtain ⟨T33, h33, k33, X33, e33, E33, A33, st33⟩ := newP Xj46 hx hZ (hw _ (List.mem_of_getElem? (i := 0) rfl)) ej46 (g := (mkF m 68 #[.val (.int p1), .val (.int p2), .val (.int p3), .val (.int p4), .val (.int p5), .val (.int p6), .val (.int (p1 &&& (3 : Int32))), .val (.int xa), .val (.int xb), .val (.int xc), .unset, .unset, .unset, .unset] [(.int (1 : Int32))])) rfl (hb hby at_68) rfl (by decide) (cap := 1) (by decide) (by decide) (by decide) (by decide)
            obtain ⟨b33, g33⟩ : ∃ z, z = h0.size := ⟨_, rfl⟩
            rw [← g33] at A33 st33
            have g_b33 : n0 ≤ b33 := Nat.le_trans Z0 (Nat.le_of_eq g33.symm)
            have sz_b33 : h0.size ≤ b33 := Nat.le_trans (show Keep h0 h0 [] from (Keep.refl h0 _)).1 (Nat.le_of_eq g33.symm)
            have K33 : Keep h0 h33 [] := Keep.ext (Keep.refl h0 _) E33
            have Z33 : n0 ≤ h33.size := Nat.le_trans Z0 E33.1
            have V33 : own_Arr Z h33 b33 .int (1 : Int32) (fun i => Value.int ((fun _ => (0 : Int32)) i)) := own_Arr.new A33 (by decide) (fun _ => rfl)
            obtain ⟨cl34, Ar34, S34, Nn34, G34⟩ := id V33
            have hin34 : ¬ ((0 : Int32) < 0 ∨ cl34.slots.size ≤ (0 : Int32).toNatClampNeg) := inb_of S34 (⟨by decide, by decide⟩ : ¬ (0 : Int32) < 0 ∧ (0 : Int32) < (1 : Int32))
            obtain ⟨T35, h35, X35, e35, W35, st35⟩ := stI X33 hx hZ e33 Ar34 (j := (0 : Int32)) hin34 (g := (mkF m 74 #[.val (.int p1), .val (.int p2), .val (.int p3), .val (.int p4), .val (.int p5), .val (.int p6), .val (.int (p1 &&& (3 : Int32))), .val (.int xa), .val (.int xb), .val (.int xc), .unset, .unset, .unset, .unset] [(.int xa), (.int (0 : Int32)), (.ref b33), (.ref b33)])) rfl rfl (hb hby at_74)
            have V35 : own_Arr Z h35 b33 .int (1 : Int32) (fun i => Value.int ((own_law0_g36 p1 p2 p3 p4 p5 p6 xa xb xc) i)) := own_Arr.set (w := Value.int) (g := (fun _ => (0 : Int32))) (x := xa) V33 W35 rfl (fun i => rfl)
            have N35 := Fr.snoc X35 Nj46 g_b33
            have K35 : Keep h0 h35 [] := Keep.wr K33 W35 (Or.inr sz_b33)
            have Z35 : n0 ≤ h35.size := Nat.le_trans Z33 (Nat.le_of_eq W35.size.symm)
            obtain ⟨T37, h37, k37, X37, e37, E37, A37, st37⟩ := newP X35 hx hZ (hw _ (List.mem_of_getElem? (i := 0) rfl)) e35 (g := (mkF m 125 #[.val (.int p1), .val (.int p2), .val (.int p3), .val (.int p4), .val (.int p5), .val (.int p6), .val (.int (p1 &&& (3 : Int32))), .val (.int xa), .val (.int xb), .val (.int xc), .val (.ref b33), .unset, .unset, .unset] [(.int (1 : Int32))])) rfl (hb hby at_125) rfl (by decide) (cap := 1) (by decide) (by decide) (by decide) (by decide)
            obtain ⟨b37, g37⟩ : ∃ z, z = h35.size := ⟨_, rfl⟩
            rw [← g37] at A37 st37
            have ne_b33_b37 : b33 ≠ b37 := Nat.ne_of_lt (Nat.lt_of_lt_of_le V35.lt (Nat.le_of_eq g37.symm))
            have g_b37 : n0 ≤ b37 := Nat.le_trans Z35 (Nat.le_of_eq g37.symm)
            have sz_b37 : h0.size ≤ b37 := Nat.le_trans (show Keep h0 h35 [] from K35).1 (Nat.le_of_eq g37.symm)
            have fA_b33_x37 := (V35.ext E37)
            have K37 : Keep h0 h37 [] := Keep.ext K35 E37
            have Z37 : n0 ≤ h37.size := Nat.le_trans Z35 E37.1
            have V37 : own_Arr Z h37 b37 .int (1 : Int32) (fun i => Value.int ((fun _ => (0 : Int32)) i)) := own_Arr.new A37 (by decide) (fun _ => rfl)
            refine own_pre (A := T37.setTop (mkF m 134 #[.val (.int p1), .val (.int p2), .val (.int p3), .val (.int p4), .val (.int p5), .val (.int p6), .val (.int (p1 &&& (3 : Int32))), .val (.int xa), .val (.int xb), .val (.int xc), .val (.ref b33), .unset, .unset, .unset] [(.int (p6 &&& (8 : Int32))), (.int (0 : Int32)), (.ref b37), (.ref b37)])) (fun tt kt => ?_) ?_
            · show Steps p.tables e below (Tj46.setTop (mkF m 64 #[.val (.int p1), .val (.int p2), .val (.int p3), .val (.int p4), .val (.int p5), .val (.int p6), .val (.int (p1 &&& (3 : Int32))), .val (.int xa), .val (.int xb), .val (.int xc), .unset, .unset, .unset, .unset] [(.int (1 : Int32)), (.int (p1 &&& (3 : Int32)))])) _
              refine XS.icmpNo Xj46.here hx rfl (hb hby at_64) rfl (teq hc64_32).2 ?_
              show Steps p.tables e below (Tj46.setTop (mkF m 67 #[.val (.int p1), .val (.int p2), .val (.int p3), .val (.int p4), .val (.int p5), .val (.int p6), .val (.int (p1 &&& (3 : Int32))), .val (.int xa), .val (.int xb), .val (.int xc), .unset, .unset, .unset, .unset] [])) _
              refine XS.iconst Xj46.here hx rfl (hb hby at_67) ?_
              show Steps p.tables e below (Tj46.setTop (mkF m 68 #[.val (.int p1), .val (.int p2), .val (.int p3), .val (.int p4), .val (.int p5), .val (.int p6), .val (.int (p1 &&& (3 : Int32))), .val (.int xa), .val (.int xb), .val (.int xc), .unset, .unset, .unset, .unset] [(.int (1 : Int32))])) _
              refine st33 _ ?_
              show Steps p.tables e below (T33.setTop (mkF m 70 #[.val (.int p1), .val (.int p2), .val (.int p3), .val (.int p4), .val (.int p5), .val (.int p6), .val (.int (p1 &&& (3 : Int32))), .val (.int xa), .val (.int xb), .val (.int xc), .unset, .unset, .unset, .unset] [(.ref b33)])) _
              refine XS.dup X33.here hx rfl (hb hby at_70) rfl rfl ?_
              show Steps p.tables e below (T33.setTop (mkF m 71 #[.val (.int p1), .val (.int p2), .val (.int p3), .val (.int p4), .val (.int p5), .val (.int p6), .val (.int (p1 &&& (3 : Int32))), .val (.int xa), .val (.int xb), .val (.int xc), .unset, .unset, .unset, .unset] [(.ref b33), (.ref b33)])) _
              refine XS.iconst X33.here hx rfl (hb hby at_71) ?_
              show Steps p.tables e below (T33.setTop (mkF m 72 #[.val (.int p1), .val (.int p2), .val (.int p3), .val (.int p4), .val (.int p5), .val (.int p6), .val (.int (p1 &&& (3 : Int32))), .val (.int xa), .val (.int xb), .val (.int xc), .unset, .unset, .unset, .unset] [(.int (0 : Int32)), (.ref b33), (.ref b33)])) _
              refine XS.iload X33.here hx rfl (hb hby at_72) rfl ?_
              show Steps p.tables e below (T33.setTop (mkF m 74 #[.val (.int p1), .val (.int p2), .val (.int p3), .val (.int p4), .val (.int p5), .val (.int p6), .val (.int (p1 &&& (3 : Int32))), .val (.int xa), .val (.int xb), .val (.int xc), .unset, .unset, .unset, .unset] [(.int xa), (.int (0 : Int32)), (.ref b33), (.ref b33)])) _
              refine st35 _ ?_
              show Steps p.tables e below (T35.setTop (mkF m 75 #[.val (.int p1), .val (.int p2), .val (.int p3), .val (.int p4), .val (.int p5), .val (.int p6), .val (.int (p1 &&& (3 : Int32))), .val (.int xa), .val (.int xb), .val (.int xc), .unset, .unset, .unset, .unset] [(.ref b33)])) _
              refine XS.astore X35.here hx rfl (hb hby at_75) rfl rfl (l' := #[.val (.int p1), .val (.int p2), .val (.int p3), .val (.int p4), .val (.int p5), .val (.int p6), .val (.int (p1 &&& (3 : Int32))), .val (.int xa), .val (.int xb), .val (.int xc), .val (.ref b33), .unset, .unset, .unset]) rfl ?_
              show Steps p.tables e below (T35.setTop (mkF m 77 #[.val (.int p1), .val (.int p2), .val (.int p3), .val (.int p4), .val (.int p5), .val (.int p6), .val (.int (p1 &&& (3 : Int32))), .val (.int xa), .val (.int xb), .val (.int xc), .val (.ref b33), .unset, .unset, .unset] [])) _
              refine XS.goto X35.here hx rfl (pc0 := 77) (pc' := 124) rfl (hb hby at_77) (by decide) (by decide) ?_
              show Steps p.tables e below (T35.setTop (mkF m 124 #[.val (.int p1), .val (.int p2), .val (.int p3), .val (.int p4), .val (.int p5), .val (.int p6), .val (.int (p1 &&& (3 : Int32))), .val (.int xa), .val (.int xb), .val (.int xc), .val (.ref b33), .unset, .unset, .unset] [])) _
              refine XS.iconst X35.here hx rfl (hb hby at_124) ?_
              show Steps p.tables e below (T35.setTop (mkF m 125 #[.val (.int p1), .val (.int p2), .val (.int p3), .val (.int p4), .val (.int p5), .val (.int p6), .val (.int (p1 &&& (3 : Int32))), .val (.int xa), .val (.int xb), .val (.int xc), .val (.ref b33), .unset, .unset, .unset] [(.int (1 : Int32))])) _
              refine st37 _ ?_
              show Steps p.tables e below (T37.setTop (mkF m 127 #[.val (.int p1), .val (.int p2), .val (.int p3), .val (.int p4), .val (.int p5), .val (.int p6), .val (.int (p1 &&& (3 : Int32))), .val (.int xa), .val (.int xb), .val (.int xc), .val (.ref b33), .unset, .unset, .unset] [(.ref b37)])) _
              refine XS.dup X37.here hx rfl (hb hby at_127) rfl rfl ?_
              show Steps p.tables e below (T37.setTop (mkF m 128 #[.val (.int p1), .val (.int p2), .val (.int p3), .val (.int p4), .val (.int p5), .val (.int p6), .val (.int (p1 &&& (3 : Int32))), .val (.int xa), .val (.int xb), .val (.int xc), .val (.ref b33), .unset, .unset, .unset] [(.ref b37), (.ref b37)])) _
              refine XS.iconst X37.here hx rfl (hb hby at_128) ?_
              show Steps p.tables e below (T37.setTop (mkF m 129 #[.val (.int p1), .val (.int p2), .val (.int p3), .val (.int p4), .val (.int p5), .val (.int p6), .val (.int (p1 &&& (3 : Int32))), .val (.int xa), .val (.int xb), .val (.int xc), .val (.ref b33), .unset, .unset, .unset] [(.int (0 : Int32)), (.ref b37), (.ref b37)])) _
              refine XS.iload X37.here hx rfl (hb hby at_129) rfl ?_
              show Steps p.tables e below (T37.setTop (mkF m 131 #[.val (.int p1), .val (.int p2), .val (.int p3), .val (.int p4), .val (.int p5), .val (.int p6), .val (.int (p1 &&& (3 : Int32))), .val (.int xa), .val (.int xb), .val (.int xc), .val (.ref b33), .unset, .unset, .unset] [(.int p6), (.int (0 : Int32)), (.ref b37), (.ref b37)])) _
              refine XS.bipush X37.here hx rfl (hb hby at_131) ?_
              show Steps p.tables e below (T37.setTop (mkF m 133 #[.val (.int p1), .val (.int p2), .val (.int p3), .val (.int p4), .val (.int p5), .val (.int p6), .val (.int (p1 &&& (3 : Int32))), .val (.int xa), .val (.int xb), .val (.int xc), .val (.ref b33), .unset, .unset, .unset] [(.int (8 : Int32)), (.int p6), (.int (0 : Int32)), (.ref b37), (.ref b37)])) _
              refine XS.iand X37.here hx rfl (hb hby at_133) rfl ?_
              exact kt
            show own_End p e below s (T37.setTop (mkF m 134 #[.val (.int p1), .val (.int p2), .val (.int p3), .val (.int p4), .val (.int p5), .val (.int p6), .val (.int (p1 &&& (3 : Int32))), .val (.int xa), .val (.int xb), .val (.int xc), .val (.ref b33), .unset, .unset, .unset] [(.int (p6 &&& (8 : Int32))), (.int (0 : Int32)), (.ref b37), (.ref b37)])) (Q0 Z p1 p2 p3 p4 p5 p6 h0 n0) room_1.cells room_1.slots
            have j142 : ∀ (Tj142 : State) (Lj142 : List Loc) (Xj142 : Stand p l e room_1 s m #[(.int p1), (.int p2), (.int p3), (.int p4), (.int p5), (.int p6)] below meth c Tj142 Lj142 2 2) (ej142 : Tj142.heap = h37) (Nj142 : Fr n0 Lj142) (wv : Int32) , own_law p1 p2 p3 p4 p5 p6 = own_law_142b p1 p2 p3 p4 p5 p6 xa xb xc wv → own_End p e below s (Tj142.setTop (mkF m 142 #[.val (.int p1), .val (.int p2), .val (.int p3), .val (.int p4), .val (.int p5), .val (.int p6), .val (.int (p1 &&& (3 : Int32))), .val (.int xa), .val (.int xb), .val (.int xc), .val (.ref b33), .unset, .unset, .unset] [(.int wv), (.int (0 : Int32)), (.ref b37), (.ref b37)])) (Q0 Z p1 p2 p3 p4 p5 p6 h0 n0) room_1.cells room_1.slots := by
              intro Tj142 Lj142 Xj142 ej142 Nj142 wv  hj
              obtain ⟨cl38, Ar38, S38, Nn38, G38⟩ := id V37
              have hin38 : ¬ ((0 : Int32) < 0 ∨ cl38.slots.size ≤ (0 : Int32).toNatClampNeg) := inb_of S38 (⟨by decide, by decide⟩ : ¬ (0 : Int32) < 0 ∧ (0 : Int32) < (1 : Int32))
              obtain ⟨T39, h39, X39, e39, W39, st39⟩ := stI Xj142 hx hZ ej142 Ar38 (j := (0 : Int32)) hin38 (g := (mkF m 142 #[.val (.int p1), .val (.int p2), .val (.int p3), .val (.int p4), .val (.int p5), .val (.int p6), .val (.int (p1 &&& (3 : Int32))), .val (.int xa), .val (.int xb), .val (.int xc), .val (.ref b33), .unset, .unset, .unset] [(.int wv), (.int (0 : Int32)), (.ref b37), (.ref b37)])) rfl rfl (hb hby at_142)
              have fA_b33_x39 := (fA_b33_x37.other W39 ne_b33_b37)
              have V39 : own_Arr Z h39 b37 .int (1 : Int32) (fun i => Value.int ((own_law0_g40 p1 p2 p3 p4 p5 p6 xa xb xc wv) i)) := own_Arr.set (w := Value.int) (g := (fun _ => (0 : Int32))) (x := wv) V37 W39 rfl (fun i => rfl)
              have N39 := Fr.snoc X39 Nj142 g_b37
              have K39 : Keep h0 h39 [] := Keep.wr K37 W39 (Or.inr sz_b37)
              have Z39 : n0 ≤ h39.size := Nat.le_trans Z37 (Nat.le_of_eq W39.size.symm)
              obtain ⟨T41, h41, X41, e41, E41, A41, D41, -, st41⟩ := newO X39 hx hZ hown (hw _ (List.mem_of_getElem? (i := 1) rfl)) (hw _ (List.mem_of_getElem? (i := 2) rfl)) (hw _ (List.mem_of_getElem? (i := 3) rfl)) e39 (g := (mkF m 145 #[.val (.int p1), .val (.int p2), .val (.int p3), .val (.int p4), .val (.int p5), .val (.int p6), .val (.int (p1 &&& (3 : Int32))), .val (.int xa), .val (.int xb), .val (.int xc), .val (.ref b33), .val (.ref b37), .unset, .unset] [])) rfl (hb hby at_145) (by decide) (by decide)
              obtain ⟨b41, g41⟩ : ∃ z, z = h39.size := ⟨_, rfl⟩
              rw [← g41] at A41 D41 st41
              have ne_b33_b41 : b33 ≠ b41 := Nat.ne_of_lt (Nat.lt_of_lt_of_le fA_b33_x39.lt (Nat.le_of_eq g41.symm))
              have ne_b37_b41 : b37 ≠ b41 := Nat.ne_of_lt (Nat.lt_of_lt_of_le V39.lt (Nat.le_of_eq g41.symm))
              have g_b41 : n0 ≤ b41 := Nat.le_trans Z39 (Nat.le_of_eq g41.symm)
              have sz_b41 : h0.size ≤ b41 := Nat.le_trans (show Keep h0 h39 [] from K39).1 (Nat.le_of_eq g41.symm)
              have fA_b33_x41 := (fA_b33_x39.ext E41)
              have fA_b37_x41 := (V39.ext E41)
              have K41 : Keep h0 h41 [] := Keep.ext K39 E41
              have Z41 : n0 ≤ h41.size := Nat.le_trans Z39 E41.1
              have F_winning_b41 : Fld Z h41 b41 "com/example/scratchline/scratchline/game/Face" "winning" "[I" .null := D41 (Or.inr (hw _ (List.mem_of_getElem? (i := 12) rfl))) (ty := (.array .int)) (by decide)
              have F_bonus_b41 : Fld Z h41 b41 "com/example/scratchline/scratchline/game/Face" "bonus" "I" (.int (0 : Int32)) := D41 (Or.inr (hw _ (List.mem_of_getElem? (i := 14) rfl))) (ty := .int) (by decide)
              have F_spots_b41 : Fld Z h41 b41 "com/example/scratchline/scratchline/game/Face" "spots" "[I" .null := D41 (Or.inr (hw _ (List.mem_of_getElem? (i := 16) rfl))) (ty := (.array .int)) (by decide)
              have F_prizes_b41 : Fld Z h41 b41 "com/example/scratchline/scratchline/game/Face" "prizes" "[J" .null := D41 (Or.inr (hw _ (List.mem_of_getElem? (i := 18) rfl))) (ty := (.array .long)) (by decide)
              obtain ⟨T42, h42, k42, X42, e42, E42, A42, st42⟩ := newP X41 hx hZ (hw _ (List.mem_of_getElem? (i := 4) rfl)) e41 (g := (mkF m 155 #[.val (.int p1), .val (.int p2), .val (.int p3), .val (.int p4), .val (.int p5), .val (.int p6), .val (.int (p1 &&& (3 : Int32))), .val (.int xa), .val (.int xb), .val (.int xc), .val (.ref b33), .val (.ref b37), .unset, .unset] [(.int (0 : Int32)), (.ref b33), (.int p2), (.ref b37), (.ref b41), (.ref b41)])) rfl (hb hby at_155) rfl (by decide) (cap := 0) (by decide) (by decide) (by decide) (by decide)
              obtain ⟨b42, g42⟩ : ∃ z, z = h41.size := ⟨_, rfl⟩
              rw [← g42] at A42 st42
              have ne_b33_b42 : b33 ≠ b42 := Nat.ne_of_lt (Nat.lt_of_lt_of_le fA_b33_x41.lt (Nat.le_of_eq g42.symm))
              have ne_b37_b42 : b37 ≠ b42 := Nat.ne_of_lt (Nat.lt_of_lt_of_le fA_b37_x41.lt (Nat.le_of_eq g42.symm))
              have ne_b41_b42 : b41 ≠ b42 := Nat.ne_of_lt (Nat.lt_of_lt_of_le A41.lt (Nat.le_of_eq g42.symm))
              have g_b42 : n0 ≤ b42 := Nat.le_trans Z41 (Nat.le_of_eq g42.symm)
              have sz_b42 : h0.size ≤ b42 := Nat.le_trans (show Keep h0 h41 [] from K41).1 (Nat.le_of_eq g42.symm)
              have fA_b33_x42 := (fA_b33_x41.ext E42)
              have fA_b37_x42 := (fA_b37_x41.ext E42)
              have fE_b41_x42 := (A41.ext E42)
              have fF_b41_winning_x42 := (F_winning_b41.ext E42)
              have fF_b41_bonus_x42 := (F_bonus_b41.ext E42)
              have fF_b41_spots_x42 := (F_spots_b41.ext E42)
              have fF_b41_prizes_x42 := (F_prizes_b41.ext E42)
              have K42 : Keep h0 h42 [] := Keep.ext K41 E42
              have Z42 : n0 ≤ h42.size := Nat.le_trans Z41 E42.1
              have V42 : own_Arr Z h42 b42 .long (0 : Int32) (fun i => Value.long ((fun _ => (0 : Int64)) i)) := own_Arr.new A42 (by decide) (fun _ => rfl)
              obtain ⟨_, _, ⟨T43, L43, k43, n43⟩, -, X43, ⟨Lc43, hQ43, l43, y43, z43⟩, st43⟩ := X42.specialBack hx (y := (⟨"com/example/scratchline/scratchline/game/Face", "<init>", "([II[I[J)V"⟩ : MethodName)) rfl hown (mvT hZ (hw _ (List.mem_of_getElem? (i := 5) rfl))) (mvT hZ (hw _ (List.mem_of_getElem? (i := 6) rfl))) (mvT hZ (hw _ (List.mem_of_getElem? (i := 7) rfl))) (by decide) (backOf (W := 1) (rm1 l Z a0 hw [] b41 b37 p2 b33 b42 (0 : Int32) h42 n0 Z42 ⟨fE_b41_x42, fF_b41_winning_x42, fF_b41_bonus_x42, fF_b41_spots_x42, fF_b41_prizes_x42⟩ g_b41) hZ (hw _ (List.mem_of_getElem? (i := 7) rfl)) (hw _ (List.mem_of_getElem? (i := 3) rfl)) (by decide) (by decide)) (g := (mkF m 157 #[.val (.int p1), .val (.int p2), .val (.int p3), .val (.int p4), .val (.int p5), .val (.int p6), .val (.int (p1 &&& (3 : Int32))), .val (.int xa), .val (.int xb), .val (.int xc), .val (.ref b33), .val (.ref b37), .unset, .unset] [(.ref b42), (.ref b33), (.int p2), (.ref b37), (.ref b41), (.ref b41)])) rfl (by rw [hml]; rfl) (Steps.refl _) (a := b41) (argsL := [(.ref b37), (.int p2), (.ref b33), (.ref b42)]) (rest := [(.ref b41)]) (lenOf pd_0_0 rfl) rfl (by show 2 * 0 + _ ≤ _; exact Nat.le_of_eq rfl) (hb hby at_157) (fun _ _ => ⟨rfl, e42, (by decide : 4 + 0 ≤ _), (by decide : 6 + 0 ≤ _)⟩)
              dsimp only [Pt.U, Pt.locs, Pt.cells, Pt.slots] at X43 l43 y43 z43 st43 hQ43
              subst l43 y43 z43
              obtain ⟨rfl, N43q, Kq43, O43_0⟩ := hQ43
              have N43 := Fr.app N39 N43q
              have fA_b33_x43 := (fA_b33_x42.keep Kq43 (ninS ne_b33_b41 nin0))
              have fA_b37_x43 := (fA_b37_x42.keep Kq43 (ninS ne_b37_b41 nin0))
              have fE_b41_x43 := (fE_b41_x42.keep Kq43)
              have fA_b42_x43 := (V42.keep Kq43 (ninS (Ne.symm ne_b41_b42) nin0))
              have K43 : Keep h0 T43.heap [] := Keep.trans K42 Kq43 (allS (Or.inr sz_b41) all0)
              have Z43 : n0 ≤ T43.heap.size := Nat.le_trans Z42 Kq43.1
              obtain ⟨E_b41_44, F_winning_b41_45, F_bonus_b41_46, F_spots_b41_47, F_prizes_b41_48⟩ := O43_0
              refine own_pre (A := T43.setTop (mkF m 165 #[.val (.int p1), .val (.int p2), .val (.int p3), .val (.int p4), .val (.int p5), .val (.int p6), .val (.int (p1 &&& (3 : Int32))), .val (.int xa), .val (.int xb), .val (.int xc), .val (.ref b33), .val (.ref b37), .val (.ref b41), .unset] [(.int (1 : Int32)), (.int (p1 &&& (3 : Int32)))])) (fun tt kt => ?_) ?_
              · show Steps p.tables e below (Tj142.setTop (mkF m 142 #[.val (.int p1), .val (.int p2), .val (.int p3), .val (.int p4), .val (.int p5), .val (.int p6), .val (.int (p1 &&& (3 : Int32))), .val (.int xa), .val (.int xb), .val (.int xc), .val (.ref b33), .unset, .unset, .unset] [(.int wv), (.int (0 : Int32)), (.ref b37), (.ref b37)])) _
                refine st39 _ ?_
                show Steps p.tables e below (T39.setTop (mkF m 143 #[.val (.int p1), .val (.int p2), .val (.int p3), .val (.int p4), .val (.int p5), .val (.int p6), .val (.int (p1 &&& (3 : Int32))), .val (.int xa), .val (.int xb), .val (.int xc), .val (.ref b33), .unset, .unset, .unset] [(.ref b37)])) _
                refine XS.astore X39.here hx rfl (hb hby at_143) rfl rfl (l' := #[.val (.int p1), .val (.int p2), .val (.int p3), .val (.int p4), .val (.int p5), .val (.int p6), .val (.int (p1 &&& (3 : Int32))), .val (.int xa), .val (.int xb), .val (.int xc), .val (.ref b33), .val (.ref b37), .unset, .unset]) rfl ?_
                show Steps p.tables e below (T39.setTop (mkF m 145 #[.val (.int p1), .val (.int p2), .val (.int p3), .val (.int p4), .val (.int p5), .val (.int p6), .val (.int (p1 &&& (3 : Int32))), .val (.int xa), .val (.int xb), .val (.int xc), .val (.ref b33), .val (.ref b37), .unset, .unset] [])) _
                refine st41 _ ?_
                show Steps p.tables e below (T41.setTop (mkF m 148 #[.val (.int p1), .val (.int p2), .val (.int p3), .val (.int p4), .val (.int p5), .val (.int p6), .val (.int (p1 &&& (3 : Int32))), .val (.int xa), .val (.int xb), .val (.int xc), .val (.ref b33), .val (.ref b37), .unset, .unset] [(.ref b41)])) _
                refine XS.dup X41.here hx rfl (hb hby at_148) rfl rfl ?_
                show Steps p.tables e below (T41.setTop (mkF m 149 #[.val (.int p1), .val (.int p2), .val (.int p3), .val (.int p4), .val (.int p5), .val (.int p6), .val (.int (p1 &&& (3 : Int32))), .val (.int xa), .val (.int xb), .val (.int xc), .val (.ref b33), .val (.ref b37), .unset, .unset] [(.ref b41), (.ref b41)])) _
                refine XS.aload X41.here hx rfl (hb hby at_149) rfl rfl ?_
                show Steps p.tables e below (T41.setTop (mkF m 151 #[.val (.int p1), .val (.int p2), .val (.int p3), .val (.int p4), .val (.int p5), .val (.int p6), .val (.int (p1 &&& (3 : Int32))), .val (.int xa), .val (.int xb), .val (.int xc), .val (.ref b33), .val (.ref b37), .unset, .unset] [(.ref b37), (.ref b41), (.ref b41)])) _
                refine XS.iloadN X41.here hx rfl (hb hby at_151) rfl ?_
                show Steps p.tables e below (T41.setTop (mkF m 152 #[.val (.int p1), .val (.int p2), .val (.int p3), .val (.int p4), .val (.int p5), .val (.int p6), .val (.int (p1 &&& (3 : Int32))), .val (.int xa), .val (.int xb), .val (.int xc), .val (.ref b33), .val (.ref b37), .unset, .unset] [(.int p2), (.ref b37), (.ref b41), (.ref b41)])) _
                refine XS.aload X41.here hx rfl (hb hby at_152) rfl rfl ?_
                show Steps p.tables e below (T41.setTop (mkF m 154 #[.val (.int p1), .val (.int p2), .val (.int p3), .val (.int p4), .val (.int p5), .val (.int p6), .val (.int (p1 &&& (3 : Int32))), .val (.int xa), .val (.int xb), .val (.int xc), .val (.ref b33), .val (.ref b37), .unset, .unset] [(.ref b33), (.int p2), (.ref b37), (.ref b41), (.ref b41)])) _
                refine XS.iconst X41.here hx rfl (hb hby at_154) ?_
                show Steps p.tables e below (T41.setTop (mkF m 155 #[.val (.int p1), .val (.int p2), .val (.int p3), .val (.int p4), .val (.int p5), .val (.int p6), .val (.int (p1 &&& (3 : Int32))), .val (.int xa), .val (.int xb), .val (.int xc), .val (.ref b33), .val (.ref b37), .unset, .unset] [(.int (0 : Int32)), (.ref b33), (.int p2), (.ref b37), (.ref b41), (.ref b41)])) _
                refine st42 _ ?_
                show Steps p.tables e below (T42.setTop (mkF m 157 #[.val (.int p1), .val (.int p2), .val (.int p3), .val (.int p4), .val (.int p5), .val (.int p6), .val (.int (p1 &&& (3 : Int32))), .val (.int xa), .val (.int xb), .val (.int xc), .val (.ref b33), .val (.ref b37), .unset, .unset] [(.ref b42), (.ref b33), (.int p2), (.ref b37), (.ref b41), (.ref b41)])) _
                refine st43.trans ?_
                show Steps p.tables e below (T43.setTop (mkF m 160 #[.val (.int p1), .val (.int p2), .val (.int p3), .val (.int p4), .val (.int p5), .val (.int p6), .val (.int (p1 &&& (3 : Int32))), .val (.int xa), .val (.int xb), .val (.int xc), .val (.ref b33), .val (.ref b37), .unset, .unset] [(.ref b41)])) _
                refine XS.astore X43.here hx rfl (hb hby at_160) rfl rfl (l' := #[.val (.int p1), .val (.int p2), .val (.int p3), .val (.int p4), .val (.int p5), .val (.int p6), .val (.int (p1 &&& (3 : Int32))), .val (.int xa), .val (.int xb), .val (.int xc), .val (.ref b33), .val (.ref b37), .val (.ref b41), .unset]) rfl ?_
                show Steps p.tables e below (T43.setTop (mkF m 162 #[.val (.int p1), .val (.int p2), .val (.int p3), .val (.int p4), .val (.int p5), .val (.int p6), .val (.int (p1 &&& (3 : Int32))), .val (.int xa), .val (.int xb), .val (.int xc), .val (.ref b33), .val (.ref b37), .val (.ref b41), .unset] [])) _
                refine XS.iload X43.here hx rfl (hb hby at_162) rfl ?_
                show Steps p.tables e below (T43.setTop (mkF m 164 #[.val (.int p1), .val (.int p2), .val (.int p3), .val (.int p4), .val (.int p5), .val (.int p6), .val (.int (p1 &&& (3 : Int32))), .val (.int xa), .val (.int xb), .val (.int xc), .val (.ref b33), .val (.ref b37), .val (.ref b41), .unset] [(.int (p1 &&& (3 : Int32)))])) _
                refine XS.iconst X43.here hx rfl (hb hby at_164) ?_
                exact kt
              show own_End p e below s (T43.setTop (mkF m 165 #[.val (.int p1), .val (.int p2), .val (.int p3), .val (.int p4), .val (.int p5), .val (.int p6), .val (.int (p1 &&& (3 : Int32))), .val (.int xa), .val (.int xb), .val (.int xc), .val (.ref b33), .val (.ref b37), .val (.ref b41), .unset] [(.int (1 : Int32)), (.int (p1 &&& (3 : Int32)))])) (Q0 Z p1 p2 p3 p4 p5 p6 h0 n0) room_1.cells room_1.slots
              have j203 : ∀ (Tj203 : State) (Lj203 : List Loc) (Xj203 : Stand p l e room_1 s m #[(.int p1), (.int p2), (.int p3), (.int p4), (.int p5), (.int p6)] below meth c Tj203 Lj203 4 6) (ej203 : Tj203.heap = T43.heap) (Nj203 : Fr n0 Lj203) (ex : Int32) , own_law p1 p2 p3 p4 p5 p6 = own_law_203b p1 p2 p3 p4 p5 p6 xa xb xc wv ex → own_End p e below s (Tj203.setTop (mkF m 203 #[.val (.int p1), .val (.int p2), .val (.int p3), .val (.int p4), .val (.int p5), .val (.int p6), .val (.int (p1 &&& (3 : Int32))), .val (.int xa), .val (.int xb), .val (.int xc), .val (.ref b33), .val (.ref b37), .val (.ref b41), .unset] [(.int ex)])) (Q0 Z p1 p2 p3 p4 p5 p6 h0 n0) room_1.cells room_1.slots := by
                intro Tj203 Lj203 Xj203 ej203 Nj203 ex  hj
                obtain ⟨cq49, kq49, q49a, q49b, q49c⟩ := isOf hZ ej203 E_b41_44
                obtain ⟨_, _, ⟨T49, L49, k49, n49⟩, -, X49, ⟨Lc49, hQ49, l49, y49, z49⟩, st49⟩ := Xj203.virtualBack hx (y := (⟨"com/example/scratchline/scratchline/game/Face", "showsBonus", "()Z"⟩ : MethodName)) (z := (⟨"com/example/scratchline/scratchline/game/Face", "showsBonus", "()Z"⟩ : MethodName)) hown (mvT hZ (hw _ (List.mem_of_getElem? (i := 19) rfl))) (mvT hZ (hw _ (List.mem_of_getElem? (i := 20) rfl))) (notFace_of_selects (args := #[]) (mvT hZ (hw _ (List.mem_of_getElem? (i := 22) rfl)))) (mvT hZ (hw _ (List.mem_of_getElem? (i := 22) rfl))) (mvT hZ (hw _ (List.mem_of_getElem? (i := 21) rfl))) (by decide) (backOf (W := 0) (rm3 l Z a0 hw [] b41 b37 p2 b33 b42 (own_law0_g36 p1 p2 p3 p4 p5 p6 xa xb xc) (1 : Int32) T43.heap n0 Z43 ⟨E_b41_44, F_winning_b41_45, F_bonus_b41_46, F_spots_b41_47, F_prizes_b41_48⟩ fA_b33_x43) hZ (hw _ (List.mem_of_getElem? (i := 23) rfl)) (hw _ (List.mem_of_getElem? (i := 3) rfl)) (by decide) (by decide)) q49a q49c (g := (mkF m 207 #[.val (.int p1), .val (.int p2), .val (.int p3), .val (.int p4), .val (.int p5), .val (.int p6), .val (.int (p1 &&& (3 : Int32))), .val (.int xa), .val (.int xb), .val (.int xc), .val (.ref b33), .val (.ref b37), .val (.ref b41), .val (.int ex)] [(.ref b41)])) rfl (by rw [hml]; rfl) (Steps.refl _) (argsL := []) (rest := []) (lenOf pd_0_1 rfl) rfl (by show 2 * 0 + _ ≤ _; exact Nat.le_of_eq rfl) (hb hby at_207) (fun _ _ => ⟨rfl, ej203, (by decide : 4 + 0 ≤ _), (by decide : 6 + 0 ≤ _)⟩)
                dsimp only [Pt.U, Pt.locs, Pt.cells, Pt.slots] at X49 l49 y49 z49 st49 hQ49
                subst l49 y49 z49
                obtain ⟨rfl, N49q, e49⟩ := hQ49
                have N49 := Fr.app Nj203 N49q
                refine own_pre (A := T49.setTop (mkF m 212 #[.val (.int p1), .val (.int p2), .val (.int p3), .val (.int p4), .val (.int p5), .val (.int p6), .val (.int (p1 &&& (3 : Int32))), .val (.int xa), .val (.int xb), .val (.int xc), .val (.ref b33), .val (.ref b37), .val (.ref b41), .val (.int ex)] [(.int ex), (.int (own_shows (own_law0_g36 p1 p2 p3 p4 p5 p6 xa xb xc) (1 : Int32) p2))])) (fun tt kt => ?_) ?_
                · show Steps p.tables e below (Tj203.setTop (mkF m 203 #[.val (.int p1), .val (.int p2), .val (.int p3), .val (.int p4), .val (.int p5), .val (.int p6), .val (.int (p1 &&& (3 : Int32))), .val (.int xa), .val (.int xb), .val (.int xc), .val (.ref b33), .val (.ref b37), .val (.ref b41), .unset] [(.int ex)])) _
                  refine XS.istore Xj203.here hx rfl (hb hby at_203) rfl (l' := #[.val (.int p1), .val (.int p2), .val (.int p3), .val (.int p4), .val (.int p5), .val (.int p6), .val (.int (p1 &&& (3 : Int32))), .val (.int xa), .val (.int xb), .val (.int xc), .val (.ref b33), .val (.ref b37), .val (.ref b41), .val (.int ex)]) rfl ?_
                  show Steps p.tables e below (Tj203.setTop (mkF m 205 #[.val (.int p1), .val (.int p2), .val (.int p3), .val (.int p4), .val (.int p5), .val (.int p6), .val (.int (p1 &&& (3 : Int32))), .val (.int xa), .val (.int xb), .val (.int xc), .val (.ref b33), .val (.ref b37), .val (.ref b41), .val (.int ex)] [])) _
                  refine XS.aload Xj203.here hx rfl (hb hby at_205) rfl rfl ?_
                  show Steps p.tables e below (Tj203.setTop (mkF m 207 #[.val (.int p1), .val (.int p2), .val (.int p3), .val (.int p4), .val (.int p5), .val (.int p6), .val (.int (p1 &&& (3 : Int32))), .val (.int xa), .val (.int xb), .val (.int xc), .val (.ref b33), .val (.ref b37), .val (.ref b41), .val (.int ex)] [(.ref b41)])) _
                  refine st49.trans ?_
                  show Steps p.tables e below (T49.setTop (mkF m 210 #[.val (.int p1), .val (.int p2), .val (.int p3), .val (.int p4), .val (.int p5), .val (.int p6), .val (.int (p1 &&& (3 : Int32))), .val (.int xa), .val (.int xb), .val (.int xc), .val (.ref b33), .val (.ref b37), .val (.ref b41), .val (.int ex)] [(.int (own_shows (own_law0_g36 p1 p2 p3 p4 p5 p6 xa xb xc) (1 : Int32) p2))])) _
                  refine XS.iload X49.here hx rfl (hb hby at_210) rfl ?_
                  exact kt
                show own_End p e below s (T49.setTop (mkF m 212 #[.val (.int p1), .val (.int p2), .val (.int p3), .val (.int p4), .val (.int p5), .val (.int p6), .val (.int (p1 &&& (3 : Int32))), .val (.int xa), .val (.int xb), .val (.int xc), .val (.ref b33), .val (.ref b37), .val (.ref b41), .val (.int ex)] [(.int ex), (.int (own_shows (own_law0_g36 p1 p2 p3 p4 p5 p6 xa xb xc) (1 : Int32) p2))])) (Q0 Z p1 p2 p3 p4 p5 p6 h0 n0) room_1.cells room_1.slots
                by_cases hc212_50 : (own_shows (own_law0_g36 p1 p2 p3 p4 p5 p6 xa xb xc) (1 : Int32) p2) = ex
                · refine own_pre (A := T49.setTop (mkF m 220 #[.val (.int p1), .val (.int p2), .val (.int p3), .val (.int p4), .val (.int p5), .val (.int p6), .val (.int (p1 &&& (3 : Int32))), .val (.int xa), .val (.int xb), .val (.int xc), .val (.ref b33), .val (.ref b37), .val (.ref b41), .val (.int ex)] [(.int (1 : Int32))])) (fun tt kt => ?_) ?_
                  · show Steps p.tables e below (T49.setTop (mkF m 212 #[.val (.int p1), .val (.int p2), .val (.int p3), .val (.int p4), .val (.int p5), .val (.int p6), .val (.int (p1 &&& (3 : Int32))), .val (.int xa), .val (.int xb), .val (.int xc), .val (.ref b33), .val (.ref b37), .val (.ref b41), .val (.int ex)] [(.int ex), (.int (own_shows (own_law0_g36 p1 p2 p3 p4 p5 p6 xa xb xc) (1 : Int32) p2))])) _
                    refine XS.icmpNo X49.here hx rfl (hb hby at_212) rfl (teq hc212_50).2 ?_
                    show Steps p.tables e below (T49.setTop (mkF m 215 #[.val (.int p1), .val (.int p2), .val (.int p3), .val (.int p4), .val (.int p5), .val (.int p6), .val (.int (p1 &&& (3 : Int32))), .val (.int xa), .val (.int xb), .val (.int xc), .val (.ref b33), .val (.ref b37), .val (.ref b41), .val (.int ex)] [])) _
                    refine XS.iconst X49.here hx rfl (hb hby at_215) ?_
                    show Steps p.tables e below (T49.setTop (mkF m 216 #[.val (.int p1), .val (.int p2), .val (.int p3), .val (.int p4), .val (.int p5), .val (.int p6), .val (.int (p1 &&& (3 : Int32))), .val (.int xa), .val (.int xb), .val (.int xc), .val (.ref b33), .val (.ref b37), .val (.ref b41), .val (.int ex)] [(.int (1 : Int32))])) _
                    refine XS.goto X49.here hx rfl (pc0 := 216) (pc' := 220) rfl (hb hby at_216) (by decide) (by decide) ?_
                    exact kt
                  show own_End p e below s (T49.setTop (mkF m 220 #[.val (.int p1), .val (.int p2), .val (.int p3), .val (.int p4), .val (.int p5), .val (.int p6), .val (.int (p1 &&& (3 : Int32))), .val (.int xa), .val (.int xb), .val (.int xc), .val (.ref b33), .val (.ref b37), .val (.ref b41), .val (.int ex)] [(.int (1 : Int32))])) (Q0 Z p1 p2 p3 p4 p5 p6 h0 n0) room_1.cells room_1.slots
                  have hv : (own_law p1 p2 p3 p4 p5 p6) = (1 : Int32) := hj.trans (by simp only [own_law_203b, if_pos hc212_50])
                  obtain ⟨fs, hr, hrun, hended, hW, hsame⟩ := X49.leave (v := some (.int (1 : Int32))) (fun h => by rw [Bd.returns] at h; cases h)
                  refine ⟨_, _, ?_, hrun, hended, _, _, rfl, ?_, ⟨_, rfl⟩, hW, hsame.mono (by decide) (by decide)⟩
                  · exact retN X49 hx (t := .boolean) Bd.returns (by simp) (hb hby at_220) hr
                  · show Q0 Z p1 p2 p3 p4 p5 p6 h0 n0 _ T49.heap _
                    rw [e49]
                    exact ⟨(congrArg (fun z => some (Value.int z)) hv.symm), N49⟩
                · refine own_pre (A := T49.setTop (mkF m 220 #[.val (.int p1), .val (.int p2), .val (.int p3), .val (.int p4), .val (.int p5), .val (.int p6), .val (.int (p1 &&& (3 : Int32))), .val (.int xa), .val (.int xb), .val (.int xc), .val (.ref b33), .val (.ref b37), .val (.ref b41), .val (.int ex)] [(.int (0 : Int32))])) (fun tt kt => ?_) ?_
                  · show Steps p.tables e below (T49.setTop (mkF m 212 #[.val (.int p1), .val (.int p2), .val (.int p3), .val (.int p4), .val (.int p5), .val (.int p6), .val (.int (p1 &&& (3 : Int32))), .val (.int xa), .val (.int xb), .val (.int xc), .val (.ref b33), .val (.ref b37), .val (.ref b41), .val (.int ex)] [(.int ex), (.int (own_shows (own_law0_g36 p1 p2 p3 p4 p5 p6 xa xb xc) (1 : Int32) p2))])) _
                    refine XS.icmpYes X49.here hx rfl (pc0 := 212) (pc' := 219) rfl (hb hby at_212) rfl (feq hc212_50).2 (by decide) (by decide) ?_
                    show Steps p.tables e below (T49.setTop (mkF m 219 #[.val (.int p1), .val (.int p2), .val (.int p3), .val (.int p4), .val (.int p5), .val (.int p6), .val (.int (p1 &&& (3 : Int32))), .val (.int xa), .val (.int xb), .val (.int xc), .val (.ref b33), .val (.ref b37), .val (.ref b41), .val (.int ex)] [])) _
                    refine XS.iconst X49.here hx rfl (hb hby at_219) ?_
                    exact kt
                  show own_End p e below s (T49.setTop (mkF m 220 #[.val (.int p1), .val (.int p2), .val (.int p3), .val (.int p4), .val (.int p5), .val (.int p6), .val (.int (p1 &&& (3 : Int32))), .val (.int xa), .val (.int xb), .val (.int xc), .val (.ref b33), .val (.ref b37), .val (.ref b41), .val (.int ex)] [(.int (0 : Int32))])) (Q0 Z p1 p2 p3 p4 p5 p6 h0 n0) room_1.cells room_1.slots
                  have hv : (own_law p1 p2 p3 p4 p5 p6) = (0 : Int32) := hj.trans (by simp only [own_law_203b, if_neg hc212_50])
                  obtain ⟨fs, hr, hrun, hended, hW, hsame⟩ := X49.leave (v := some (.int (0 : Int32))) (fun h => by rw [Bd.returns] at h; cases h)
                  refine ⟨_, _, ?_, hrun, hended, _, _, rfl, ?_, ⟨_, rfl⟩, hW, hsame.mono (by decide) (by decide)⟩
                  · exact retN X49 hx (t := .boolean) Bd.returns (by simp) (hb hby at_220) hr
                  · show Q0 Z p1 p2 p3 p4 p5 p6 h0 n0 _ T49.heap _
                    rw [e49]
                    exact ⟨(congrArg (fun z => some (Value.int z)) hv.symm), N49⟩
              by_cases hc165_51 : (p1 &&& (3 : Int32)) < (1 : Int32)
              · refine own_pre (A := T43.setTop (mkF m 177 #[.val (.int p1), .val (.int p2), .val (.int p3), .val (.int p4), .val (.int p5), .val (.int p6), .val (.int (p1 &&& (3 : Int32))), .val (.int xa), .val (.int xb), .val (.int xc), .val (.ref b33), .val (.ref b37), .val (.ref b41), .unset] [(.int (2 : Int32)), (.int (p1 &&& (3 : Int32)))])) (fun tt kt => ?_) ?_
                · show Steps p.tables e below (T43.setTop (mkF m 165 #[.val (.int p1), .val (.int p2), .val (.int p3), .val (.int p4), .val (.int p5), .val (.int p6), .val (.int (p1 &&& (3 : Int32))), .val (.int xa), .val (.int xb), .val (.int xc), .val (.ref b33), .val (.ref b37), .val (.ref b41), .unset] [(.int (1 : Int32)), (.int (p1 &&& (3 : Int32)))])) _
                  refine XS.icmpYes X43.here hx rfl (pc0 := 165) (pc' := 174) rfl (hb hby at_165) rfl (tlt hc165_51).1 (by decide) (by decide) ?_
                  show Steps p.tables e below (T43.setTop (mkF m 174 #[.val (.int p1), .val (.int p2), .val (.int p3), .val (.int p4), .val (.int p5), .val (.int p6), .val (.int (p1 &&& (3 : Int32))), .val (.int xa), .val (.int xb), .val (.int xc), .val (.ref b33), .val (.ref b37), .val (.ref b41), .unset] [])) _
                  refine XS.iload X43.here hx rfl (hb hby at_174) rfl ?_
                  show Steps p.tables e below (T43.setTop (mkF m 176 #[.val (.int p1), .val (.int p2), .val (.int p3), .val (.int p4), .val (.int p5), .val (.int p6), .val (.int (p1 &&& (3 : Int32))), .val (.int xa), .val (.int xb), .val (.int xc), .val (.ref b33), .val (.ref b37), .val (.ref b41), .unset] [(.int (p1 &&& (3 : Int32)))])) _
                  refine XS.iconst X43.here hx rfl (hb hby at_176) ?_
                  exact kt
                show own_End p e below s (T43.setTop (mkF m 177 #[.val (.int p1), .val (.int p2), .val (.int p3), .val (.int p4), .val (.int p5), .val (.int p6), .val (.int (p1 &&& (3 : Int32))), .val (.int xa), .val (.int xb), .val (.int xc), .val (.ref b33), .val (.ref b37), .val (.ref b41), .unset] [(.int (2 : Int32)), (.int (p1 &&& (3 : Int32)))])) (Q0 Z p1 p2 p3 p4 p5 p6 h0 n0) room_1.cells room_1.slots
                by_cases hc177_52 : (p1 &&& (3 : Int32)) < (2 : Int32)
                · refine own_pre (A := T43.setTop (mkF m 189 #[.val (.int p1), .val (.int p2), .val (.int p3), .val (.int p4), .val (.int p5), .val (.int p6), .val (.int (p1 &&& (3 : Int32))), .val (.int xa), .val (.int xb), .val (.int xc), .val (.ref b33), .val (.ref b37), .val (.ref b41), .unset] [(.int (3 : Int32)), (.int (p1 &&& (3 : Int32)))])) (fun tt kt => ?_) ?_
                  · show Steps p.tables e below (T43.setTop (mkF m 177 #[.val (.int p1), .val (.int p2), .val (.int p3), .val (.int p4), .val (.int p5), .val (.int p6), .val (.int (p1 &&& (3 : Int32))), .val (.int xa), .val (.int xb), .val (.int xc), .val (.ref b33), .val (.ref b37), .val (.ref b41), .unset] [(.int (2 : Int32)), (.int (p1 &&& (3 : Int32)))])) _
                    refine XS.icmpYes X43.here hx rfl (pc0 := 177) (pc' := 186) rfl (hb hby at_177) rfl (tlt hc177_52).1 (by decide) (by decide) ?_
                    show Steps p.tables e below (T43.setTop (mkF m 186 #[.val (.int p1), .val (.int p2), .val (.int p3), .val (.int p4), .val (.int p5), .val (.int p6), .val (.int (p1 &&& (3 : Int32))), .val (.int xa), .val (.int xb), .val (.int xc), .val (.ref b33), .val (.ref b37), .val (.ref b41), .unset] [])) _
                    refine XS.iload X43.here hx rfl (hb hby at_186) rfl ?_
                    show Steps p.tables e below (T43.setTop (mkF m 188 #[.val (.int p1), .val (.int p2), .val (.int p3), .val (.int p4), .val (.int p5), .val (.int p6), .val (.int (p1 &&& (3 : Int32))), .val (.int xa), .val (.int xb), .val (.int xc), .val (.ref b33), .val (.ref b37), .val (.ref b41), .unset] [(.int (p1 &&& (3 : Int32)))])) _
                    refine XS.iconst X43.here hx rfl (hb hby at_188) ?_
                    exact kt
                  show own_End p e below s (T43.setTop (mkF m 189 #[.val (.int p1), .val (.int p2), .val (.int p3), .val (.int p4), .val (.int p5), .val (.int p6), .val (.int (p1 &&& (3 : Int32))), .val (.int xa), .val (.int xb), .val (.int xc), .val (.ref b33), .val (.ref b37), .val (.ref b41), .unset] [(.int (3 : Int32)), (.int (p1 &&& (3 : Int32)))])) (Q0 Z p1 p2 p3 p4 p5 p6 h0 n0) room_1.cells room_1.slots
                  by_cases hc189_53 : (p1 &&& (3 : Int32)) < (3 : Int32)
                  · refine own_pre (A := T43.setTop (mkF m 203 #[.val (.int p1), .val (.int p2), .val (.int p3), .val (.int p4), .val (.int p5), .val (.int p6), .val (.int (p1 &&& (3 : Int32))), .val (.int xa), .val (.int xb), .val (.int xc), .val (.ref b33), .val (.ref b37), .val (.ref b41), .unset] [(.int (0 : Int32))])) (fun tt kt => ?_) ?_
                    · show Steps p.tables e below (T43.setTop (mkF m 189 #[.val (.int p1), .val (.int p2), .val (.int p3), .val (.int p4), .val (.int p5), .val (.int p6), .val (.int (p1 &&& (3 : Int32))), .val (.int xa), .val (.int xb), .val (.int xc), .val (.ref b33), .val (.ref b37), .val (.ref b41), .unset] [(.int (3 : Int32)), (.int (p1 &&& (3 : Int32)))])) _
                      refine XS.icmpYes X43.here hx rfl (pc0 := 189) (pc' := 202) rfl (hb hby at_189) rfl (tlt hc189_53).1 (by decide) (by decide) ?_
                      show Steps p.tables e below (T43.setTop (mkF m 202 #[.val (.int p1), .val (.int p2), .val (.int p3), .val (.int p4), .val (.int p5), .val (.int p6), .val (.int (p1 &&& (3 : Int32))), .val (.int xa), .val (.int xb), .val (.int xc), .val (.ref b33), .val (.ref b37), .val (.ref b41), .unset] [])) _
                      refine XS.iconst X43.here hx rfl (hb hby at_202) ?_
                      exact kt
                    show own_End p e below s (T43.setTop (mkF m 203 #[.val (.int p1), .val (.int p2), .val (.int p3), .val (.int p4), .val (.int p5), .val (.int p6), .val (.int (p1 &&& (3 : Int32))), .val (.int xa), .val (.int xb), .val (.int xc), .val (.ref b33), .val (.ref b37), .val (.ref b41), .unset] [(.int (0 : Int32))])) (Q0 Z p1 p2 p3 p4 p5 p6 h0 n0) room_1.cells room_1.slots
                    exact j203 _ _ X43 rfl N43 (0 : Int32)  (hj.trans (by simp only [own_law_142b, if_pos hc165_51, if_pos hc177_52, if_pos hc189_53]))
                  · refine own_pre (A := T43.setTop (mkF m 195 #[.val (.int p1), .val (.int p2), .val (.int p3), .val (.int p4), .val (.int p5), .val (.int p6), .val (.int (p1 &&& (3 : Int32))), .val (.int xa), .val (.int xb), .val (.int xc), .val (.ref b33), .val (.ref b37), .val (.ref b41), .unset] [(.int p2), (.int xc)])) (fun tt kt => ?_) ?_
                    · show Steps p.tables e below (T43.setTop (mkF m 189 #[.val (.int p1), .val (.int p2), .val (.int p3), .val (.int p4), .val (.int p5), .val (.int p6), .val (.int (p1 &&& (3 : Int32))), .val (.int xa), .val (.int xb), .val (.int xc), .val (.ref b33), .val (.ref b37), .val (.ref b41), .unset] [(.int (3 : Int32)), (.int (p1 &&& (3 : Int32)))])) _
                      refine XS.icmpNo X43.here hx rfl (hb hby at_189) rfl (flt hc189_53).1 ?_
                      show Steps p.tables e below (T43.setTop (mkF m 192 #[.val (.int p1), .val (.int p2), .val (.int p3), .val (.int p4), .val (.int p5), .val (.int p6), .val (.int (p1 &&& (3 : Int32))), .val (.int xa), .val (.int xb), .val (.int xc), .val (.ref b33), .val (.ref b37), .val (.ref b41), .unset] [])) _
                      refine XS.iload X43.here hx rfl (hb hby at_192) rfl ?_
                      show Steps p.tables e below (T43.setTop (mkF m 194 #[.val (.int p1), .val (.int p2), .val (.int p3), .val (.int p4), .val (.int p5), .val (.int p6), .val (.int (p1 &&& (3 : Int32))), .val (.int xa), .val (.int xb), .val (.int xc), .val (.ref b33), .val (.ref b37), .val (.ref b41), .unset] [(.int xc)])) _
                      refine XS.iloadN X43.here hx rfl (hb hby at_194) rfl ?_
                      exact kt
                    show own_End p e below s (T43.setTop (mkF m 195 #[.val (.int p1), .val (.int p2), .val (.int p3), .val (.int p4), .val (.int p5), .val (.int p6), .val (.int (p1 &&& (3 : Int32))), .val (.int xa), .val (.int xb), .val (.int xc), .val (.ref b33), .val (.ref b37), .val (.ref b41), .unset] [(.int p2), (.int xc)])) (Q0 Z p1 p2 p3 p4 p5 p6 h0 n0) room_1.cells room_1.slots
                    by_cases hc195_54 : xc = p2
                    · refine own_pre (A := T43.setTop (mkF m 203 #[.val (.int p1), .val (.int p2), .val (.int p3), .val (.int p4), .val (.int p5), .val (.int p6), .val (.int (p1 &&& (3 : Int32))), .val (.int xa), .val (.int xb), .val (.int xc), .val (.ref b33), .val (.ref b37), .val (.ref b41), .unset] [(.int (1 : Int32))])) (fun tt kt => ?_) ?_
                      · show Steps p.tables e below (T43.setTop (mkF m 195 #[.val (.int p1), .val (.int p2), .val (.int p3), .val (.int p4), .val (.int p5), .val (.int p6), .val (.int (p1 &&& (3 : Int32))), .val (.int xa), .val (.int xb), .val (.int xc), .val (.ref b33), .val (.ref b37), .val (.ref b41), .unset] [(.int p2), (.int xc)])) _
                        refine XS.icmpNo X43.here hx rfl (hb hby at_195) rfl (teq hc195_54).2 ?_
                        show Steps p.tables e below (T43.setTop (mkF m 198 #[.val (.int p1), .val (.int p2), .val (.int p3), .val (.int p4), .val (.int p5), .val (.int p6), .val (.int (p1 &&& (3 : Int32))), .val (.int xa), .val (.int xb), .val (.int xc), .val (.ref b33), .val (.ref b37), .val (.ref b41), .unset] [])) _
                        refine XS.iconst X43.here hx rfl (hb hby at_198) ?_
                        show Steps p.tables e below (T43.setTop (mkF m 199 #[.val (.int p1), .val (.int p2), .val (.int p3), .val (.int p4), .val (.int p5), .val (.int p6), .val (.int (p1 &&& (3 : Int32))), .val (.int xa), .val (.int xb), .val (.int xc), .val (.ref b33), .val (.ref b37), .val (.ref b41), .unset] [(.int (1 : Int32))])) _
                        refine XS.goto X43.here hx rfl (pc0 := 199) (pc' := 203) rfl (hb hby at_199) (by decide) (by decide) ?_
                        exact kt
                      show own_End p e below s (T43.setTop (mkF m 203 #[.val (.int p1), .val (.int p2), .val (.int p3), .val (.int p4), .val (.int p5), .val (.int p6), .val (.int (p1 &&& (3 : Int32))), .val (.int xa), .val (.int xb), .val (.int xc), .val (.ref b33), .val (.ref b37), .val (.ref b41), .unset] [(.int (1 : Int32))])) (Q0 Z p1 p2 p3 p4 p5 p6 h0 n0) room_1.cells room_1.slots
                      exact j203 _ _ X43 rfl N43 (1 : Int32)  (hj.trans (by simp only [own_law_142b, if_pos hc165_51, if_pos hc177_52, if_neg hc189_53, if_pos hc195_54]))
                    · refine own_pre (A := T43.setTop (mkF m 203 #[.val (.int p1), .val (.int p2), .val (.int p3), .val (.int p4), .val (.int p5), .val (.int p6), .val (.int (p1 &&& (3 : Int32))), .val (.int xa), .val (.int xb), .val (.int xc), .val (.ref b33), .val (.ref b37), .val (.ref b41), .unset] [(.int (0 : Int32))])) (fun tt kt => ?_) ?_
                      · show Steps p.tables e below (T43.setTop (mkF m 195 #[.val (.int p1), .val (.int p2), .val (.int p3), .val (.int p4), .val (.int p5), .val (.int p6), .val (.int (p1 &&& (3 : Int32))), .val (.int xa), .val (.int xb), .val (.int xc), .val (.ref b33), .val (.ref b37), .val (.ref b41), .unset] [(.int p2), (.int xc)])) _
                        refine XS.icmpYes X43.here hx rfl (pc0 := 195) (pc' := 202) rfl (hb hby at_195) rfl (feq hc195_54).2 (by decide) (by decide) ?_
                        show Steps p.tables e below (T43.setTop (mkF m 202 #[.val (.int p1), .val (.int p2), .val (.int p3), .val (.int p4), .val (.int p5), .val (.int p6), .val (.int (p1 &&& (3 : Int32))), .val (.int xa), .val (.int xb), .val (.int xc), .val (.ref b33), .val (.ref b37), .val (.ref b41), .unset] [])) _
                        refine XS.iconst X43.here hx rfl (hb hby at_202) ?_
                        exact kt
                      show own_End p e below s (T43.setTop (mkF m 203 #[.val (.int p1), .val (.int p2), .val (.int p3), .val (.int p4), .val (.int p5), .val (.int p6), .val (.int (p1 &&& (3 : Int32))), .val (.int xa), .val (.int xb), .val (.int xc), .val (.ref b33), .val (.ref b37), .val (.ref b41), .unset] [(.int (0 : Int32))])) (Q0 Z p1 p2 p3 p4 p5 p6 h0 n0) room_1.cells room_1.slots
                      exact j203 _ _ X43 rfl N43 (0 : Int32)  (hj.trans (by simp only [own_law_142b, if_pos hc165_51, if_pos hc177_52, if_neg hc189_53, if_neg hc195_54]))
                · refine own_pre (A := T43.setTop (mkF m 183 #[.val (.int p1), .val (.int p2), .val (.int p3), .val (.int p4), .val (.int p5), .val (.int p6), .val (.int (p1 &&& (3 : Int32))), .val (.int xa), .val (.int xb), .val (.int xc), .val (.ref b33), .val (.ref b37), .val (.ref b41), .unset] [(.int p2), (.int xb)])) (fun tt kt => ?_) ?_
                  · show Steps p.tables e below (T43.setTop (mkF m 177 #[.val (.int p1), .val (.int p2), .val (.int p3), .val (.int p4), .val (.int p5), .val (.int p6), .val (.int (p1 &&& (3 : Int32))), .val (.int xa), .val (.int xb), .val (.int xc), .val (.ref b33), .val (.ref b37), .val (.ref b41), .unset] [(.int (2 : Int32)), (.int (p1 &&& (3 : Int32)))])) _
                    refine XS.icmpNo X43.here hx rfl (hb hby at_177) rfl (flt hc177_52).1 ?_
                    show Steps p.tables e below (T43.setTop (mkF m 180 #[.val (.int p1), .val (.int p2), .val (.int p3), .val (.int p4), .val (.int p5), .val (.int p6), .val (.int (p1 &&& (3 : Int32))), .val (.int xa), .val (.int xb), .val (.int xc), .val (.ref b33), .val (.ref b37), .val (.ref b41), .unset] [])) _
                    refine XS.iload X43.here hx rfl (hb hby at_180) rfl ?_
                    show Steps p.tables e below (T43.setTop (mkF m 182 #[.val (.int p1), .val (.int p2), .val (.int p3), .val (.int p4), .val (.int p5), .val (.int p6), .val (.int (p1 &&& (3 : Int32))), .val (.int xa), .val (.int xb), .val (.int xc), .val (.ref b33), .val (.ref b37), .val (.ref b41), .unset] [(.int xb)])) _
                    refine XS.iloadN X43.here hx rfl (hb hby at_182) rfl ?_
                    exact kt
                  show own_End p e below s (T43.setTop (mkF m 183 #[.val (.int p1), .val (.int p2), .val (.int p3), .val (.int p4), .val (.int p5), .val (.int p6), .val (.int (p1 &&& (3 : Int32))), .val (.int xa), .val (.int xb), .val (.int xc), .val (.ref b33), .val (.ref b37), .val (.ref b41), .unset] [(.int p2), (.int xb)])) (Q0 Z p1 p2 p3 p4 p5 p6 h0 n0) room_1.cells room_1.slots
                  by_cases hc183_55 : xb = p2
                  · refine own_pre (A := T43.setTop (mkF m 203 #[.val (.int p1), .val (.int p2), .val (.int p3), .val (.int p4), .val (.int p5), .val (.int p6), .val (.int (p1 &&& (3 : Int32))), .val (.int xa), .val (.int xb), .val (.int xc), .val (.ref b33), .val (.ref b37), .val (.ref b41), .unset] [(.int (1 : Int32))])) (fun tt kt => ?_) ?_
                    · show Steps p.tables e below (T43.setTop (mkF m 183 #[.val (.int p1), .val (.int p2), .val (.int p3), .val (.int p4), .val (.int p5), .val (.int p6), .val (.int (p1 &&& (3 : Int32))), .val (.int xa), .val (.int xb), .val (.int xc), .val (.ref b33), .val (.ref b37), .val (.ref b41), .unset] [(.int p2), (.int xb)])) _
                      refine XS.icmpYes X43.here hx rfl (pc0 := 183) (pc' := 198) rfl (hb hby at_183) rfl (teq hc183_55).1 (by decide) (by decide) ?_
                      show Steps p.tables e below (T43.setTop (mkF m 198 #[.val (.int p1), .val (.int p2), .val (.int p3), .val (.int p4), .val (.int p5), .val (.int p6), .val (.int (p1 &&& (3 : Int32))), .val (.int xa), .val (.int xb), .val (.int xc), .val (.ref b33), .val (.ref b37), .val (.ref b41), .unset] [])) _
                      refine XS.iconst X43.here hx rfl (hb hby at_198) ?_
                      show Steps p.tables e below (T43.setTop (mkF m 199 #[.val (.int p1), .val (.int p2), .val (.int p3), .val (.int p4), .val (.int p5), .val (.int p6), .val (.int (p1 &&& (3 : Int32))), .val (.int xa), .val (.int xb), .val (.int xc), .val (.ref b33), .val (.ref b37), .val (.ref b41), .unset] [(.int (1 : Int32))])) _
                      refine XS.goto X43.here hx rfl (pc0 := 199) (pc' := 203) rfl (hb hby at_199) (by decide) (by decide) ?_
                      exact kt
                    show own_End p e below s (T43.setTop (mkF m 203 #[.val (.int p1), .val (.int p2), .val (.int p3), .val (.int p4), .val (.int p5), .val (.int p6), .val (.int (p1 &&& (3 : Int32))), .val (.int xa), .val (.int xb), .val (.int xc), .val (.ref b33), .val (.ref b37), .val (.ref b41), .unset] [(.int (1 : Int32))])) (Q0 Z p1 p2 p3 p4 p5 p6 h0 n0) room_1.cells room_1.slots
                    exact j203 _ _ X43 rfl N43 (1 : Int32)  (hj.trans (by simp only [own_law_142b, if_pos hc165_51, if_neg hc177_52, if_pos hc183_55]))
                  · refine own_pre (A := T43.setTop (mkF m 189 #[.val (.int p1), .val (.int p2), .val (.int p3), .val (.int p4), .val (.int p5), .val (.int p6), .val (.int (p1 &&& (3 : Int32))), .val (.int xa), .val (.int xb), .val (.int xc), .val (.ref b33), .val (.ref b37), .val (.ref b41), .unset] [(.int (3 : Int32)), (.int (p1 &&& (3 : Int32)))])) (fun tt kt => ?_) ?_
                    · show Steps p.tables e below (T43.setTop (mkF m 183 #[.val (.int p1), .val (.int p2), .val (.int p3), .val (.int p4), .val (.int p5), .val (.int p6), .val (.int (p1 &&& (3 : Int32))), .val (.int xa), .val (.int xb), .val (.int xc), .val (.ref b33), .val (.ref b37), .val (.ref b41), .unset] [(.int p2), (.int xb)])) _
                      refine XS.icmpNo X43.here hx rfl (hb hby at_183) rfl (feq hc183_55).1 ?_
                      show Steps p.tables e below (T43.setTop (mkF m 186 #[.val (.int p1), .val (.int p2), .val (.int p3), .val (.int p4), .val (.int p5), .val (.int p6), .val (.int (p1 &&& (3 : Int32))), .val (.int xa), .val (.int xb), .val (.int xc), .val (.ref b33), .val (.ref b37), .val (.ref b41), .unset] [])) _
                      refine XS.iload X43.here hx rfl (hb hby at_186) rfl ?_
                      show Steps p.tables e below (T43.setTop (mkF m 188 #[.val (.int p1), .val (.int p2), .val (.int p3), .val (.int p4), .val (.int p5), .val (.int p6), .val (.int (p1 &&& (3 : Int32))), .val (.int xa), .val (.int xb), .val (.int xc), .val (.ref b33), .val (.ref b37), .val (.ref b41), .unset] [(.int (p1 &&& (3 : Int32)))])) _
                      refine XS.iconst X43.here hx rfl (hb hby at_188) ?_
                      exact kt
                    show own_End p e below s (T43.setTop (mkF m 189 #[.val (.int p1), .val (.int p2), .val (.int p3), .val (.int p4), .val (.int p5), .val (.int p6), .val (.int (p1 &&& (3 : Int32))), .val (.int xa), .val (.int xb), .val (.int xc), .val (.ref b33), .val (.ref b37), .val (.ref b41), .unset] [(.int (3 : Int32)), (.int (p1 &&& (3 : Int32)))])) (Q0 Z p1 p2 p3 p4 p5 p6 h0 n0) room_1.cells room_1.slots
                    by_cases hc189_56 : (p1 &&& (3 : Int32)) < (3 : Int32)
                    · refine own_pre (A := T43.setTop (mkF m 203 #[.val (.int p1), .val (.int p2), .val (.int p3), .val (.int p4), .val (.int p5), .val (.int p6), .val (.int (p1 &&& (3 : Int32))), .val (.int xa), .val (.int xb), .val (.int xc), .val (.ref b33), .val (.ref b37), .val (.ref b41), .unset] [(.int (0 : Int32))])) (fun tt kt => ?_) ?_
                      · show Steps p.tables e below (T43.setTop (mkF m 189 #[.val (.int p1), .val (.int p2), .val (.int p3), .val (.int p4), .val (.int p5), .val (.int p6), .val (.int (p1 &&& (3 : Int32))), .val (.int xa), .val (.int xb), .val (.int xc), .val (.ref b33), .val (.ref b37), .val (.ref b41), .unset] [(.int (3 : Int32)), (.int (p1 &&& (3 : Int32)))])) _
                        refine XS.icmpYes X43.here hx rfl (pc0 := 189) (pc' := 202) rfl (hb hby at_189) rfl (tlt hc189_56).1 (by decide) (by decide) ?_
                        show Steps p.tables e below (T43.setTop (mkF m 202 #[.val (.int p1), .val (.int p2), .val (.int p3), .val (.int p4), .val (.int p5), .val (.int p6), .val (.int (p1 &&& (3 : Int32))), .val (.int xa), .val (.int xb), .val (.int xc), .val (.ref b33), .val (.ref b37), .val (.ref b41), .unset] [])) _
                        refine XS.iconst X43.here hx rfl (hb hby at_202) ?_
                        exact kt
                      show own_End p e below s (T43.setTop (mkF m 203 #[.val (.int p1), .val (.int p2), .val (.int p3), .val (.int p4), .val (.int p5), .val (.int p6), .val (.int (p1 &&& (3 : Int32))), .val (.int xa), .val (.int xb), .val (.int xc), .val (.ref b33), .val (.ref b37), .val (.ref b41), .unset] [(.int (0 : Int32))])) (Q0 Z p1 p2 p3 p4 p5 p6 h0 n0) room_1.cells room_1.slots
                      exact j203 _ _ X43 rfl N43 (0 : Int32)  (hj.trans (by simp only [own_law_142b, if_pos hc165_51, if_neg hc177_52, if_neg hc183_55, if_pos hc189_56]))
                    · refine own_pre (A := T43.setTop (mkF m 195 #[.val (.int p1), .val (.int p2), .val (.int p3), .val (.int p4), .val (.int p5), .val (.int p6), .val (.int (p1 &&& (3 : Int32))), .val (.int xa), .val (.int xb), .val (.int xc), .val (.ref b33), .val (.ref b37), .val (.ref b41), .unset] [(.int p2), (.int xc)])) (fun tt kt => ?_) ?_
                      · show Steps p.tables e below (T43.setTop (mkF m 189 #[.val (.int p1), .val (.int p2), .val (.int p3), .val (.int p4), .val (.int p5), .val (.int p6), .val (.int (p1 &&& (3 : Int32))), .val (.int xa), .val (.int xb), .val (.int xc), .val (.ref b33), .val (.ref b37), .val (.ref b41), .unset] [(.int (3 : Int32)), (.int (p1 &&& (3 : Int32)))])) _
                        refine XS.icmpNo X43.here hx rfl (hb hby at_189) rfl (flt hc189_56).1 ?_
                        show Steps p.tables e below (T43.setTop (mkF m 192 #[.val (.int p1), .val (.int p2), .val (.int p3), .val (.int p4), .val (.int p5), .val (.int p6), .val (.int (p1 &&& (3 : Int32))), .val (.int xa), .val (.int xb), .val (.int xc), .val (.ref b33), .val (.ref b37), .val (.ref b41), .unset] [])) _
                        refine XS.iload X43.here hx rfl (hb hby at_192) rfl ?_
                        show Steps p.tables e below (T43.setTop (mkF m 194 #[.val (.int p1), .val (.int p2), .val (.int p3), .val (.int p4), .val (.int p5), .val (.int p6), .val (.int (p1 &&& (3 : Int32))), .val (.int xa), .val (.int xb), .val (.int xc), .val (.ref b33), .val (.ref b37), .val (.ref b41), .unset] [(.int xc)])) _
                        refine XS.iloadN X43.here hx rfl (hb hby at_194) rfl ?_
                        exact kt
                      show own_End p e below s (T43.setTop (mkF m 195 #[.val (.int p1), .val (.int p2), .val (.int p3), .val (.int p4), .val (.int p5), .val (.int p6), .val (.int (p1 &&& (3 : Int32))), .val (.int xa), .val (.int xb), .val (.int xc), .val (.ref b33), .val (.ref b37), .val (.ref b41), .unset] [(.int p2), (.int xc)])) (Q0 Z p1 p2 p3 p4 p5 p6 h0 n0) room_1.cells room_1.slots
                      by_cases hc195_57 : xc = p2
                      · refine own_pre (A := T43.setTop (mkF m 203 #[.val (.int p1), .val (.int p2), .val (.int p3), .val (.int p4), .val (.int p5), .val (.int p6), .val (.int (p1 &&& (3 : Int32))), .val (.int xa), .val (.int xb), .val (.int xc), .val (.ref b33), .val (.ref b37), .val (.ref b41), .unset] [(.int (1 : Int32))])) (fun tt kt => ?_) ?_
                        · show Steps p.tables e below (T43.setTop (mkF m 195 #[.val (.int p1), .val (.int p2), .val (.int p3), .val (.int p4), .val (.int p5), .val (.int p6), .val (.int (p1 &&& (3 : Int32))), .val (.int xa), .val (.int xb), .val (.int xc), .val (.ref b33), .val (.ref b37), .val (.ref b41), .unset] [(.int p2), (.int xc)])) _
                          refine XS.icmpNo X43.here hx rfl (hb hby at_195) rfl (teq hc195_57).2 ?_
                          show Steps p.tables e below (T43.setTop (mkF m 198 #[.val (.int p1), .val (.int p2), .val (.int p3), .val (.int p4), .val (.int p5), .val (.int p6), .val (.int (p1 &&& (3 : Int32))), .val (.int xa), .val (.int xb), .val (.int xc), .val (.ref b33), .val (.ref b37), .val (.ref b41), .unset] [])) _
                          refine XS.iconst X43.here hx rfl (hb hby at_198) ?_
                          show Steps p.tables e below (T43.setTop (mkF m 199 #[.val (.int p1), .val (.int p2), .val (.int p3), .val (.int p4), .val (.int p5), .val (.int p6), .val (.int (p1 &&& (3 : Int32))), .val (.int xa), .val (.int xb), .val (.int xc), .val (.ref b33), .val (.ref b37), .val (.ref b41), .unset] [(.int (1 : Int32))])) _
                          refine XS.goto X43.here hx rfl (pc0 := 199) (pc' := 203) rfl (hb hby at_199) (by decide) (by decide) ?_
                          exact kt
                        show own_End p e below s (T43.setTop (mkF m 203 #[.val (.int p1), .val (.int p2), .val (.int p3), .val (.int p4), .val (.int p5), .val (.int p6), .val (.int (p1 &&& (3 : Int32))), .val (.int xa), .val (.int xb), .val (.int xc), .val (.ref b33), .val (.ref b37), .val (.ref b41), .unset] [(.int (1 : Int32))])) (Q0 Z p1 p2 p3 p4 p5 p6 h0 n0) room_1.cells room_1.slots
                        exact j203 _ _ X43 rfl N43 (1 : Int32)  (hj.trans (by simp only [own_law_142b, if_pos hc165_51, if_neg hc177_52, if_neg hc183_55, if_neg hc189_56, if_pos hc195_57]))
                      · refine own_pre (A := T43.setTop (mkF m 203 #[.val (.int p1), .val (.int p2), .val (.int p3), .val (.int p4), .val (.int p5), .val (.int p6), .val (.int (p1 &&& (3 : Int32))), .val (.int xa), .val (.int xb), .val (.int xc), .val (.ref b33), .val (.ref b37), .val (.ref b41), .unset] [(.int (0 : Int32))])) (fun tt kt => ?_) ?_
                        · show Steps p.tables e below (T43.setTop (mkF m 195 #[.val (.int p1), .val (.int p2), .val (.int p3), .val (.int p4), .val (.int p5), .val (.int p6), .val (.int (p1 &&& (3 : Int32))), .val (.int xa), .val (.int xb), .val (.int xc), .val (.ref b33), .val (.ref b37), .val (.ref b41), .unset] [(.int p2), (.int xc)])) _
                          refine XS.icmpYes X43.here hx rfl (pc0 := 195) (pc' := 202) rfl (hb hby at_195) rfl (feq hc195_57).2 (by decide) (by decide) ?_
                          show Steps p.tables e below (T43.setTop (mkF m 202 #[.val (.int p1), .val (.int p2), .val (.int p3), .val (.int p4), .val (.int p5), .val (.int p6), .val (.int (p1 &&& (3 : Int32))), .val (.int xa), .val (.int xb), .val (.int xc), .val (.ref b33), .val (.ref b37), .val (.ref b41), .unset] [])) _
                          refine XS.iconst X43.here hx rfl (hb hby at_202) ?_
                          exact kt
                        show own_End p e below s (T43.setTop (mkF m 203 #[.val (.int p1), .val (.int p2), .val (.int p3), .val (.int p4), .val (.int p5), .val (.int p6), .val (.int (p1 &&& (3 : Int32))), .val (.int xa), .val (.int xb), .val (.int xc), .val (.ref b33), .val (.ref b37), .val (.ref b41), .unset] [(.int (0 : Int32))])) (Q0 Z p1 p2 p3 p4 p5 p6 h0 n0) room_1.cells room_1.slots
                        exact j203 _ _ X43 rfl N43 (0 : Int32)  (hj.trans (by simp only [own_law_142b, if_pos hc165_51, if_neg hc177_52, if_neg hc183_55, if_neg hc189_56, if_neg hc195_57]))
              · refine own_pre (A := T43.setTop (mkF m 171 #[.val (.int p1), .val (.int p2), .val (.int p3), .val (.int p4), .val (.int p5), .val (.int p6), .val (.int (p1 &&& (3 : Int32))), .val (.int xa), .val (.int xb), .val (.int xc), .val (.ref b33), .val (.ref b37), .val (.ref b41), .unset] [(.int p2), (.int xa)])) (fun tt kt => ?_) ?_
                · show Steps p.tables e below (T43.setTop (mkF m 165 #[.val (.int p1), .val (.int p2), .val (.int p3), .val (.int p4), .val (.int p5), .val (.int p6), .val (.int (p1 &&& (3 : Int32))), .val (.int xa), .val (.int xb), .val (.int xc), .val (.ref b33), .val (.ref b37), .val (.ref b41), .unset] [(.int (1 : Int32)), (.int (p1 &&& (3 : Int32)))])) _
                  refine XS.icmpNo X43.here hx rfl (hb hby at_165) rfl (flt hc165_51).1 ?_
                  show Steps p.tables e below (T43.setTop (mkF m 168 #[.val (.int p1), .val (.int p2), .val (.int p3), .val (.int p4), .val (.int p5), .val (.int p6), .val (.int (p1 &&& (3 : Int32))), .val (.int xa), .val (.int xb), .val (.int xc), .val (.ref b33), .val (.ref b37), .val (.ref b41), .unset] [])) _
                  refine XS.iload X43.here hx rfl (hb hby at_168) rfl ?_
                  show Steps p.tables e below (T43.setTop (mkF m 170 #[.val (.int p1), .val (.int p2), .val (.int p3), .val (.int p4), .val (.int p5), .val (.int p6), .val (.int (p1 &&& (3 : Int32))), .val (.int xa), .val (.int xb), .val (.int xc), .val (.ref b33), .val (.ref b37), .val (.ref b41), .unset] [(.int xa)])) _
                  refine XS.iloadN X43.here hx rfl (hb hby at_170) rfl ?_
                  exact kt
                show own_End p e below s (T43.setTop (mkF m 171 #[.val (.int p1), .val (.int p2), .val (.int p3), .val (.int p4), .val (.int p5), .val (.int p6), .val (.int (p1 &&& (3 : Int32))), .val (.int xa), .val (.int xb), .val (.int xc), .val (.ref b33), .val (.ref b37), .val (.ref b41), .unset] [(.int p2), (.int xa)])) (Q0 Z p1 p2 p3 p4 p5 p6 h0 n0) room_1.cells room_1.slots
                by_cases hc171_58 : xa = p2
                · refine own_pre (A := T43.setTop (mkF m 203 #[.val (.int p1), .val (.int p2), .val (.int p3), .val (.int p4), .val (.int p5), .val (.int p6), .val (.int (p1 &&& (3 : Int32))), .val (.int xa), .val (.int xb), .val (.int xc), .val (.ref b33), .val (.ref b37), .val (.ref b41), .unset] [(.int (1 : Int32))])) (fun tt kt => ?_) ?_
                  · show Steps p.tables e below (T43.setTop (mkF m 171 #[.val (.int p1), .val (.int p2), .val (.int p3), .val (.int p4), .val (.int p5), .val (.int p6), .val (.int (p1 &&& (3 : Int32))), .val (.int xa), .val (.int xb), .val (.int xc), .val (.ref b33), .val (.ref b37), .val (.ref b41), .unset] [(.int p2), (.int xa)])) _
                    refine XS.icmpYes X43.here hx rfl (pc0 := 171) (pc' := 198) rfl (hb hby at_171) rfl (teq hc171_58).1 (by decide) (by decide) ?_
                    show Steps p.tables e below (T43.setTop (mkF m 198 #[.val (.int p1), .val (.int p2), .val (.int p3), .val (.int p4), .val (.int p5), .val (.int p6), .val (.int (p1 &&& (3 : Int32))), .val (.int xa), .val (.int xb), .val (.int xc), .val (.ref b33), .val (.ref b37), .val (.ref b41), .unset] [])) _
                    refine XS.iconst X43.here hx rfl (hb hby at_198) ?_
                    show Steps p.tables e below (T43.setTop (mkF m 199 #[.val (.int p1), .val (.int p2), .val (.int p3), .val (.int p4), .val (.int p5), .val (.int p6), .val (.int (p1 &&& (3 : Int32))), .val (.int xa), .val (.int xb), .val (.int xc), .val (.ref b33), .val (.ref b37), .val (.ref b41), .unset] [(.int (1 : Int32))])) _
                    refine XS.goto X43.here hx rfl (pc0 := 199) (pc' := 203) rfl (hb hby at_199) (by decide) (by decide) ?_
                    exact kt
                  show own_End p e below s (T43.setTop (mkF m 203 #[.val (.int p1), .val (.int p2), .val (.int p3), .val (.int p4), .val (.int p5), .val (.int p6), .val (.int (p1 &&& (3 : Int32))), .val (.int xa), .val (.int xb), .val (.int xc), .val (.ref b33), .val (.ref b37), .val (.ref b41), .unset] [(.int (1 : Int32))])) (Q0 Z p1 p2 p3 p4 p5 p6 h0 n0) room_1.cells room_1.slots
                  exact j203 _ _ X43 rfl N43 (1 : Int32)  (hj.trans (by simp only [own_law_142b, if_neg hc165_51, if_pos hc171_58]))
                · refine own_pre (A := T43.setTop (mkF m 177 #[.val (.int p1), .val (.int p2), .val (.int p3), .val (.int p4), .val (.int p5), .val (.int p6), .val (.int (p1 &&& (3 : Int32))), .val (.int xa), .val (.int xb), .val (.int xc), .val (.ref b33), .val (.ref b37), .val (.ref b41), .unset] [(.int (2 : Int32)), (.int (p1 &&& (3 : Int32)))])) (fun tt kt => ?_) ?_
                  · show Steps p.tables e below (T43.setTop (mkF m 171 #[.val (.int p1), .val (.int p2), .val (.int p3), .val (.int p4), .val (.int p5), .val (.int p6), .val (.int (p1 &&& (3 : Int32))), .val (.int xa), .val (.int xb), .val (.int xc), .val (.ref b33), .val (.ref b37), .val (.ref b41), .unset] [(.int p2), (.int xa)])) _
                    refine XS.icmpNo X43.here hx rfl (hb hby at_171) rfl (feq hc171_58).1 ?_
                    show Steps p.tables e below (T43.setTop (mkF m 174 #[.val (.int p1), .val (.int p2), .val (.int p3), .val (.int p4), .val (.int p5), .val (.int p6), .val (.int (p1 &&& (3 : Int32))), .val (.int xa), .val (.int xb), .val (.int xc), .val (.ref b33), .val (.ref b37), .val (.ref b41), .unset] [])) _
                    refine XS.iload X43.here hx rfl (hb hby at_174) rfl ?_
                    show Steps p.tables e below (T43.setTop (mkF m 176 #[.val (.int p1), .val (.int p2), .val (.int p3), .val (.int p4), .val (.int p5), .val (.int p6), .val (.int (p1 &&& (3 : Int32))), .val (.int xa), .val (.int xb), .val (.int xc), .val (.ref b33), .val (.ref b37), .val (.ref b41), .unset] [(.int (p1 &&& (3 : Int32)))])) _
                    refine XS.iconst X43.here hx rfl (hb hby at_176) ?_
                    exact kt
                  show own_End p e below s (T43.setTop (mkF m 177 #[.val (.int p1), .val (.int p2), .val (.int p3), .val (.int p4), .val (.int p5), .val (.int p6), .val (.int (p1 &&& (3 : Int32))), .val (.int xa), .val (.int xb), .val (.int xc), .val (.ref b33), .val (.ref b37), .val (.ref b41), .unset] [(.int (2 : Int32)), (.int (p1 &&& (3 : Int32)))])) (Q0 Z p1 p2 p3 p4 p5 p6 h0 n0) room_1.cells room_1.slots
                  by_cases hc177_59 : (p1 &&& (3 : Int32)) < (2 : Int32)
                  · refine own_pre (A := T43.setTop (mkF m 189 #[.val (.int p1), .val (.int p2), .val (.int p3), .val (.int p4), .val (.int p5), .val (.int p6), .val (.int (p1 &&& (3 : Int32))), .val (.int xa), .val (.int xb), .val (.int xc), .val (.ref b33), .val (.ref b37), .val (.ref b41), .unset] [(.int (3 : Int32)), (.int (p1 &&& (3 : Int32)))])) (fun tt kt => ?_) ?_
                    · show Steps p.tables e below (T43.setTop (mkF m 177 #[.val (.int p1), .val (.int p2), .val (.int p3), .val (.int p4), .val (.int p5), .val (.int p6), .val (.int (p1 &&& (3 : Int32))), .val (.int xa), .val (.int xb), .val (.int xc), .val (.ref b33), .val (.ref b37), .val (.ref b41), .unset] [(.int (2 : Int32)), (.int (p1 &&& (3 : Int32)))])) _
                      refine XS.icmpYes X43.here hx rfl (pc0 := 177) (pc' := 186) rfl (hb hby at_177) rfl (tlt hc177_59).1 (by decide) (by decide) ?_
                      show Steps p.tables e below (T43.setTop (mkF m 186 #[.val (.int p1), .val (.int p2), .val (.int p3), .val (.int p4), .val (.int p5), .val (.int p6), .val (.int (p1 &&& (3 : Int32))), .val (.int xa), .val (.int xb), .val (.int xc), .val (.ref b33), .val (.ref b37), .val (.ref b41), .unset] [])) _
                      refine XS.iload X43.here hx rfl (hb hby at_186) rfl ?_
                      show Steps p.tables e below (T43.setTop (mkF m 188 #[.val (.int p1), .val (.int p2), .val (.int p3), .val (.int p4), .val (.int p5), .val (.int p6), .val (.int (p1 &&& (3 : Int32))), .val (.int xa), .val (.int xb), .val (.int xc), .val (.ref b33), .val (.ref b37), .val (.ref b41), .unset] [(.int (p1 &&& (3 : Int32)))])) _
                      refine XS.iconst X43.here hx rfl (hb hby at_188) ?_
                      exact kt
                    show own_End p e below s (T43.setTop (mkF m 189 #[.val (.int p1), .val (.int p2), .val (.int p3), .val (.int p4), .val (.int p5), .val (.int p6), .val (.int (p1 &&& (3 : Int32))), .val (.int xa), .val (.int xb), .val (.int xc), .val (.ref b33), .val (.ref b37), .val (.ref b41), .unset] [(.int (3 : Int32)), (.int (p1 &&& (3 : Int32)))])) (Q0 Z p1 p2 p3 p4 p5 p6 h0 n0) room_1.cells room_1.slots
                    by_cases hc189_60 : (p1 &&& (3 : Int32)) < (3 : Int32)
                    · refine own_pre (A := T43.setTop (mkF m 203 #[.val (.int p1), .val (.int p2), .val (.int p3), .val (.int p4), .val (.int p5), .val (.int p6), .val (.int (p1 &&& (3 : Int32))), .val (.int xa), .val (.int xb), .val (.int xc), .val (.ref b33), .val (.ref b37), .val (.ref b41), .unset] [(.int (0 : Int32))])) (fun tt kt => ?_) ?_
                      · show Steps p.tables e below (T43.setTop (mkF m 189 #[.val (.int p1), .val (.int p2), .val (.int p3), .val (.int p4), .val (.int p5), .val (.int p6), .val (.int (p1 &&& (3 : Int32))), .val (.int xa), .val (.int xb), .val (.int xc), .val (.ref b33), .val (.ref b37), .val (.ref b41), .unset] [(.int (3 : Int32)), (.int (p1 &&& (3 : Int32)))])) _
                        refine XS.icmpYes X43.here hx rfl (pc0 := 189) (pc' := 202) rfl (hb hby at_189) rfl (tlt hc189_60).1 (by decide) (by decide) ?_
                        show Steps p.tables e below (T43.setTop (mkF m 202 #[.val (.int p1), .val (.int p2), .val (.int p3), .val (.int p4), .val (.int p5), .val (.int p6), .val (.int (p1 &&& (3 : Int32))), .val (.int xa), .val (.int xb), .val (.int xc), .val (.ref b33), .val (.ref b37), .val (.ref b41), .unset] [])) _
                        refine XS.iconst X43.here hx rfl (hb hby at_202) ?_
                        exact kt
                      show own_End p e below s (T43.setTop (mkF m 203 #[.val (.int p1), .val (.int p2), .val (.int p3), .val (.int p4), .val (.int p5), .val (.int p6), .val (.int (p1 &&& (3 : Int32))), .val (.int xa), .val (.int xb), .val (.int xc), .val (.ref b33), .val (.ref b37), .val (.ref b41), .unset] [(.int (0 : Int32))])) (Q0 Z p1 p2 p3 p4 p5 p6 h0 n0) room_1.cells room_1.slots
                      exact j203 _ _ X43 rfl N43 (0 : Int32)  (hj.trans (by simp only [own_law_142b, if_neg hc165_51, if_neg hc171_58, if_pos hc177_59, if_pos hc189_60]))
                    · refine own_pre (A := T43.setTop (mkF m 195 #[.val (.int p1), .val (.int p2), .val (.int p3), .val (.int p4), .val (.int p5), .val (.int p6), .val (.int (p1 &&& (3 : Int32))), .val (.int xa), .val (.int xb), .val (.int xc), .val (.ref b33), .val (.ref b37), .val (.ref b41), .unset] [(.int p2), (.int xc)])) (fun tt kt => ?_) ?_
                      · show Steps p.tables e below (T43.setTop (mkF m 189 #[.val (.int p1), .val (.int p2), .val (.int p3), .val (.int p4), .val (.int p5), .val (.int p6), .val (.int (p1 &&& (3 : Int32))), .val (.int xa), .val (.int xb), .val (.int xc), .val (.ref b33), .val (.ref b37), .val (.ref b41), .unset] [(.int (3 : Int32)), (.int (p1 &&& (3 : Int32)))])) _
                        refine XS.icmpNo X43.here hx rfl (hb hby at_189) rfl (flt hc189_60).1 ?_
                        show Steps p.tables e below (T43.setTop (mkF m 192 #[.val (.int p1), .val (.int p2), .val (.int p3), .val (.int p4), .val (.int p5), .val (.int p6), .val (.int (p1 &&& (3 : Int32))), .val (.int xa), .val (.int xb), .val (.int xc), .val (.ref b33), .val (.ref b37), .val (.ref b41), .unset] [])) _
                        refine XS.iload X43.here hx rfl (hb hby at_192) rfl ?_
                        show Steps p.tables e below (T43.setTop (mkF m 194 #[.val (.int p1), .val (.int p2), .val (.int p3), .val (.int p4), .val (.int p5), .val (.int p6), .val (.int (p1 &&& (3 : Int32))), .val (.int xa), .val (.int xb), .val (.int xc), .val (.ref b33), .val (.ref b37), .val (.ref b41), .unset] [(.int xc)])) _
                        refine XS.iloadN X43.here hx rfl (hb hby at_194) rfl ?_
                        exact kt
                      show own_End p e below s (T43.setTop (mkF m 195 #[.val (.int p1), .val (.int p2), .val (.int p3), .val (.int p4), .val (.int p5), .val (.int p6), .val (.int (p1 &&& (3 : Int32))), .val (.int xa), .val (.int xb), .val (.int xc), .val (.ref b33), .val (.ref b37), .val (.ref b41), .unset] [(.int p2), (.int xc)])) (Q0 Z p1 p2 p3 p4 p5 p6 h0 n0) room_1.cells room_1.slots
                      by_cases hc195_61 : xc = p2
                      · refine own_pre (A := T43.setTop (mkF m 203 #[.val (.int p1), .val (.int p2), .val (.int p3), .val (.int p4), .val (.int p5), .val (.int p6), .val (.int (p1 &&& (3 : Int32))), .val (.int xa), .val (.int xb), .val (.int xc), .val (.ref b33), .val (.ref b37), .val (.ref b41), .unset] [(.int (1 : Int32))])) (fun tt kt => ?_) ?_
                        · show Steps p.tables e below (T43.setTop (mkF m 195 #[.val (.int p1), .val (.int p2), .val (.int p3), .val (.int p4), .val (.int p5), .val (.int p6), .val (.int (p1 &&& (3 : Int32))), .val (.int xa), .val (.int xb), .val (.int xc), .val (.ref b33), .val (.ref b37), .val (.ref b41), .unset] [(.int p2), (.int xc)])) _
                          refine XS.icmpNo X43.here hx rfl (hb hby at_195) rfl (teq hc195_61).2 ?_
                          show Steps p.tables e below (T43.setTop (mkF m 198 #[.val (.int p1), .val (.int p2), .val (.int p3), .val (.int p4), .val (.int p5), .val (.int p6), .val (.int (p1 &&& (3 : Int32))), .val (.int xa), .val (.int xb), .val (.int xc), .val (.ref b33), .val (.ref b37), .val (.ref b41), .unset] [])) _
                          refine XS.iconst X43.here hx rfl (hb hby at_198) ?_
                          show Steps p.tables e below (T43.setTop (mkF m 199 #[.val (.int p1), .val (.int p2), .val (.int p3), .val (.int p4), .val (.int p5), .val (.int p6), .val (.int (p1 &&& (3 : Int32))), .val (.int xa), .val (.int xb), .val (.int xc), .val (.ref b33), .val (.ref b37), .val (.ref b41), .unset] [(.int (1 : Int32))])) _
                          refine XS.goto X43.here hx rfl (pc0 := 199) (pc' := 203) rfl (hb hby at_199) (by decide) (by decide) ?_
                          exact kt
                        show own_End p e below s (T43.setTop (mkF m 203 #[.val (.int p1), .val (.int p2), .val (.int p3), .val (.int p4), .val (.int p5), .val (.int p6), .val (.int (p1 &&& (3 : Int32))), .val (.int xa), .val (.int xb), .val (.int xc), .val (.ref b33), .val (.ref b37), .val (.ref b41), .unset] [(.int (1 : Int32))])) (Q0 Z p1 p2 p3 p4 p5 p6 h0 n0) room_1.cells room_1.slots
                        exact j203 _ _ X43 rfl N43 (1 : Int32)  (hj.trans (by simp only [own_law_142b, if_neg hc165_51, if_neg hc171_58, if_pos hc177_59, if_neg hc189_60, if_pos hc195_61]))
                      · refine own_pre (A := T43.setTop (mkF m 203 #[.val (.int p1), .val (.int p2), .val (.int p3), .val (.int p4), .val (.int p5), .val (.int p6), .val (.int (p1 &&& (3 : Int32))), .val (.int xa), .val (.int xb), .val (.int xc), .val (.ref b33), .val (.ref b37), .val (.ref b41), .unset] [(.int (0 : Int32))])) (fun tt kt => ?_) ?_
                        · show Steps p.tables e below (T43.setTop (mkF m 195 #[.val (.int p1), .val (.int p2), .val (.int p3), .val (.int p4), .val (.int p5), .val (.int p6), .val (.int (p1 &&& (3 : Int32))), .val (.int xa), .val (.int xb), .val (.int xc), .val (.ref b33), .val (.ref b37), .val (.ref b41), .unset] [(.int p2), (.int xc)])) _
                          refine XS.icmpYes X43.here hx rfl (pc0 := 195) (pc' := 202) rfl (hb hby at_195) rfl (feq hc195_61).2 (by decide) (by decide) ?_
                          show Steps p.tables e below (T43.setTop (mkF m 202 #[.val (.int p1), .val (.int p2), .val (.int p3), .val (.int p4), .val (.int p5), .val (.int p6), .val (.int (p1 &&& (3 : Int32))), .val (.int xa), .val (.int xb), .val (.int xc), .val (.ref b33), .val (.ref b37), .val (.ref b41), .unset] [])) _
                          refine XS.iconst X43.here hx rfl (hb hby at_202) ?_
                          exact kt
                        show own_End p e below s (T43.setTop (mkF m 203 #[.val (.int p1), .val (.int p2), .val (.int p3), .val (.int p4), .val (.int p5), .val (.int p6), .val (.int (p1 &&& (3 : Int32))), .val (.int xa), .val (.int xb), .val (.int xc), .val (.ref b33), .val (.ref b37), .val (.ref b41), .unset] [(.int (0 : Int32))])) (Q0 Z p1 p2 p3 p4 p5 p6 h0 n0) room_1.cells room_1.slots
                        exact j203 _ _ X43 rfl N43 (0 : Int32)  (hj.trans (by simp only [own_law_142b, if_neg hc165_51, if_neg hc171_58, if_pos hc177_59, if_neg hc189_60, if_neg hc195_61]))
                  · refine own_pre (A := T43.setTop (mkF m 183 #[.val (.int p1), .val (.int p2), .val (.int p3), .val (.int p4), .val (.int p5), .val (.int p6), .val (.int (p1 &&& (3 : Int32))), .val (.int xa), .val (.int xb), .val (.int xc), .val (.ref b33), .val (.ref b37), .val (.ref b41), .unset] [(.int p2), (.int xb)])) (fun tt kt => ?_) ?_
                    · show Steps p.tables e below (T43.setTop (mkF m 177 #[.val (.int p1), .val (.int p2), .val (.int p3), .val (.int p4), .val (.int p5), .val (.int p6), .val (.int (p1 &&& (3 : Int32))), .val (.int xa), .val (.int xb), .val (.int xc), .val (.ref b33), .val (.ref b37), .val (.ref b41), .unset] [(.int (2 : Int32)), (.int (p1 &&& (3 : Int32)))])) _
                      refine XS.icmpNo X43.here hx rfl (hb hby at_177) rfl (flt hc177_59).1 ?_
                      show Steps p.tables e below (T43.setTop (mkF m 180 #[.val (.int p1), .val (.int p2), .val (.int p3), .val (.int p4), .val (.int p5), .val (.int p6), .val (.int (p1 &&& (3 : Int32))), .val (.int xa), .val (.int xb), .val (.int xc), .val (.ref b33), .val (.ref b37), .val (.ref b41), .unset] [])) _
                      refine XS.iload X43.here hx rfl (hb hby at_180) rfl ?_
                      show Steps p.tables e below (T43.setTop (mkF m 182 #[.val (.int p1), .val (.int p2), .val (.int p3), .val (.int p4), .val (.int p5), .val (.int p6), .val (.int (p1 &&& (3 : Int32))), .val (.int xa), .val (.int xb), .val (.int xc), .val (.ref b33), .val (.ref b37), .val (.ref b41), .unset] [(.int xb)])) _
                      refine XS.iloadN X43.here hx rfl (hb hby at_182) rfl ?_
                      exact kt
                    show own_End p e below s (T43.setTop (mkF m 183 #[.val (.int p1), .val (.int p2), .val (.int p3), .val (.int p4), .val (.int p5), .val (.int p6), .val (.int (p1 &&& (3 : Int32))), .val (.int xa), .val (.int xb), .val (.int xc), .val (.ref b33), .val (.ref b37), .val (.ref b41), .unset] [(.int p2), (.int xb)])) (Q0 Z p1 p2 p3 p4 p5 p6 h0 n0) room_1.cells room_1.slots
                    by_cases hc183_62 : xb = p2
                    · refine own_pre (A := T43.setTop (mkF m 203 #[.val (.int p1), .val (.int p2), .val (.int p3), .val (.int p4), .val (.int p5), .val (.int p6), .val (.int (p1 &&& (3 : Int32))), .val (.int xa), .val (.int xb), .val (.int xc), .val (.ref b33), .val (.ref b37), .val (.ref b41), .unset] [(.int (1 : Int32))])) (fun tt kt => ?_) ?_
                      · show Steps p.tables e below (T43.setTop (mkF m 183 #[.val (.int p1), .val (.int p2), .val (.int p3), .val (.int p4), .val (.int p5), .val (.int p6), .val (.int (p1 &&& (3 : Int32))), .val (.int xa), .val (.int xb), .val (.int xc), .val (.ref b33), .val (.ref b37), .val (.ref b41), .unset] [(.int p2), (.int xb)])) _
                        refine XS.icmpYes X43.here hx rfl (pc0 := 183) (pc' := 198) rfl (hb hby at_183) rfl (teq hc183_62).1 (by decide) (by decide) ?_
                        show Steps p.tables e below (T43.setTop (mkF m 198 #[.val (.int p1), .val (.int p2), .val (.int p3), .val (.int p4), .val (.int p5), .val (.int p6), .val (.int (p1 &&& (3 : Int32))), .val (.int xa), .val (.int xb), .val (.int xc), .val (.ref b33), .val (.ref b37), .val (.ref b41), .unset] [])) _
                        refine XS.iconst X43.here hx rfl (hb hby at_198) ?_
                        show Steps p.tables e below (T43.setTop (mkF m 199 #[.val (.int p1), .val (.int p2), .val (.int p3), .val (.int p4), .val (.int p5), .val (.int p6), .val (.int (p1 &&& (3 : Int32))), .val (.int xa), .val (.int xb), .val (.int xc), .val (.ref b33), .val (.ref b37), .val (.ref b41), .unset] [(.int (1 : Int32))])) _
                        refine XS.goto X43.here hx rfl (pc0 := 199) (pc' := 203) rfl (hb hby at_199) (by decide) (by decide) ?_
                        exact kt
                      show own_End p e below s (T43.setTop (mkF m 203 #[.val (.int p1), .val (.int p2), .val (.int p3), .val (.int p4), .val (.int p5), .val (.int p6), .val (.int (p1 &&& (3 : Int32))), .val (.int xa), .val (.int xb), .val (.int xc), .val (.ref b33), .val (.ref b37), .val (.ref b41), .unset] [(.int (1 : Int32))])) (Q0 Z p1 p2 p3 p4 p5 p6 h0 n0) room_1.cells room_1.slots
                      exact j203 _ _ X43 rfl N43 (1 : Int32)  (hj.trans (by simp only [own_law_142b, if_neg hc165_51, if_neg hc171_58, if_neg hc177_59, if_pos hc183_62]))
                    · refine own_pre (A := T43.setTop (mkF m 189 #[.val (.int p1), .val (.int p2), .val (.int p3), .val (.int p4), .val (.int p5), .val (.int p6), .val (.int (p1 &&& (3 : Int32))), .val (.int xa), .val (.int xb), .val (.int xc), .val (.ref b33), .val (.ref b37), .val (.ref b41), .unset] [(.int (3 : Int32)), (.int (p1 &&& (3 : Int32)))])) (fun tt kt => ?_) ?_
                      · show Steps p.tables e below (T43.setTop (mkF m 183 #[.val (.int p1), .val (.int p2), .val (.int p3), .val (.int p4), .val (.int p5), .val (.int p6), .val (.int (p1 &&& (3 : Int32))), .val (.int xa), .val (.int xb), .val (.int xc), .val (.ref b33), .val (.ref b37), .val (.ref b41), .unset] [(.int p2), (.int xb)])) _
                        refine XS.icmpNo X43.here hx rfl (hb hby at_183) rfl (feq hc183_62).1 ?_
                        show Steps p.tables e below (T43.setTop (mkF m 186 #[.val (.int p1), .val (.int p2), .val (.int p3), .val (.int p4), .val (.int p5), .val (.int p6), .val (.int (p1 &&& (3 : Int32))), .val (.int xa), .val (.int xb), .val (.int xc), .val (.ref b33), .val (.ref b37), .val (.ref b41), .unset] [])) _
                        refine XS.iload X43.here hx rfl (hb hby at_186) rfl ?_
                        show Steps p.tables e below (T43.setTop (mkF m 188 #[.val (.int p1), .val (.int p2), .val (.int p3), .val (.int p4), .val (.int p5), .val (.int p6), .val (.int (p1 &&& (3 : Int32))), .val (.int xa), .val (.int xb), .val (.int xc), .val (.ref b33), .val (.ref b37), .val (.ref b41), .unset] [(.int (p1 &&& (3 : Int32)))])) _
                        refine XS.iconst X43.here hx rfl (hb hby at_188) ?_
                        exact kt
                      show own_End p e below s (T43.setTop (mkF m 189 #[.val (.int p1), .val (.int p2), .val (.int p3), .val (.int p4), .val (.int p5), .val (.int p6), .val (.int (p1 &&& (3 : Int32))), .val (.int xa), .val (.int xb), .val (.int xc), .val (.ref b33), .val (.ref b37), .val (.ref b41), .unset] [(.int (3 : Int32)), (.int (p1 &&& (3 : Int32)))])) (Q0 Z p1 p2 p3 p4 p5 p6 h0 n0) room_1.cells room_1.slots
                      by_cases hc189_63 : (p1 &&& (3 : Int32)) < (3 : Int32)
                      · refine own_pre (A := T43.setTop (mkF m 203 #[.val (.int p1), .val (.int p2), .val (.int p3), .val (.int p4), .val (.int p5), .val (.int p6), .val (.int (p1 &&& (3 : Int32))), .val (.int xa), .val (.int xb), .val (.int xc), .val (.ref b33), .val (.ref b37), .val (.ref b41), .unset] [(.int (0 : Int32))])) (fun tt kt => ?_) ?_
                        · show Steps p.tables e below (T43.setTop (mkF m 189 #[.val (.int p1), .val (.int p2), .val (.int p3), .val (.int p4), .val (.int p5), .val (.int p6), .val (.int (p1 &&& (3 : Int32))), .val (.int xa), .val (.int xb), .val (.int xc), .val (.ref b33), .val (.ref b37), .val (.ref b41), .unset] [(.int (3 : Int32)), (.int (p1 &&& (3 : Int32)))])) _
                          refine XS.icmpYes X43.here hx rfl (pc0 := 189) (pc' := 202) rfl (hb hby at_189) rfl (tlt hc189_63).1 (by decide) (by decide) ?_
                          show Steps p.tables e below (T43.setTop (mkF m 202 #[.val (.int p1), .val (.int p2), .val (.int p3), .val (.int p4), .val (.int p5), .val (.int p6), .val (.int (p1 &&& (3 : Int32))), .val (.int xa), .val (.int xb), .val (.int xc), .val (.ref b33), .val (.ref b37), .val (.ref b41), .unset] [])) _
                          refine XS.iconst X43.here hx rfl (hb hby at_202) ?_
                          exact kt
                        show own_End p e below s (T43.setTop (mkF m 203 #[.val (.int p1), .val (.int p2), .val (.int p3), .val (.int p4), .val (.int p5), .val (.int p6), .val (.int (p1 &&& (3 : Int32))), .val (.int xa), .val (.int xb), .val (.int xc), .val (.ref b33), .val (.ref b37), .val (.ref b41), .unset] [(.int (0 : Int32))])) (Q0 Z p1 p2 p3 p4 p5 p6 h0 n0) room_1.cells room_1.slots
                        exact j203 _ _ X43 rfl N43 (0 : Int32)  (hj.trans (by simp only [own_law_142b, if_neg hc165_51, if_neg hc171_58, if_neg hc177_59, if_neg hc183_62, if_pos hc189_63]))
                      · refine own_pre (A := T43.setTop (mkF m 195 #[.val (.int p1), .val (.int p2), .val (.int p3), .val (.int p4), .val (.int p5), .val (.int p6), .val (.int (p1 &&& (3 : Int32))), .val (.int xa), .val (.int xb), .val (.int xc), .val (.ref b33), .val (.ref b37), .val (.ref b41), .unset] [(.int p2), (.int xc)])) (fun tt kt => ?_) ?_
                        · show Steps p.tables e below (T43.setTop (mkF m 189 #[.val (.int p1), .val (.int p2), .val (.int p3), .val (.int p4), .val (.int p5), .val (.int p6), .val (.int (p1 &&& (3 : Int32))), .val (.int xa), .val (.int xb), .val (.int xc), .val (.ref b33), .val (.ref b37), .val (.ref b41), .unset] [(.int (3 : Int32)), (.int (p1 &&& (3 : Int32)))])) _
                          refine XS.icmpNo X43.here hx rfl (hb hby at_189) rfl (flt hc189_63).1 ?_
                          show Steps p.tables e below (T43.setTop (mkF m 192 #[.val (.int p1), .val (.int p2), .val (.int p3), .val (.int p4), .val (.int p5), .val (.int p6), .val (.int (p1 &&& (3 : Int32))), .val (.int xa), .val (.int xb), .val (.int xc), .val (.ref b33), .val (.ref b37), .val (.ref b41), .unset] [])) _
                          refine XS.iload X43.here hx rfl (hb hby at_192) rfl ?_
                          show Steps p.tables e below (T43.setTop (mkF m 194 #[.val (.int p1), .val (.int p2), .val (.int p3), .val (.int p4), .val (.int p5), .val (.int p6), .val (.int (p1 &&& (3 : Int32))), .val (.int xa), .val (.int xb), .val (.int xc), .val (.ref b33), .val (.ref b37), .val (.ref b41), .unset] [(.int xc)])) _
                          refine XS.iloadN X43.here hx rfl (hb hby at_194) rfl ?_
                          exact kt
                        show own_End p e below s (T43.setTop (mkF m 195 #[.val (.int p1), .val (.int p2), .val (.int p3), .val (.int p4), .val (.int p5), .val (.int p6), .val (.int (p1 &&& (3 : Int32))), .val (.int xa), .val (.int xb), .val (.int xc), .val (.ref b33), .val (.ref b37), .val (.ref b41), .unset] [(.int p2), (.int xc)])) (Q0 Z p1 p2 p3 p4 p5 p6 h0 n0) room_1.cells room_1.slots
                        by_cases hc195_64 : xc = p2
                        · refine own_pre (A := T43.setTop (mkF m 203 #[.val (.int p1), .val (.int p2), .val (.int p3), .val (.int p4), .val (.int p5), .val (.int p6), .val (.int (p1 &&& (3 : Int32))), .val (.int xa), .val (.int xb), .val (.int xc), .val (.ref b33), .val (.ref b37), .val (.ref b41), .unset] [(.int (1 : Int32))])) (fun tt kt => ?_) ?_
                          · show Steps p.tables e below (T43.setTop (mkF m 195 #[.val (.int p1), .val (.int p2), .val (.int p3), .val (.int p4), .val (.int p5), .val (.int p6), .val (.int (p1 &&& (3 : Int32))), .val (.int xa), .val (.int xb), .val (.int xc), .val (.ref b33), .val (.ref b37), .val (.ref b41), .unset] [(.int p2), (.int xc)])) _
                            refine XS.icmpNo X43.here hx rfl (hb hby at_195) rfl (teq hc195_64).2 ?_
                            show Steps p.tables e below (T43.setTop (mkF m 198 #[.val (.int p1), .val (.int p2), .val (.int p3), .val (.int p4), .val (.int p5), .val (.int p6), .val (.int (p1 &&& (3 : Int32))), .val (.int xa), .val (.int xb), .val (.int xc), .val (.ref b33), .val (.ref b37), .val (.ref b41), .unset] [])) _
                            refine XS.iconst X43.here hx rfl (hb hby at_198) ?_
                            show Steps p.tables e below (T43.setTop (mkF m 199 #[.val (.int p1), .val (.int p2), .val (.int p3), .val (.int p4), .val (.int p5), .val (.int p6), .val (.int (p1 &&& (3 : Int32))), .val (.int xa), .val (.int xb), .val (.int xc), .val (.ref b33), .val (.ref b37), .val (.ref b41), .unset] [(.int (1 : Int32))])) _
                            refine XS.goto X43.here hx rfl (pc0 := 199) (pc' := 203) rfl (hb hby at_199) (by decide) (by decide) ?_
                            exact kt
                          show own_End p e below s (T43.setTop (mkF m 203 #[.val (.int p1), .val (.int p2), .val (.int p3), .val (.int p4), .val (.int p5), .val (.int p6), .val (.int (p1 &&& (3 : Int32))), .val (.int xa), .val (.int xb), .val (.int xc), .val (.ref b33), .val (.ref b37), .val (.ref b41), .unset] [(.int (1 : Int32))])) (Q0 Z p1 p2 p3 p4 p5 p6 h0 n0) room_1.cells room_1.slots
                          exact j203 _ _ X43 rfl N43 (1 : Int32)  (hj.trans (by simp only [own_law_142b, if_neg hc165_51, if_neg hc171_58, if_neg hc177_59, if_neg hc183_62, if_neg hc189_63, if_pos hc195_64]))
                        · refine own_pre (A := T43.setTop (mkF m 203 #[.val (.int p1), .val (.int p2), .val (.int p3), .val (.int p4), .val (.int p5), .val (.int p6), .val (.int (p1 &&& (3 : Int32))), .val (.int xa), .val (.int xb), .val (.int xc), .val (.ref b33), .val (.ref b37), .val (.ref b41), .unset] [(.int (0 : Int32))])) (fun tt kt => ?_) ?_
                          · show Steps p.tables e below (T43.setTop (mkF m 195 #[.val (.int p1), .val (.int p2), .val (.int p3), .val (.int p4), .val (.int p5), .val (.int p6), .val (.int (p1 &&& (3 : Int32))), .val (.int xa), .val (.int xb), .val (.int xc), .val (.ref b33), .val (.ref b37), .val (.ref b41), .unset] [(.int p2), (.int xc)])) _
                            refine XS.icmpYes X43.here hx rfl (pc0 := 195) (pc' := 202) rfl (hb hby at_195) rfl (feq hc195_64).2 (by decide) (by decide) ?_
                            show Steps p.tables e below (T43.setTop (mkF m 202 #[.val (.int p1), .val (.int p2), .val (.int p3), .val (.int p4), .val (.int p5), .val (.int p6), .val (.int (p1 &&& (3 : Int32))), .val (.int xa), .val (.int xb), .val (.int xc), .val (.ref b33), .val (.ref b37), .val (.ref b41), .unset] [])) _
                            refine XS.iconst X43.here hx rfl (hb hby at_202) ?_
                            exact kt
                          show own_End p e below s (T43.setTop (mkF m 203 #[.val (.int p1), .val (.int p2), .val (.int p3), .val (.int p4), .val (.int p5), .val (.int p6), .val (.int (p1 &&& (3 : Int32))), .val (.int xa), .val (.int xb), .val (.int xc), .val (.ref b33), .val (.ref b37), .val (.ref b41), .unset] [(.int (0 : Int32))])) (Q0 Z p1 p2 p3 p4 p5 p6 h0 n0) room_1.cells room_1.slots
                          exact j203 _ _ X43 rfl N43 (0 : Int32)  (hj.trans (by simp only [own_law_142b, if_neg hc165_51, if_neg hc171_58, if_neg hc177_59, if_neg hc183_62, if_neg hc189_63, if_neg hc195_64]))
            by_cases hc134_65 : (p6 &&& (8 : Int32)) = (0 : Int32)
            · refine own_pre (A := T37.setTop (mkF m 142 #[.val (.int p1), .val (.int p2), .val (.int p3), .val (.int p4), .val (.int p5), .val (.int p6), .val (.int (p1 &&& (3 : Int32))), .val (.int xa), .val (.int xb), .val (.int xc), .val (.ref b33), .unset, .unset, .unset] [(.int p4), (.int (0 : Int32)), (.ref b37), (.ref b37)])) (fun tt kt => ?_) ?_
              · show Steps p.tables e below (T37.setTop (mkF m 134 #[.val (.int p1), .val (.int p2), .val (.int p3), .val (.int p4), .val (.int p5), .val (.int p6), .val (.int (p1 &&& (3 : Int32))), .val (.int xa), .val (.int xb), .val (.int xc), .val (.ref b33), .unset, .unset, .unset] [(.int (p6 &&& (8 : Int32))), (.int (0 : Int32)), (.ref b37), (.ref b37)])) _
                refine XS.ifYes X37.here hx rfl (pc0 := 134) (pc' := 141) rfl (hb hby at_134) rfl ((if0 _ _).trans (teq hc134_65).1) (by decide) (by decide) ?_
                show Steps p.tables e below (T37.setTop (mkF m 141 #[.val (.int p1), .val (.int p2), .val (.int p3), .val (.int p4), .val (.int p5), .val (.int p6), .val (.int (p1 &&& (3 : Int32))), .val (.int xa), .val (.int xb), .val (.int xc), .val (.ref b33), .unset, .unset, .unset] [(.int (0 : Int32)), (.ref b37), (.ref b37)])) _
                refine XS.iloadN X37.here hx rfl (hb hby at_141) rfl ?_
                exact kt
              show own_End p e below s (T37.setTop (mkF m 142 #[.val (.int p1), .val (.int p2), .val (.int p3), .val (.int p4), .val (.int p5), .val (.int p6), .val (.int (p1 &&& (3 : Int32))), .val (.int xa), .val (.int xb), .val (.int xc), .val (.ref b33), .unset, .unset, .unset] [(.int p4), (.int (0 : Int32)), (.ref b37), (.ref b37)])) (Q0 Z p1 p2 p3 p4 p5 p6 h0 n0) room_1.cells room_1.slots
              exact j142 _ _ X37 e37 N35 p4  (hj.trans (by simp only [own_law_46, if_neg hc50_1, if_pos hc64_32, if_pos hc134_65]))
            · refine own_pre (A := T37.setTop (mkF m 142 #[.val (.int p1), .val (.int p2), .val (.int p3), .val (.int p4), .val (.int p5), .val (.int p6), .val (.int (p1 &&& (3 : Int32))), .val (.int xa), .val (.int xb), .val (.int xc), .val (.ref b33), .unset, .unset, .unset] [(.int p2), (.int (0 : Int32)), (.ref b37), (.ref b37)])) (fun tt kt => ?_) ?_
              · show Steps p.tables e below (T37.setTop (mkF m 134 #[.val (.int p1), .val (.int p2), .val (.int p3), .val (.int p4), .val (.int p5), .val (.int p6), .val (.int (p1 &&& (3 : Int32))), .val (.int xa), .val (.int xb), .val (.int xc), .val (.ref b33), .unset, .unset, .unset] [(.int (p6 &&& (8 : Int32))), (.int (0 : Int32)), (.ref b37), (.ref b37)])) _
                refine XS.ifNo X37.here hx rfl (hb hby at_134) rfl ((if0 _ _).trans (feq hc134_65).1) ?_
                show Steps p.tables e below (T37.setTop (mkF m 137 #[.val (.int p1), .val (.int p2), .val (.int p3), .val (.int p4), .val (.int p5), .val (.int p6), .val (.int (p1 &&& (3 : Int32))), .val (.int xa), .val (.int xb), .val (.int xc), .val (.ref b33), .unset, .unset, .unset] [(.int (0 : Int32)), (.ref b37), (.ref b37)])) _
                refine XS.iloadN X37.here hx rfl (hb hby at_137) rfl ?_
                show Steps p.tables e below (T37.setTop (mkF m 138 #[.val (.int p1), .val (.int p2), .val (.int p3), .val (.int p4), .val (.int p5), .val (.int p6), .val (.int (p1 &&& (3 : Int32))), .val (.int xa), .val (.int xb), .val (.int xc), .val (.ref b33), .unset, .unset, .unset] [(.int p2), (.int (0 : Int32)), (.ref b37), (.ref b37)])) _
                refine XS.goto X37.here hx rfl (pc0 := 138) (pc' := 142) rfl (hb hby at_138) (by decide) (by decide) ?_
                exact kt
              show own_End p e below s (T37.setTop (mkF m 142 #[.val (.int p1), .val (.int p2), .val (.int p3), .val (.int p4), .val (.int p5), .val (.int p6), .val (.int (p1 &&& (3 : Int32))), .val (.int xa), .val (.int xb), .val (.int xc), .val (.ref b33), .unset, .unset, .unset] [(.int p2), (.int (0 : Int32)), (.ref b37), (.ref b37)])) (Q0 Z p1 p2 p3 p4 p5 p6 h0 n0) room_1.cells room_1.slots
              exact j142 _ _ X37 e37 N35 p2  (hj.trans (by simp only [own_law_46, if_neg hc50_1, if_pos hc64_32, if_neg hc134_65]))
          · refine own_pre (A := Tj46.setTop (mkF m 83 #[.val (.int p1), .val (.int p2), .val (.int p3), .val (.int p4), .val (.int p5), .val (.int p6), .val (.int (p1 &&& (3 : Int32))), .val (.int xa), .val (.int xb), .val (.int xc), .unset, .unset, .unset, .unset] [(.int (2 : Int32)), (.int (p1 &&& (3 : Int32)))])) (fun tt kt => ?_) ?_
            · show Steps p.tables e below (Tj46.setTop (mkF m 64 #[.val (.int p1), .val (.int p2), .val (.int p3), .val (.int p4), .val (.int p5), .val (.int p6), .val (.int (p1 &&& (3 : Int32))), .val (.int xa), .val (.int xb), .val (.int xc), .unset, .unset, .unset, .unset] [(.int (1 : Int32)), (.int (p1 &&& (3 : Int32)))])) _
              refine XS.icmpYes Xj46.here hx rfl (pc0 := 64) (pc' := 80) rfl (hb hby at_64) rfl (feq hc64_32).2 (by decide) (by decide) ?_
              show Steps p.tables e below (Tj46.setTop (mkF m 80 #[.val (.int p1), .val (.int p2), .val (.int p3), .val (.int p4), .val (.int p5), .val (.int p6), .val (.int (p1 &&& (3 : Int32))), .val (.int xa), .val (.int xb), .val (.int xc), .unset, .unset, .unset, .unset] [])) _
              refine XS.iload Xj46.here hx rfl (hb hby at_80) rfl ?_
              show Steps p.tables e below (Tj46.setTop (mkF m 82 #[.val (.int p1), .val (.int p2), .val (.int p3), .val (.int p4), .val (.int p5), .val (.int p6), .val (.int (p1 &&& (3 : Int32))), .val (.int xa), .val (.int xb), .val (.int xc), .unset, .unset, .unset, .unset] [(.int (p1 &&& (3 : Int32)))])) _
              refine XS.iconst Xj46.here hx rfl (hb hby at_82) ?_
              exact kt
            show own_End p e below s (Tj46.setTop (mkF m 83 #[.val (.int p1), .val (.int p2), .val (.int p3), .val (.int p4), .val (.int p5), .val (.int p6), .val (.int (p1 &&& (3 : Int32))), .val (.int xa), .val (.int xb), .val (.int xc), .unset, .unset, .unset, .unset] [(.int (2 : Int32)), (.int (p1 &&& (3 : Int32)))])) (Q0 Z p1 p2 p3 p4 p5 p6 h0 n0) room_1.cells room_1.slots
            by_cases hc83_66 : (p1 &&& (3 : Int32)) = (2 : Int32)
            · obtain ⟨T67, h67, k67, X67, e67, E67, A67, st67⟩ := newP Xj46 hx hZ (hw _ (List.mem_of_getElem? (i := 0) rfl)) ej46 (g := (mkF m 87 #[.val (.int p1), .val (.int p2), .val (.int p3), .val (.int p4), .val (.int p5), .val (.int p6), .val (.int (p1 &&& (3 : Int32))), .val (.int xa), .val (.int xb), .val (.int xc), .unset, .unset, .unset, .unset] [(.int (2 : Int32))])) rfl (hb hby at_87) rfl (by decide) (cap := 2) (by decide) (by decide) (by decide) (by decide)
              obtain ⟨b67, g67⟩ : ∃ z, z = h0.size := ⟨_, rfl⟩
              rw [← g67] at A67 st67
              have g_b67 : n0 ≤ b67 := Nat.le_trans Z0 (Nat.le_of_eq g67.symm)
              have sz_b67 : h0.size ≤ b67 := Nat.le_trans (show Keep h0 h0 [] from (Keep.refl h0 _)).1 (Nat.le_of_eq g67.symm)
              have K67 : Keep h0 h67 [] := Keep.ext (Keep.refl h0 _) E67
              have Z67 : n0 ≤ h67.size := Nat.le_trans Z0 E67.1
              have V67 : own_Arr Z h67 b67 .int (2 : Int32) (fun i => Value.int ((fun _ => (0 : Int32)) i)) := own_Arr.new A67 (by decide) (fun _ => rfl)
              obtain ⟨cl68, Ar68, S68, Nn68, G68⟩ := id V67
              have hin68 : ¬ ((0 : Int32) < 0 ∨ cl68.slots.size ≤ (0 : Int32).toNatClampNeg) := inb_of S68 (⟨by decide, by decide⟩ : ¬ (0 : Int32) < 0 ∧ (0 : Int32) < (2 : Int32))
              obtain ⟨T69, h69, X69, e69, W69, st69⟩ := stI X67 hx hZ e67 Ar68 (j := (0 : Int32)) hin68 (g := (mkF m 93 #[.val (.int p1), .val (.int p2), .val (.int p3), .val (.int p4), .val (.int p5), .val (.int p6), .val (.int (p1 &&& (3 : Int32))), .val (.int xa), .val (.int xb), .val (.int xc), .unset, .unset, .unset, .unset] [(.int xa), (.int (0 : Int32)), (.ref b67), (.ref b67)])) rfl rfl (hb hby at_93)
              have V69 : own_Arr Z h69 b67 .int (2 : Int32) (fun i => Value.int ((own_law0_g70 p1 p2 p3 p4 p5 p6 xa xb xc) i)) := own_Arr.set (w := Value.int) (g := (fun _ => (0 : Int32))) (x := xa) V67 W69 rfl (fun i => rfl)
              have N69 := Fr.snoc X69 Nj46 g_b67
              have K69 : Keep h0 h69 [] := Keep.wr K67 W69 (Or.inr sz_b67)
              have Z69 : n0 ≤ h69.size := Nat.le_trans Z67 (Nat.le_of_eq W69.size.symm)
              obtain ⟨cl71, Ar71, S71, Nn71, G71⟩ := id V69
              have hin71 : ¬ ((1 : Int32) < 0 ∨ cl71.slots.size ≤ (1 : Int32).toNatClampNeg) := inb_of S71 (⟨by decide, by decide⟩ : ¬ (1 : Int32) < 0 ∧ (1 : Int32) < (2 : Int32))
              obtain ⟨T72, h72, X72, e72, W72, st72⟩ := stI X69 hx hZ e69 Ar71 (j := (1 : Int32)) hin71 (g := (mkF m 98 #[.val (.int p1), .val (.int p2), .val (.int p3), .val (.int p4), .val (.int p5), .val (.int p6), .val (.int (p1 &&& (3 : Int32))), .val (.int xa), .val (.int xb), .val (.int xc), .unset, .unset, .unset, .unset] [(.int xb), (.int (1 : Int32)), (.ref b67), (.ref b67)])) rfl rfl (hb hby at_98)
              have V72 : own_Arr Z h72 b67 .int (2 : Int32) (fun i => Value.int ((own_law0_g73 p1 p2 p3 p4 p5 p6 xa xb xc) i)) := own_Arr.set (w := Value.int) (g := (own_law0_g70 p1 p2 p3 p4 p5 p6 xa xb xc)) (x := xb) V69 W72 rfl (fun i => rfl)
              have N72 := Fr.snoc X72 N69 g_b67
              have K72 : Keep h0 h72 [] := Keep.wr K69 W72 (Or.inr sz_b67)
              have Z72 : n0 ≤ h72.size := Nat.le_trans Z69 (Nat.le_of_eq W72.size.symm)
              obtain ⟨T74, h74, k74, X74, e74, E74, A74, st74⟩ := newP X72 hx hZ (hw _ (List.mem_of_getElem? (i := 0) rfl)) e72 (g := (mkF m 125 #[.val (.int p1), .val (.int p2), .val (.int p3), .val (.int p4), .val (.int p5), .val (.int p6), .val (.int (p1 &&& (3 : Int32))), .val (.int xa), .val (.int xb), .val (.int xc), .val (.ref b67), .unset, .unset, .unset] [(.int (1 : Int32))])) rfl (hb hby at_125) rfl (by decide) (cap := 1) (by decide) (by decide) (by decide) (by decide)
              obtain ⟨b74, g74⟩ : ∃ z, z = h72.size := ⟨_, rfl⟩
              rw [← g74] at A74 st74
              have ne_b67_b74 : b67 ≠ b74 := Nat.ne_of_lt (Nat.lt_of_lt_of_le V72.lt (Nat.le_of_eq g74.symm))
              have g_b74 : n0 ≤ b74 := Nat.le_trans Z72 (Nat.le_of_eq g74.symm)
              have sz_b74 : h0.size ≤ b74 := Nat.le_trans (show Keep h0 h72 [] from K72).1 (Nat.le_of_eq g74.symm)
              have fA_b67_x74 := (V72.ext E74)
              have K74 : Keep h0 h74 [] := Keep.ext K72 E74
              have Z74 : n0 ≤ h74.size := Nat.le_trans Z72 E74.1
              have V74 : own_Arr Z h74 b74 .int (1 : Int32) (fun i => Value.int ((fun _ => (0 : Int32)) i)) := own_Arr.new A74 (by decide) (fun _ => rfl)
              refine own_pre (A := T74.setTop (mkF m 134 #[.val (.int p1), .val (.int p2), .val (.int p3), .val (.int p4), .val (.int p5), .val (.int p6), .val (.int (p1 &&& (3 : Int32))), .val (.int xa), .val (.int xb), .val (.int xc), .val (.ref b67), .unset, .unset, .unset] [(.int (p6 &&& (8 : Int32))), (.int (0 : Int32)), (.ref b74), (.ref b74)])) (fun tt kt => ?_) ?_
              · show Steps p.tables e below (Tj46.setTop (mkF m 83 #[.val (.int p1), .val (.int p2), .val (.int p3), .val (.int p4), .val (.int p5), .val (.int p6), .val (.int (p1 &&& (3 : Int32))), .val (.int xa), .val (.int xb), .val (.int xc), .unset, .unset, .unset, .unset] [(.int (2 : Int32)), (.int (p1 &&& (3 : Int32)))])) _
                refine XS.icmpNo Xj46.here hx rfl (hb hby at_83) rfl (teq hc83_66).2 ?_
                show Steps p.tables e below (Tj46.setTop (mkF m 86 #[.val (.int p1), .val (.int p2), .val (.int p3), .val (.int p4), .val (.int p5), .val (.int p6), .val (.int (p1 &&& (3 : Int32))), .val (.int xa), .val (.int xb), .val (.int xc), .unset, .unset, .unset, .unset] [])) _
                refine XS.iconst Xj46.here hx rfl (hb hby at_86) ?_
                show Steps p.tables e below (Tj46.setTop (mkF m 87 #[.val (.int p1), .val (.int p2), .val (.int p3), .val (.int p4), .val (.int p5), .val (.int p6), .val (.int (p1 &&& (3 : Int32))), .val (.int xa), .val (.int xb), .val (.int xc), .unset, .unset, .unset, .unset] [(.int (2 : Int32))])) _
                refine st67 _ ?_
                show Steps p.tables e below (T67.setTop (mkF m 89 #[.val (.int p1), .val (.int p2), .val (.int p3), .val (.int p4), .val (.int p5), .val (.int p6), .val (.int (p1 &&& (3 : Int32))), .val (.int xa), .val (.int xb), .val (.int xc), .unset, .unset, .unset, .unset] [(.ref b67)])) _
                refine XS.dup X67.here hx rfl (hb hby at_89) rfl rfl ?_
                show Steps p.tables e below (T67.setTop (mkF m 90 #[.val (.int p1), .val (.int p2), .val (.int p3), .val (.int p4), .val (.int p5), .val (.int p6), .val (.int (p1 &&& (3 : Int32))), .val (.int xa), .val (.int xb), .val (.int xc), .unset, .unset, .unset, .unset] [(.ref b67), (.ref b67)])) _
                refine XS.iconst X67.here hx rfl (hb hby at_90) ?_
                show Steps p.tables e below (T67.setTop (mkF m 91 #[.val (.int p1), .val (.int p2), .val (.int p3), .val (.int p4), .val (.int p5), .val (.int p6), .val (.int (p1 &&& (3 : Int32))), .val (.int xa), .val (.int xb), .val (.int xc), .unset, .unset, .unset, .unset] [(.int (0 : Int32)), (.ref b67), (.ref b67)])) _
                refine XS.iload X67.here hx rfl (hb hby at_91) rfl ?_
                show Steps p.tables e below (T67.setTop (mkF m 93 #[.val (.int p1), .val (.int p2), .val (.int p3), .val (.int p4), .val (.int p5), .val (.int p6), .val (.int (p1 &&& (3 : Int32))), .val (.int xa), .val (.int xb), .val (.int xc), .unset, .unset, .unset, .unset] [(.int xa), (.int (0 : Int32)), (.ref b67), (.ref b67)])) _
                refine st69 _ ?_
                show Steps p.tables e below (T69.setTop (mkF m 94 #[.val (.int p1), .val (.int p2), .val (.int p3), .val (.int p4), .val (.int p5), .val (.int p6), .val (.int (p1 &&& (3 : Int32))), .val (.int xa), .val (.int xb), .val (.int xc), .unset, .unset, .unset, .unset] [(.ref b67)])) _
                refine XS.dup X69.here hx rfl (hb hby at_94) rfl rfl ?_
                show Steps p.tables e below (T69.setTop (mkF m 95 #[.val (.int p1), .val (.int p2), .val (.int p3), .val (.int p4), .val (.int p5), .val (.int p6), .val (.int (p1 &&& (3 : Int32))), .val (.int xa), .val (.int xb), .val (.int xc), .unset, .unset, .unset, .unset] [(.ref b67), (.ref b67)])) _
                refine XS.iconst X69.here hx rfl (hb hby at_95) ?_
                show Steps p.tables e below (T69.setTop (mkF m 96 #[.val (.int p1), .val (.int p2), .val (.int p3), .val (.int p4), .val (.int p5), .val (.int p6), .val (.int (p1 &&& (3 : Int32))), .val (.int xa), .val (.int xb), .val (.int xc), .unset, .unset, .unset, .unset] [(.int (1 : Int32)), (.ref b67), (.ref b67)])) _
                refine XS.iload X69.here hx rfl (hb hby at_96) rfl ?_
                show Steps p.tables e below (T69.setTop (mkF m 98 #[.val (.int p1), .val (.int p2), .val (.int p3), .val (.int p4), .val (.int p5), .val (.int p6), .val (.int (p1 &&& (3 : Int32))), .val (.int xa), .val (.int xb), .val (.int xc), .unset, .unset, .unset, .unset] [(.int xb), (.int (1 : Int32)), (.ref b67), (.ref b67)])) _
                refine st72 _ ?_
                show Steps p.tables e below (T72.setTop (mkF m 99 #[.val (.int p1), .val (.int p2), .val (.int p3), .val (.int p4), .val (.int p5), .val (.int p6), .val (.int (p1 &&& (3 : Int32))), .val (.int xa), .val (.int xb), .val (.int xc), .unset, .unset, .unset, .unset] [(.ref b67)])) _
                refine XS.astore X72.here hx rfl (hb hby at_99) rfl rfl (l' := #[.val (.int p1), .val (.int p2), .val (.int p3), .val (.int p4), .val (.int p5), .val (.int p6), .val (.int (p1 &&& (3 : Int32))), .val (.int xa), .val (.int xb), .val (.int xc), .val (.ref b67), .unset, .unset, .unset]) rfl ?_
                show Steps p.tables e below (T72.setTop (mkF m 101 #[.val (.int p1), .val (.int p2), .val (.int p3), .val (.int p4), .val (.int p5), .val (.int p6), .val (.int (p1 &&& (3 : Int32))), .val (.int xa), .val (.int xb), .val (.int xc), .val (.ref b67), .unset, .unset, .unset] [])) _
                refine XS.goto X72.here hx rfl (pc0 := 101) (pc' := 124) rfl (hb hby at_101) (by decide) (by decide) ?_
                show Steps p.tables e below (T72.setTop (mkF m 124 #[.val (.int p1), .val (.int p2), .val (.int p3), .val (.int p4), .val (.int p5), .val (.int p6), .val (.int (p1 &&& (3 : Int32))), .val (.int xa), .val (.int xb), .val (.int xc), .val (.ref b67), .unset, .unset, .unset] [])) _
                refine XS.iconst X72.here hx rfl (hb hby at_124) ?_
                show Steps p.tables e below (T72.setTop (mkF m 125 #[.val (.int p1), .val (.int p2), .val (.int p3), .val (.int p4), .val (.int p5), .val (.int p6), .val (.int (p1 &&& (3 : Int32))), .val (.int xa), .val (.int xb), .val (.int xc), .val (.ref b67), .unset, .unset, .unset] [(.int (1 : Int32))])) _
                refine st74 _ ?_
                show Steps p.tables e below (T74.setTop (mkF m 127 #[.val (.int p1), .val (.int p2), .val (.int p3), .val (.int p4), .val (.int p5), .val (.int p6), .val (.int (p1 &&& (3 : Int32))), .val (.int xa), .val (.int xb), .val (.int xc), .val (.ref b67), .unset, .unset, .unset] [(.ref b74)])) _
                refine XS.dup X74.here hx rfl (hb hby at_127) rfl rfl ?_
                show Steps p.tables e below (T74.setTop (mkF m 128 #[.val (.int p1), .val (.int p2), .val (.int p3), .val (.int p4), .val (.int p5), .val (.int p6), .val (.int (p1 &&& (3 : Int32))), .val (.int xa), .val (.int xb), .val (.int xc), .val (.ref b67), .unset, .unset, .unset] [(.ref b74), (.ref b74)])) _
                refine XS.iconst X74.here hx rfl (hb hby at_128) ?_
                show Steps p.tables e below (T74.setTop (mkF m 129 #[.val (.int p1), .val (.int p2), .val (.int p3), .val (.int p4), .val (.int p5), .val (.int p6), .val (.int (p1 &&& (3 : Int32))), .val (.int xa), .val (.int xb), .val (.int xc), .val (.ref b67), .unset, .unset, .unset] [(.int (0 : Int32)), (.ref b74), (.ref b74)])) _
                refine XS.iload X74.here hx rfl (hb hby at_129) rfl ?_
                show Steps p.tables e below (T74.setTop (mkF m 131 #[.val (.int p1), .val (.int p2), .val (.int p3), .val (.int p4), .val (.int p5), .val (.int p6), .val (.int (p1 &&& (3 : Int32))), .val (.int xa), .val (.int xb), .val (.int xc), .val (.ref b67), .unset, .unset, .unset] [(.int p6), (.int (0 : Int32)), (.ref b74), (.ref b74)])) _
                refine XS.bipush X74.here hx rfl (hb hby at_131) ?_
                show Steps p.tables e below (T74.setTop (mkF m 133 #[.val (.int p1), .val (.int p2), .val (.int p3), .val (.int p4), .val (.int p5), .val (.int p6), .val (.int (p1 &&& (3 : Int32))), .val (.int xa), .val (.int xb), .val (.int xc), .val (.ref b67), .unset, .unset, .unset] [(.int (8 : Int32)), (.int p6), (.int (0 : Int32)), (.ref b74), (.ref b74)])) _
                refine XS.iand X74.here hx rfl (hb hby at_133) rfl ?_
                exact kt
              show own_End p e below s (T74.setTop (mkF m 134 #[.val (.int p1), .val (.int p2), .val (.int p3), .val (.int p4), .val (.int p5), .val (.int p6), .val (.int (p1 &&& (3 : Int32))), .val (.int xa), .val (.int xb), .val (.int xc), .val (.ref b67), .unset, .unset, .unset] [(.int (p6 &&& (8 : Int32))), (.int (0 : Int32)), (.ref b74), (.ref b74)])) (Q0 Z p1 p2 p3 p4 p5 p6 h0 n0) room_1.cells room_1.slots
              have j142 : ∀ (Tj142 : State) (Lj142 : List Loc) (Xj142 : Stand p l e room_1 s m #[(.int p1), (.int p2), (.int p3), (.int p4), (.int p5), (.int p6)] below meth c Tj142 Lj142 2 3) (ej142 : Tj142.heap = h74) (Nj142 : Fr n0 Lj142) (wv : Int32) , own_law p1 p2 p3 p4 p5 p6 = own_law_142bb p1 p2 p3 p4 p5 p6 xa xb xc wv → own_End p e below s (Tj142.setTop (mkF m 142 #[.val (.int p1), .val (.int p2), .val (.int p3), .val (.int p4), .val (.int p5), .val (.int p6), .val (.int (p1 &&& (3 : Int32))), .val (.int xa), .val (.int xb), .val (.int xc), .val (.ref b67), .unset, .unset, .unset] [(.int wv), (.int (0 : Int32)), (.ref b74), (.ref b74)])) (Q0 Z p1 p2 p3 p4 p5 p6 h0 n0) room_1.cells room_1.slots := by
                intro Tj142 Lj142 Xj142 ej142 Nj142 wv  hj
                obtain ⟨cl75, Ar75, S75, Nn75, G75⟩ := id V74
                have hin75 : ¬ ((0 : Int32) < 0 ∨ cl75.slots.size ≤ (0 : Int32).toNatClampNeg) := inb_of S75 (⟨by decide, by decide⟩ : ¬ (0 : Int32) < 0 ∧ (0 : Int32) < (1 : Int32))
                obtain ⟨T76, h76, X76, e76, W76, st76⟩ := stI Xj142 hx hZ ej142 Ar75 (j := (0 : Int32)) hin75 (g := (mkF m 142 #[.val (.int p1), .val (.int p2), .val (.int p3), .val (.int p4), .val (.int p5), .val (.int p6), .val (.int (p1 &&& (3 : Int32))), .val (.int xa), .val (.int xb), .val (.int xc), .val (.ref b67), .unset, .unset, .unset] [(.int wv), (.int (0 : Int32)), (.ref b74), (.ref b74)])) rfl rfl (hb hby at_142)
                have fA_b67_x76 := (fA_b67_x74.other W76 ne_b67_b74)
                have V76 : own_Arr Z h76 b74 .int (1 : Int32) (fun i => Value.int ((own_law0_g77 p1 p2 p3 p4 p5 p6 xa xb xc wv) i)) := own_Arr.set (w := Value.int) (g := (fun _ => (0 : Int32))) (x := wv) V74 W76 rfl (fun i => rfl)
                have N76 := Fr.snoc X76 Nj142 g_b74
                have K76 : Keep h0 h76 [] := Keep.wr K74 W76 (Or.inr sz_b74)
                have Z76 : n0 ≤ h76.size := Nat.le_trans Z74 (Nat.le_of_eq W76.size.symm)
                obtain ⟨T78, h78, X78, e78, E78, A78, D78, -, st78⟩ := newO X76 hx hZ hown (hw _ (List.mem_of_getElem? (i := 1) rfl)) (hw _ (List.mem_of_getElem? (i := 2) rfl)) (hw _ (List.mem_of_getElem? (i := 3) rfl)) e76 (g := (mkF m 145 #[.val (.int p1), .val (.int p2), .val (.int p3), .val (.int p4), .val (.int p5), .val (.int p6), .val (.int (p1 &&& (3 : Int32))), .val (.int xa), .val (.int xb), .val (.int xc), .val (.ref b67), .val (.ref b74), .unset, .unset] [])) rfl (hb hby at_145) (by decide) (by decide)
                obtain ⟨b78, g78⟩ : ∃ z, z = h76.size := ⟨_, rfl⟩
                rw [← g78] at A78 D78 st78
                have ne_b67_b78 : b67 ≠ b78 := Nat.ne_of_lt (Nat.lt_of_lt_of_le fA_b67_x76.lt (Nat.le_of_eq g78.symm))
                have ne_b74_b78 : b74 ≠ b78 := Nat.ne_of_lt (Nat.lt_of_lt_of_le V76.lt (Nat.le_of_eq g78.symm))
                have g_b78 : n0 ≤ b78 := Nat.le_trans Z76 (Nat.le_of_eq g78.symm)
                have sz_b78 : h0.size ≤ b78 := Nat.le_trans (show Keep h0 h76 [] from K76).1 (Nat.le_of_eq g78.symm)
                have fA_b67_x78 := (fA_b67_x76.ext E78)
                have fA_b74_x78 := (V76.ext E78)
                have K78 : Keep h0 h78 [] := Keep.ext K76 E78
                have Z78 : n0 ≤ h78.size := Nat.le_trans Z76 E78.1
                have F_winning_b78 : Fld Z h78 b78 "com/example/scratchline/scratchline/game/Face" "winning" "[I" .null := D78 (Or.inr (hw _ (List.mem_of_getElem? (i := 12) rfl))) (ty := (.array .int)) (by decide)
                have F_bonus_b78 : Fld Z h78 b78 "com/example/scratchline/scratchline/game/Face" "bonus" "I" (.int (0 : Int32)) := D78 (Or.inr (hw _ (List.mem_of_getElem? (i := 14) rfl))) (ty := .int) (by decide)
                have F_spots_b78 : Fld Z h78 b78 "com/example/scratchline/scratchline/game/Face" "spots" "[I" .null := D78 (Or.inr (hw _ (List.mem_of_getElem? (i := 16) rfl))) (ty := (.array .int)) (by decide)
                have F_prizes_b78 : Fld Z h78 b78 "com/example/scratchline/scratchline/game/Face" "prizes" "[J" .null := D78 (Or.inr (hw _ (List.mem_of_getElem? (i := 18) rfl))) (ty := (.array .long)) (by decide)
                obtain ⟨T79, h79, k79, X79, e79, E79, A79, st79⟩ := newP X78 hx hZ (hw _ (List.mem_of_getElem? (i := 4) rfl)) e78 (g := (mkF m 155 #[.val (.int p1), .val (.int p2), .val (.int p3), .val (.int p4), .val (.int p5), .val (.int p6), .val (.int (p1 &&& (3 : Int32))), .val (.int xa), .val (.int xb), .val (.int xc), .val (.ref b67), .val (.ref b74), .unset, .unset] [(.int (0 : Int32)), (.ref b67), (.int p2), (.ref b74), (.ref b78), (.ref b78)])) rfl (hb hby at_155) rfl (by decide) (cap := 0) (by decide) (by decide) (by decide) (by decide)
                obtain ⟨b79, g79⟩ : ∃ z, z = h78.size := ⟨_, rfl⟩
                rw [← g79] at A79 st79
                have ne_b67_b79 : b67 ≠ b79 := Nat.ne_of_lt (Nat.lt_of_lt_of_le fA_b67_x78.lt (Nat.le_of_eq g79.symm))
                have ne_b78_b79 : b78 ≠ b79 := Nat.ne_of_lt (Nat.lt_of_lt_of_le A78.lt (Nat.le_of_eq g79.symm))
                have ne_b74_b79 : b74 ≠ b79 := Nat.ne_of_lt (Nat.lt_of_lt_of_le fA_b74_x78.lt (Nat.le_of_eq g79.symm))
                have g_b79 : n0 ≤ b79 := Nat.le_trans Z78 (Nat.le_of_eq g79.symm)
                have sz_b79 : h0.size ≤ b79 := Nat.le_trans (show Keep h0 h78 [] from K78).1 (Nat.le_of_eq g79.symm)
                have fA_b67_x79 := (fA_b67_x78.ext E79)
                have fA_b74_x79 := (fA_b74_x78.ext E79)
                have fE_b78_x79 := (A78.ext E79)
                have fF_b78_winning_x79 := (F_winning_b78.ext E79)
                have fF_b78_bonus_x79 := (F_bonus_b78.ext E79)
                have fF_b78_spots_x79 := (F_spots_b78.ext E79)
                have fF_b78_prizes_x79 := (F_prizes_b78.ext E79)
                have K79 : Keep h0 h79 [] := Keep.ext K78 E79
                have Z79 : n0 ≤ h79.size := Nat.le_trans Z78 E79.1
                have V79 : own_Arr Z h79 b79 .long (0 : Int32) (fun i => Value.long ((fun _ => (0 : Int64)) i)) := own_Arr.new A79 (by decide) (fun _ => rfl)
                obtain ⟨_, _, ⟨T80, L80, k80, n80⟩, -, X80, ⟨Lc80, hQ80, l80, y80, z80⟩, st80⟩ := X79.specialBack hx (y := (⟨"com/example/scratchline/scratchline/game/Face", "<init>", "([II[I[J)V"⟩ : MethodName)) rfl hown (mvT hZ (hw _ (List.mem_of_getElem? (i := 5) rfl))) (mvT hZ (hw _ (List.mem_of_getElem? (i := 6) rfl))) (mvT hZ (hw _ (List.mem_of_getElem? (i := 7) rfl))) (by decide) (backOf (W := 1) (rm1 l Z a0 hw [] b78 b74 p2 b67 b79 (0 : Int32) h79 n0 Z79 ⟨fE_b78_x79, fF_b78_winning_x79, fF_b78_bonus_x79, fF_b78_spots_x79, fF_b78_prizes_x79⟩ g_b78) hZ (hw _ (List.mem_of_getElem? (i := 7) rfl)) (hw _ (List.mem_of_getElem? (i := 3) rfl)) (by decide) (by decide)) (g := (mkF m 157 #[.val (.int p1), .val (.int p2), .val (.int p3), .val (.int p4), .val (.int p5), .val (.int p6), .val (.int (p1 &&& (3 : Int32))), .val (.int xa), .val (.int xb), .val (.int xc), .val (.ref b67), .val (.ref b74), .unset, .unset] [(.ref b79), (.ref b67), (.int p2), (.ref b74), (.ref b78), (.ref b78)])) rfl (by rw [hml]; rfl) (Steps.refl _) (a := b78) (argsL := [(.ref b74), (.int p2), (.ref b67), (.ref b79)]) (rest := [(.ref b78)]) (lenOf pd_0_0 rfl) rfl (by show 2 * 0 + _ ≤ _; exact Nat.le_of_eq rfl) (hb hby at_157) (fun _ _ => ⟨rfl, e79, (by decide : 4 + 0 ≤ _), (by decide : 7 + 0 ≤ _)⟩)
                dsimp only [Pt.U, Pt.locs, Pt.cells, Pt.slots] at X80 l80 y80 z80 st80 hQ80
                subst l80 y80 z80
                obtain ⟨rfl, N80q, Kq80, O80_0⟩ := hQ80
                have N80 := Fr.app N76 N80q
                have fA_b67_x80 := (fA_b67_x79.keep Kq80 (ninS ne_b67_b78 nin0))
                have fA_b74_x80 := (fA_b74_x79.keep Kq80 (ninS ne_b74_b78 nin0))
                have fE_b78_x80 := (fE_b78_x79.keep Kq80)
                have fA_b79_x80 := (V79.keep Kq80 (ninS (Ne.symm ne_b78_b79) nin0))
                have K80 : Keep h0 T80.heap [] := Keep.trans K79 Kq80 (allS (Or.inr sz_b78) all0)
                have Z80 : n0 ≤ T80.heap.size := Nat.le_trans Z79 Kq80.1
                obtain ⟨E_b78_81, F_winning_b78_82, F_bonus_b78_83, F_spots_b78_84, F_prizes_b78_85⟩ := O80_0
                refine own_pre (A := T80.setTop (mkF m 165 #[.val (.int p1), .val (.int p2), .val (.int p3), .val (.int p4), .val (.int p5), .val (.int p6), .val (.int (p1 &&& (3 : Int32))), .val (.int xa), .val (.int xb), .val (.int xc), .val (.ref b67), .val (.ref b74), .val (.ref b78), .unset] [(.int (1 : Int32)), (.int (p1 &&& (3 : Int32)))])) (fun tt kt => ?_) ?_
                · show Steps p.tables e below (Tj142.setTop (mkF m 142 #[.val (.int p1), .val (.int p2), .val (.int p3), .val (.int p4), .val (.int p5), .val (.int p6), .val (.int (p1 &&& (3 : Int32))), .val (.int xa), .val (.int xb), .val (.int xc), .val (.ref b67), .unset, .unset, .unset] [(.int wv), (.int (0 : Int32)), (.ref b74), (.ref b74)])) _
                  refine st76 _ ?_
                  show Steps p.tables e below (T76.setTop (mkF m 143 #[.val (.int p1), .val (.int p2), .val (.int p3), .val (.int p4), .val (.int p5), .val (.int p6), .val (.int (p1 &&& (3 : Int32))), .val (.int xa), .val (.int xb), .val (.int xc), .val (.ref b67), .unset, .unset, .unset] [(.ref b74)])) _
                  refine XS.astore X76.here hx rfl (hb hby at_143) rfl rfl (l' := #[.val (.int p1), .val (.int p2), .val (.int p3), .val (.int p4), .val (.int p5), .val (.int p6), .val (.int (p1 &&& (3 : Int32))), .val (.int xa), .val (.int xb), .val (.int xc), .val (.ref b67), .val (.ref b74), .unset, .unset]) rfl ?_
                  show Steps p.tables e below (T76.setTop (mkF m 145 #[.val (.int p1), .val (.int p2), .val (.int p3), .val (.int p4), .val (.int p5), .val (.int p6), .val (.int (p1 &&& (3 : Int32))), .val (.int xa), .val (.int xb), .val (.int xc), .val (.ref b67), .val (.ref b74), .unset, .unset] [])) _
                  refine st78 _ ?_
                  show Steps p.tables e below (T78.setTop (mkF m 148 #[.val (.int p1), .val (.int p2), .val (.int p3), .val (.int p4), .val (.int p5), .val (.int p6), .val (.int (p1 &&& (3 : Int32))), .val (.int xa), .val (.int xb), .val (.int xc), .val (.ref b67), .val (.ref b74), .unset, .unset] [(.ref b78)])) _
                  refine XS.dup X78.here hx rfl (hb hby at_148) rfl rfl ?_
                  show Steps p.tables e below (T78.setTop (mkF m 149 #[.val (.int p1), .val (.int p2), .val (.int p3), .val (.int p4), .val (.int p5), .val (.int p6), .val (.int (p1 &&& (3 : Int32))), .val (.int xa), .val (.int xb), .val (.int xc), .val (.ref b67), .val (.ref b74), .unset, .unset] [(.ref b78), (.ref b78)])) _
                  refine XS.aload X78.here hx rfl (hb hby at_149) rfl rfl ?_
                  show Steps p.tables e below (T78.setTop (mkF m 151 #[.val (.int p1), .val (.int p2), .val (.int p3), .val (.int p4), .val (.int p5), .val (.int p6), .val (.int (p1 &&& (3 : Int32))), .val (.int xa), .val (.int xb), .val (.int xc), .val (.ref b67), .val (.ref b74), .unset, .unset] [(.ref b74), (.ref b78), (.ref b78)])) _
                  refine XS.iloadN X78.here hx rfl (hb hby at_151) rfl ?_
                  show Steps p.tables e below (T78.setTop (mkF m 152 #[.val (.int p1), .val (.int p2), .val (.int p3), .val (.int p4), .val (.int p5), .val (.int p6), .val (.int (p1 &&& (3 : Int32))), .val (.int xa), .val (.int xb), .val (.int xc), .val (.ref b67), .val (.ref b74), .unset, .unset] [(.int p2), (.ref b74), (.ref b78), (.ref b78)])) _
                  refine XS.aload X78.here hx rfl (hb hby at_152) rfl rfl ?_
                  show Steps p.tables e below (T78.setTop (mkF m 154 #[.val (.int p1), .val (.int p2), .val (.int p3), .val (.int p4), .val (.int p5), .val (.int p6), .val (.int (p1 &&& (3 : Int32))), .val (.int xa), .val (.int xb), .val (.int xc), .val (.ref b67), .val (.ref b74), .unset, .unset] [(.ref b67), (.int p2), (.ref b74), (.ref b78), (.ref b78)])) _
                  refine XS.iconst X78.here hx rfl (hb hby at_154) ?_
                  show Steps p.tables e below (T78.setTop (mkF m 155 #[.val (.int p1), .val (.int p2), .val (.int p3), .val (.int p4), .val (.int p5), .val (.int p6), .val (.int (p1 &&& (3 : Int32))), .val (.int xa), .val (.int xb), .val (.int xc), .val (.ref b67), .val (.ref b74), .unset, .unset] [(.int (0 : Int32)), (.ref b67), (.int p2), (.ref b74), (.ref b78), (.ref b78)])) _
                  refine st79 _ ?_
                  show Steps p.tables e below (T79.setTop (mkF m 157 #[.val (.int p1), .val (.int p2), .val (.int p3), .val (.int p4), .val (.int p5), .val (.int p6), .val (.int (p1 &&& (3 : Int32))), .val (.int xa), .val (.int xb), .val (.int xc), .val (.ref b67), .val (.ref b74), .unset, .unset] [(.ref b79), (.ref b67), (.int p2), (.ref b74), (.ref b78), (.ref b78)])) _
                  refine st80.trans ?_
                  show Steps p.tables e below (T80.setTop (mkF m 160 #[.val (.int p1), .val (.int p2), .val (.int p3), .val (.int p4), .val (.int p5), .val (.int p6), .val (.int (p1 &&& (3 : Int32))), .val (.int xa), .val (.int xb), .val (.int xc), .val (.ref b67), .val (.ref b74), .unset, .unset] [(.ref b78)])) _
                  refine XS.astore X80.here hx rfl (hb hby at_160) rfl rfl (l' := #[.val (.int p1), .val (.int p2), .val (.int p3), .val (.int p4), .val (.int p5), .val (.int p6), .val (.int (p1 &&& (3 : Int32))), .val (.int xa), .val (.int xb), .val (.int xc), .val (.ref b67), .val (.ref b74), .val (.ref b78), .unset]) rfl ?_
                  show Steps p.tables e below (T80.setTop (mkF m 162 #[.val (.int p1), .val (.int p2), .val (.int p3), .val (.int p4), .val (.int p5), .val (.int p6), .val (.int (p1 &&& (3 : Int32))), .val (.int xa), .val (.int xb), .val (.int xc), .val (.ref b67), .val (.ref b74), .val (.ref b78), .unset] [])) _
                  refine XS.iload X80.here hx rfl (hb hby at_162) rfl ?_
                  show Steps p.tables e below (T80.setTop (mkF m 164 #[.val (.int p1), .val (.int p2), .val (.int p3), .val (.int p4), .val (.int p5), .val (.int p6), .val (.int (p1 &&& (3 : Int32))), .val (.int xa), .val (.int xb), .val (.int xc), .val (.ref b67), .val (.ref b74), .val (.ref b78), .unset] [(.int (p1 &&& (3 : Int32)))])) _
                  refine XS.iconst X80.here hx rfl (hb hby at_164) ?_
                  exact kt
                show own_End p e below s (T80.setTop (mkF m 165 #[.val (.int p1), .val (.int p2), .val (.int p3), .val (.int p4), .val (.int p5), .val (.int p6), .val (.int (p1 &&& (3 : Int32))), .val (.int xa), .val (.int xb), .val (.int xc), .val (.ref b67), .val (.ref b74), .val (.ref b78), .unset] [(.int (1 : Int32)), (.int (p1 &&& (3 : Int32)))])) (Q0 Z p1 p2 p3 p4 p5 p6 h0 n0) room_1.cells room_1.slots
                have j203 : ∀ (Tj203 : State) (Lj203 : List Loc) (Xj203 : Stand p l e room_1 s m #[(.int p1), (.int p2), (.int p3), (.int p4), (.int p5), (.int p6)] below meth c Tj203 Lj203 4 7) (ej203 : Tj203.heap = T80.heap) (Nj203 : Fr n0 Lj203) (ex : Int32) , own_law p1 p2 p3 p4 p5 p6 = own_law_203bb p1 p2 p3 p4 p5 p6 xa xb xc wv ex → own_End p e below s (Tj203.setTop (mkF m 203 #[.val (.int p1), .val (.int p2), .val (.int p3), .val (.int p4), .val (.int p5), .val (.int p6), .val (.int (p1 &&& (3 : Int32))), .val (.int xa), .val (.int xb), .val (.int xc), .val (.ref b67), .val (.ref b74), .val (.ref b78), .unset] [(.int ex)])) (Q0 Z p1 p2 p3 p4 p5 p6 h0 n0) room_1.cells room_1.slots := by
                  intro Tj203 Lj203 Xj203 ej203 Nj203 ex  hj
                  obtain ⟨cq86, kq86, q86a, q86b, q86c⟩ := isOf hZ ej203 E_b78_81
                  obtain ⟨_, _, ⟨T86, L86, k86, n86⟩, -, X86, ⟨Lc86, hQ86, l86, y86, z86⟩, st86⟩ := Xj203.virtualBack hx (y := (⟨"com/example/scratchline/scratchline/game/Face", "showsBonus", "()Z"⟩ : MethodName)) (z := (⟨"com/example/scratchline/scratchline/game/Face", "showsBonus", "()Z"⟩ : MethodName)) hown (mvT hZ (hw _ (List.mem_of_getElem? (i := 19) rfl))) (mvT hZ (hw _ (List.mem_of_getElem? (i := 20) rfl))) (notFace_of_selects (args := #[]) (mvT hZ (hw _ (List.mem_of_getElem? (i := 22) rfl)))) (mvT hZ (hw _ (List.mem_of_getElem? (i := 22) rfl))) (mvT hZ (hw _ (List.mem_of_getElem? (i := 21) rfl))) (by decide) (backOf (W := 0) (rm3 l Z a0 hw [] b78 b74 p2 b67 b79 (own_law0_g73 p1 p2 p3 p4 p5 p6 xa xb xc) (2 : Int32) T80.heap n0 Z80 ⟨E_b78_81, F_winning_b78_82, F_bonus_b78_83, F_spots_b78_84, F_prizes_b78_85⟩ fA_b67_x80) hZ (hw _ (List.mem_of_getElem? (i := 23) rfl)) (hw _ (List.mem_of_getElem? (i := 3) rfl)) (by decide) (by decide)) q86a q86c (g := (mkF m 207 #[.val (.int p1), .val (.int p2), .val (.int p3), .val (.int p4), .val (.int p5), .val (.int p6), .val (.int (p1 &&& (3 : Int32))), .val (.int xa), .val (.int xb), .val (.int xc), .val (.ref b67), .val (.ref b74), .val (.ref b78), .val (.int ex)] [(.ref b78)])) rfl (by rw [hml]; rfl) (Steps.refl _) (argsL := []) (rest := []) (lenOf pd_0_1 rfl) rfl (by show 2 * 0 + _ ≤ _; exact Nat.le_of_eq rfl) (hb hby at_207) (fun _ _ => ⟨rfl, ej203, (by decide : 4 + 0 ≤ _), (by decide : 7 + 0 ≤ _)⟩)
                  dsimp only [Pt.U, Pt.locs, Pt.cells, Pt.slots] at X86 l86 y86 z86 st86 hQ86
                  subst l86 y86 z86
                  obtain ⟨rfl, N86q, e86⟩ := hQ86
                  have N86 := Fr.app Nj203 N86q
                  refine own_pre (A := T86.setTop (mkF m 212 #[.val (.int p1), .val (.int p2), .val (.int p3), .val (.int p4), .val (.int p5), .val (.int p6), .val (.int (p1 &&& (3 : Int32))), .val (.int xa), .val (.int xb), .val (.int xc), .val (.ref b67), .val (.ref b74), .val (.ref b78), .val (.int ex)] [(.int ex), (.int (own_shows (own_law0_g73 p1 p2 p3 p4 p5 p6 xa xb xc) (2 : Int32) p2))])) (fun tt kt => ?_) ?_
                  · show Steps p.tables e below (Tj203.setTop (mkF m 203 #[.val (.int p1), .val (.int p2), .val (.int p3), .val (.int p4), .val (.int p5), .val (.int p6), .val (.int (p1 &&& (3 : Int32))), .val (.int xa), .val (.int xb), .val (.int xc), .val (.ref b67), .val (.ref b74), .val (.ref b78), .unset] [(.int ex)])) _
                    refine XS.istore Xj203.here hx rfl (hb hby at_203) rfl (l' := #[.val (.int p1), .val (.int p2), .val (.int p3), .val (.int p4), .val (.int p5), .val (.int p6), .val (.int (p1 &&& (3 : Int32))), .val (.int xa), .val (.int xb), .val (.int xc), .val (.ref b67), .val (.ref b74), .val (.ref b78), .val (.int ex)]) rfl ?_
                    show Steps p.tables e below (Tj203.setTop (mkF m 205 #[.val (.int p1), .val (.int p2), .val (.int p3), .val (.int p4), .val (.int p5), .val (.int p6), .val (.int (p1 &&& (3 : Int32))), .val (.int xa), .val (.int xb), .val (.int xc), .val (.ref b67), .val (.ref b74), .val (.ref b78), .val (.int ex)] [])) _
                    refine XS.aload Xj203.here hx rfl (hb hby at_205) rfl rfl ?_
                    show Steps p.tables e below (Tj203.setTop (mkF m 207 #[.val (.int p1), .val (.int p2), .val (.int p3), .val (.int p4), .val (.int p5), .val (.int p6), .val (.int (p1 &&& (3 : Int32))), .val (.int xa), .val (.int xb), .val (.int xc), .val (.ref b67), .val (.ref b74), .val (.ref b78), .val (.int ex)] [(.ref b78)])) _
                    refine st86.trans ?_
                    show Steps p.tables e below (T86.setTop (mkF m 210 #[.val (.int p1), .val (.int p2), .val (.int p3), .val (.int p4), .val (.int p5), .val (.int p6), .val (.int (p1 &&& (3 : Int32))), .val (.int xa), .val (.int xb), .val (.int xc), .val (.ref b67), .val (.ref b74), .val (.ref b78), .val (.int ex)] [(.int (own_shows (own_law0_g73 p1 p2 p3 p4 p5 p6 xa xb xc) (2 : Int32) p2))])) _
                    refine XS.iload X86.here hx rfl (hb hby at_210) rfl ?_
                    exact kt
                  show own_End p e below s (T86.setTop (mkF m 212 #[.val (.int p1), .val (.int p2), .val (.int p3), .val (.int p4), .val (.int p5), .val (.int p6), .val (.int (p1 &&& (3 : Int32))), .val (.int xa), .val (.int xb), .val (.int xc), .val (.ref b67), .val (.ref b74), .val (.ref b78), .val (.int ex)] [(.int ex), (.int (own_shows (own_law0_g73 p1 p2 p3 p4 p5 p6 xa xb xc) (2 : Int32) p2))])) (Q0 Z p1 p2 p3 p4 p5 p6 h0 n0) room_1.cells room_1.slots
                  by_cases hc212_87 : (own_shows (own_law0_g73 p1 p2 p3 p4 p5 p6 xa xb xc) (2 : Int32) p2) = ex
                  · refine own_pre (A := T86.setTop (mkF m 220 #[.val (.int p1), .val (.int p2), .val (.int p3), .val (.int p4), .val (.int p5), .val (.int p6), .val (.int (p1 &&& (3 : Int32))), .val (.int xa), .val (.int xb), .val (.int xc), .val (.ref b67), .val (.ref b74), .val (.ref b78), .val (.int ex)] [(.int (1 : Int32))])) (fun tt kt => ?_) ?_
                    · show Steps p.tables e below (T86.setTop (mkF m 212 #[.val (.int p1), .val (.int p2), .val (.int p3), .val (.int p4), .val (.int p5), .val (.int p6), .val (.int (p1 &&& (3 : Int32))), .val (.int xa), .val (.int xb), .val (.int xc), .val (.ref b67), .val (.ref b74), .val (.ref b78), .val (.int ex)] [(.int ex), (.int (own_shows (own_law0_g73 p1 p2 p3 p4 p5 p6 xa xb xc) (2 : Int32) p2))])) _
                      refine XS.icmpNo X86.here hx rfl (hb hby at_212) rfl (teq hc212_87).2 ?_
                      show Steps p.tables e below (T86.setTop (mkF m 215 #[.val (.int p1), .val (.int p2), .val (.int p3), .val (.int p4), .val (.int p5), .val (.int p6), .val (.int (p1 &&& (3 : Int32))), .val (.int xa), .val (.int xb), .val (.int xc), .val (.ref b67), .val (.ref b74), .val (.ref b78), .val (.int ex)] [])) _
                      refine XS.iconst X86.here hx rfl (hb hby at_215) ?_
                      show Steps p.tables e below (T86.setTop (mkF m 216 #[.val (.int p1), .val (.int p2), .val (.int p3), .val (.int p4), .val (.int p5), .val (.int p6), .val (.int (p1 &&& (3 : Int32))), .val (.int xa), .val (.int xb), .val (.int xc), .val (.ref b67), .val (.ref b74), .val (.ref b78), .val (.int ex)] [(.int (1 : Int32))])) _
                      refine XS.goto X86.here hx rfl (pc0 := 216) (pc' := 220) rfl (hb hby at_216) (by decide) (by decide) ?_
                      exact kt
                    show own_End p e below s (T86.setTop (mkF m 220 #[.val (.int p1), .val (.int p2), .val (.int p3), .val (.int p4), .val (.int p5), .val (.int p6), .val (.int (p1 &&& (3 : Int32))), .val (.int xa), .val (.int xb), .val (.int xc), .val (.ref b67), .val (.ref b74), .val (.ref b78), .val (.int ex)] [(.int (1 : Int32))])) (Q0 Z p1 p2 p3 p4 p5 p6 h0 n0) room_1.cells room_1.slots
                    have hv : (own_law p1 p2 p3 p4 p5 p6) = (1 : Int32) := hj.trans (by simp only [own_law_203bb, if_pos hc212_87])
                    obtain ⟨fs, hr, hrun, hended, hW, hsame⟩ := X86.leave (v := some (.int (1 : Int32))) (fun h => by rw [Bd.returns] at h; cases h)
                    refine ⟨_, _, ?_, hrun, hended, _, _, rfl, ?_, ⟨_, rfl⟩, hW, hsame.mono (by decide) (by decide)⟩
                    · exact retN X86 hx (t := .boolean) Bd.returns (by simp) (hb hby at_220) hr
                    · show Q0 Z p1 p2 p3 p4 p5 p6 h0 n0 _ T86.heap _
                      rw [e86]
                      exact ⟨(congrArg (fun z => some (Value.int z)) hv.symm), N86⟩
                  · refine own_pre (A := T86.setTop (mkF m 220 #[.val (.int p1), .val (.int p2), .val (.int p3), .val (.int p4), .val (.int p5), .val (.int p6), .val (.int (p1 &&& (3 : Int32))), .val (.int xa), .val (.int xb), .val (.int xc), .val (.ref b67), .val (.ref b74), .val (.ref b78), .val (.int ex)] [(.int (0 : Int32))])) (fun tt kt => ?_) ?_
                    · show Steps p.tables e below (T86.setTop (mkF m 212 #[.val (.int p1), .val (.int p2), .val (.int p3), .val (.int p4), .val (.int p5), .val (.int p6), .val (.int (p1 &&& (3 : Int32))), .val (.int xa), .val (.int xb), .val (.int xc), .val (.ref b67), .val (.ref b74), .val (.ref b78), .val (.int ex)] [(.int ex), (.int (own_shows (own_law0_g73 p1 p2 p3 p4 p5 p6 xa xb xc) (2 : Int32) p2))])) _
                      refine XS.icmpYes X86.here hx rfl (pc0 := 212) (pc' := 219) rfl (hb hby at_212) rfl (feq hc212_87).2 (by decide) (by decide) ?_
                      show Steps p.tables e below (T86.setTop (mkF m 219 #[.val (.int p1), .val (.int p2), .val (.int p3), .val (.int p4), .val (.int p5), .val (.int p6), .val (.int (p1 &&& (3 : Int32))), .val (.int xa), .val (.int xb), .val (.int xc), .val (.ref b67), .val (.ref b74), .val (.ref b78), .val (.int ex)] [])) _
                      refine XS.iconst X86.here hx rfl (hb hby at_219) ?_
                      exact kt
                    show own_End p e below s (T86.setTop (mkF m 220 #[.val (.int p1), .val (.int p2), .val (.int p3), .val (.int p4), .val (.int p5), .val (.int p6), .val (.int (p1 &&& (3 : Int32))), .val (.int xa), .val (.int xb), .val (.int xc), .val (.ref b67), .val (.ref b74), .val (.ref b78), .val (.int ex)] [(.int (0 : Int32))])) (Q0 Z p1 p2 p3 p4 p5 p6 h0 n0) room_1.cells room_1.slots
                    have hv : (own_law p1 p2 p3 p4 p5 p6) = (0 : Int32) := hj.trans (by simp only [own_law_203bb, if_neg hc212_87])
                    obtain ⟨fs, hr, hrun, hended, hW, hsame⟩ := X86.leave (v := some (.int (0 : Int32))) (fun h => by rw [Bd.returns] at h; cases h)
                    refine ⟨_, _, ?_, hrun, hended, _, _, rfl, ?_, ⟨_, rfl⟩, hW, hsame.mono (by decide) (by decide)⟩
                    · exact retN X86 hx (t := .boolean) Bd.returns (by simp) (hb hby at_220) hr
                    · show Q0 Z p1 p2 p3 p4 p5 p6 h0 n0 _ T86.heap _
                      rw [e86]
                      exact ⟨(congrArg (fun z => some (Value.int z)) hv.symm), N86⟩
                by_cases hc165_88 : (p1 &&& (3 : Int32)) < (1 : Int32)
                · refine own_pre (A := T80.setTop (mkF m 177 #[.val (.int p1), .val (.int p2), .val (.int p3), .val (.int p4), .val (.int p5), .val (.int p6), .val (.int (p1 &&& (3 : Int32))), .val (.int xa), .val (.int xb), .val (.int xc), .val (.ref b67), .val (.ref b74), .val (.ref b78), .unset] [(.int (2 : Int32)), (.int (p1 &&& (3 : Int32)))])) (fun tt kt => ?_) ?_
                  · show Steps p.tables e below (T80.setTop (mkF m 165 #[.val (.int p1), .val (.int p2), .val (.int p3), .val (.int p4), .val (.int p5), .val (.int p6), .val (.int (p1 &&& (3 : Int32))), .val (.int xa), .val (.int xb), .val (.int xc), .val (.ref b67), .val (.ref b74), .val (.ref b78), .unset] [(.int (1 : Int32)), (.int (p1 &&& (3 : Int32)))])) _
                    refine XS.icmpYes X80.here hx rfl (pc0 := 165) (pc' := 174) rfl (hb hby at_165) rfl (tlt hc165_88).1 (by decide) (by decide) ?_
                    show Steps p.tables e below (T80.setTop (mkF m 174 #[.val (.int p1), .val (.int p2), .val (.int p3), .val (.int p4), .val (.int p5), .val (.int p6), .val (.int (p1 &&& (3 : Int32))), .val (.int xa), .val (.int xb), .val (.int xc), .val (.ref b67), .val (.ref b74), .val (.ref b78), .unset] [])) _
                    refine XS.iload X80.here hx rfl (hb hby at_174) rfl ?_
                    show Steps p.tables e below (T80.setTop (mkF m 176 #[.val (.int p1), .val (.int p2), .val (.int p3), .val (.int p4), .val (.int p5), .val (.int p6), .val (.int (p1 &&& (3 : Int32))), .val (.int xa), .val (.int xb), .val (.int xc), .val (.ref b67), .val (.ref b74), .val (.ref b78), .unset] [(.int (p1 &&& (3 : Int32)))])) _
                    refine XS.iconst X80.here hx rfl (hb hby at_176) ?_
                    exact kt
                  show own_End p e below s (T80.setTop (mkF m 177 #[.val (.int p1), .val (.int p2), .val (.int p3), .val (.int p4), .val (.int p5), .val (.int p6), .val (.int (p1 &&& (3 : Int32))), .val (.int xa), .val (.int xb), .val (.int xc), .val (.ref b67), .val (.ref b74), .val (.ref b78), .unset] [(.int (2 : Int32)), (.int (p1 &&& (3 : Int32)))])) (Q0 Z p1 p2 p3 p4 p5 p6 h0 n0) room_1.cells room_1.slots
                  by_cases hc177_89 : (p1 &&& (3 : Int32)) < (2 : Int32)
                  · refine own_pre (A := T80.setTop (mkF m 189 #[.val (.int p1), .val (.int p2), .val (.int p3), .val (.int p4), .val (.int p5), .val (.int p6), .val (.int (p1 &&& (3 : Int32))), .val (.int xa), .val (.int xb), .val (.int xc), .val (.ref b67), .val (.ref b74), .val (.ref b78), .unset] [(.int (3 : Int32)), (.int (p1 &&& (3 : Int32)))])) (fun tt kt => ?_) ?_
                    · show Steps p.tables e below (T80.setTop (mkF m 177 #[.val (.int p1), .val (.int p2), .val (.int p3), .val (.int p4), .val (.int p5), .val (.int p6), .val (.int (p1 &&& (3 : Int32))), .val (.int xa), .val (.int xb), .val (.int xc), .val (.ref b67), .val (.ref b74), .val (.ref b78), .unset] [(.int (2 : Int32)), (.int (p1 &&& (3 : Int32)))])) _
                      refine XS.icmpYes X80.here hx rfl (pc0 := 177) (pc' := 186) rfl (hb hby at_177) rfl (tlt hc177_89).1 (by decide) (by decide) ?_
                      show Steps p.tables e below (T80.setTop (mkF m 186 #[.val (.int p1), .val (.int p2), .val (.int p3), .val (.int p4), .val (.int p5), .val (.int p6), .val (.int (p1 &&& (3 : Int32))), .val (.int xa), .val (.int xb), .val (.int xc), .val (.ref b67), .val (.ref b74), .val (.ref b78), .unset] [])) _
                      refine XS.iload X80.here hx rfl (hb hby at_186) rfl ?_
                      show Steps p.tables e below (T80.setTop (mkF m 188 #[.val (.int p1), .val (.int p2), .val (.int p3), .val (.int p4), .val (.int p5), .val (.int p6), .val (.int (p1 &&& (3 : Int32))), .val (.int xa), .val (.int xb), .val (.int xc), .val (.ref b67), .val (.ref b74), .val (.ref b78), .unset] [(.int (p1 &&& (3 : Int32)))])) _
                      refine XS.iconst X80.here hx rfl (hb hby at_188) ?_
                      exact kt
                    show own_End p e below s (T80.setTop (mkF m 189 #[.val (.int p1), .val (.int p2), .val (.int p3), .val (.int p4), .val (.int p5), .val (.int p6), .val (.int (p1 &&& (3 : Int32))), .val (.int xa), .val (.int xb), .val (.int xc), .val (.ref b67), .val (.ref b74), .val (.ref b78), .unset] [(.int (3 : Int32)), (.int (p1 &&& (3 : Int32)))])) (Q0 Z p1 p2 p3 p4 p5 p6 h0 n0) room_1.cells room_1.slots
                    by_cases hc189_90 : (p1 &&& (3 : Int32)) < (3 : Int32)
                    · refine own_pre (A := T80.setTop (mkF m 203 #[.val (.int p1), .val (.int p2), .val (.int p3), .val (.int p4), .val (.int p5), .val (.int p6), .val (.int (p1 &&& (3 : Int32))), .val (.int xa), .val (.int xb), .val (.int xc), .val (.ref b67), .val (.ref b74), .val (.ref b78), .unset] [(.int (0 : Int32))])) (fun tt kt => ?_) ?_
                      · show Steps p.tables e below (T80.setTop (mkF m 189 #[.val (.int p1), .val (.int p2), .val (.int p3), .val (.int p4), .val (.int p5), .val (.int p6), .val (.int (p1 &&& (3 : Int32))), .val (.int xa), .val (.int xb), .val (.int xc), .val (.ref b67), .val (.ref b74), .val (.ref b78), .unset] [(.int (3 : Int32)), (.int (p1 &&& (3 : Int32)))])) _
                        refine XS.icmpYes X80.here hx rfl (pc0 := 189) (pc' := 202) rfl (hb hby at_189) rfl (tlt hc189_90).1 (by decide) (by decide) ?_
                        show Steps p.tables e below (T80.setTop (mkF m 202 #[.val (.int p1), .val (.int p2), .val (.int p3), .val (.int p4), .val (.int p5), .val (.int p6), .val (.int (p1 &&& (3 : Int32))), .val (.int xa), .val (.int xb), .val (.int xc), .val (.ref b67), .val (.ref b74), .val (.ref b78), .unset] [])) _
                        refine XS.iconst X80.here hx rfl (hb hby at_202) ?_
                        exact kt
                      show own_End p e below s (T80.setTop (mkF m 203 #[.val (.int p1), .val (.int p2), .val (.int p3), .val (.int p4), .val (.int p5), .val (.int p6), .val (.int (p1 &&& (3 : Int32))), .val (.int xa), .val (.int xb), .val (.int xc), .val (.ref b67), .val (.ref b74), .val (.ref b78), .unset] [(.int (0 : Int32))])) (Q0 Z p1 p2 p3 p4 p5 p6 h0 n0) room_1.cells room_1.slots
                      exact j203 _ _ X80 rfl N80 (0 : Int32)  (hj.trans (by simp only [own_law_142bb, if_pos hc165_88, if_pos hc177_89, if_pos hc189_90]))
                    · refine own_pre (A := T80.setTop (mkF m 195 #[.val (.int p1), .val (.int p2), .val (.int p3), .val (.int p4), .val (.int p5), .val (.int p6), .val (.int (p1 &&& (3 : Int32))), .val (.int xa), .val (.int xb), .val (.int xc), .val (.ref b67), .val (.ref b74), .val (.ref b78), .unset] [(.int p2), (.int xc)])) (fun tt kt => ?_) ?_
                      · show Steps p.tables e below (T80.setTop (mkF m 189 #[.val (.int p1), .val (.int p2), .val (.int p3), .val (.int p4), .val (.int p5), .val (.int p6), .val (.int (p1 &&& (3 : Int32))), .val (.int xa), .val (.int xb), .val (.int xc), .val (.ref b67), .val (.ref b74), .val (.ref b78), .unset] [(.int (3 : Int32)), (.int (p1 &&& (3 : Int32)))])) _
                        refine XS.icmpNo X80.here hx rfl (hb hby at_189) rfl (flt hc189_90).1 ?_
                        show Steps p.tables e below (T80.setTop (mkF m 192 #[.val (.int p1), .val (.int p2), .val (.int p3), .val (.int p4), .val (.int p5), .val (.int p6), .val (.int (p1 &&& (3 : Int32))), .val (.int xa), .val (.int xb), .val (.int xc), .val (.ref b67), .val (.ref b74), .val (.ref b78), .unset] [])) _
                        refine XS.iload X80.here hx rfl (hb hby at_192) rfl ?_
                        show Steps p.tables e below (T80.setTop (mkF m 194 #[.val (.int p1), .val (.int p2), .val (.int p3), .val (.int p4), .val (.int p5), .val (.int p6), .val (.int (p1 &&& (3 : Int32))), .val (.int xa), .val (.int xb), .val (.int xc), .val (.ref b67), .val (.ref b74), .val (.ref b78), .unset] [(.int xc)])) _
                        refine XS.iloadN X80.here hx rfl (hb hby at_194) rfl ?_
                        exact kt
                      show own_End p e below s (T80.setTop (mkF m 195 #[.val (.int p1), .val (.int p2), .val (.int p3), .val (.int p4), .val (.int p5), .val (.int p6), .val (.int (p1 &&& (3 : Int32))), .val (.int xa), .val (.int xb), .val (.int xc), .val (.ref b67), .val (.ref b74), .val (.ref b78), .unset] [(.int p2), (.int xc)])) (Q0 Z p1 p2 p3 p4 p5 p6 h0 n0) room_1.cells room_1.slots
                      by_cases hc195_91 : xc = p2
                      · refine own_pre (A := T80.setTop (mkF m 203 #[.val (.int p1), .val (.int p2), .val (.int p3), .val (.int p4), .val (.int p5), .val (.int p6), .val (.int (p1 &&& (3 : Int32))), .val (.int xa), .val (.int xb), .val (.int xc), .val (.ref b67), .val (.ref b74), .val (.ref b78), .unset] [(.int (1 : Int32))])) (fun tt kt => ?_) ?_
                        · show Steps p.tables e below (T80.setTop (mkF m 195 #[.val (.int p1), .val (.int p2), .val (.int p3), .val (.int p4), .val (.int p5), .val (.int p6), .val (.int (p1 &&& (3 : Int32))), .val (.int xa), .val (.int xb), .val (.int xc), .val (.ref b67), .val (.ref b74), .val (.ref b78), .unset] [(.int p2), (.int xc)])) _
                          refine XS.icmpNo X80.here hx rfl (hb hby at_195) rfl (teq hc195_91).2 ?_
                          show Steps p.tables e below (T80.setTop (mkF m 198 #[.val (.int p1), .val (.int p2), .val (.int p3), .val (.int p4), .val (.int p5), .val (.int p6), .val (.int (p1 &&& (3 : Int32))), .val (.int xa), .val (.int xb), .val (.int xc), .val (.ref b67), .val (.ref b74), .val (.ref b78), .unset] [])) _
                          refine XS.iconst X80.here hx rfl (hb hby at_198) ?_
                          show Steps p.tables e below (T80.setTop (mkF m 199 #[.val (.int p1), .val (.int p2), .val (.int p3), .val (.int p4), .val (.int p5), .val (.int p6), .val (.int (p1 &&& (3 : Int32))), .val (.int xa), .val (.int xb), .val (.int xc), .val (.ref b67), .val (.ref b74), .val (.ref b78), .unset] [(.int (1 : Int32))])) _
                          refine XS.goto X80.here hx rfl (pc0 := 199) (pc' := 203) rfl (hb hby at_199) (by decide) (by decide) ?_
                          exact kt
                        show own_End p e below s (T80.setTop (mkF m 203 #[.val (.int p1), .val (.int p2), .val (.int p3), .val (.int p4), .val (.int p5), .val (.int p6), .val (.int (p1 &&& (3 : Int32))), .val (.int xa), .val (.int xb), .val (.int xc), .val (.ref b67), .val (.ref b74), .val (.ref b78), .unset] [(.int (1 : Int32))])) (Q0 Z p1 p2 p3 p4 p5 p6 h0 n0) room_1.cells room_1.slots
                        exact j203 _ _ X80 rfl N80 (1 : Int32)  (hj.trans (by simp only [own_law_142bb, if_pos hc165_88, if_pos hc177_89, if_neg hc189_90, if_pos hc195_91]))
                      · refine own_pre (A := T80.setTop (mkF m 203 #[.val (.int p1), .val (.int p2), .val (.int p3), .val (.int p4), .val (.int p5), .val (.int p6), .val (.int (p1 &&& (3 : Int32))), .val (.int xa), .val (.int xb), .val (.int xc), .val (.ref b67), .val (.ref b74), .val (.ref b78), .unset] [(.int (0 : Int32))])) (fun tt kt => ?_) ?_
                        · show Steps p.tables e below (T80.setTop (mkF m 195 #[.val (.int p1), .val (.int p2), .val (.int p3), .val (.int p4), .val (.int p5), .val (.int p6), .val (.int (p1 &&& (3 : Int32))), .val (.int xa), .val (.int xb), .val (.int xc), .val (.ref b67), .val (.ref b74), .val (.ref b78), .unset] [(.int p2), (.int xc)])) _
                          refine XS.icmpYes X80.here hx rfl (pc0 := 195) (pc' := 202) rfl (hb hby at_195) rfl (feq hc195_91).2 (by decide) (by decide) ?_
                          show Steps p.tables e below (T80.setTop (mkF m 202 #[.val (.int p1), .val (.int p2), .val (.int p3), .val (.int p4), .val (.int p5), .val (.int p6), .val (.int (p1 &&& (3 : Int32))), .val (.int xa), .val (.int xb), .val (.int xc), .val (.ref b67), .val (.ref b74), .val (.ref b78), .unset] [])) _
                          refine XS.iconst X80.here hx rfl (hb hby at_202) ?_
                          exact kt
                        show own_End p e below s (T80.setTop (mkF m 203 #[.val (.int p1), .val (.int p2), .val (.int p3), .val (.int p4), .val (.int p5), .val (.int p6), .val (.int (p1 &&& (3 : Int32))), .val (.int xa), .val (.int xb), .val (.int xc), .val (.ref b67), .val (.ref b74), .val (.ref b78), .unset] [(.int (0 : Int32))])) (Q0 Z p1 p2 p3 p4 p5 p6 h0 n0) room_1.cells room_1.slots
                        exact j203 _ _ X80 rfl N80 (0 : Int32)  (hj.trans (by simp only [own_law_142bb, if_pos hc165_88, if_pos hc177_89, if_neg hc189_90, if_neg hc195_91]))
                  · refine own_pre (A := T80.setTop (mkF m 183 #[.val (.int p1), .val (.int p2), .val (.int p3), .val (.int p4), .val (.int p5), .val (.int p6), .val (.int (p1 &&& (3 : Int32))), .val (.int xa), .val (.int xb), .val (.int xc), .val (.ref b67), .val (.ref b74), .val (.ref b78), .unset] [(.int p2), (.int xb)])) (fun tt kt => ?_) ?_
                    · show Steps p.tables e below (T80.setTop (mkF m 177 #[.val (.int p1), .val (.int p2), .val (.int p3), .val (.int p4), .val (.int p5), .val (.int p6), .val (.int (p1 &&& (3 : Int32))), .val (.int xa), .val (.int xb), .val (.int xc), .val (.ref b67), .val (.ref b74), .val (.ref b78), .unset] [(.int (2 : Int32)), (.int (p1 &&& (3 : Int32)))])) _
                      refine XS.icmpNo X80.here hx rfl (hb hby at_177) rfl (flt hc177_89).1 ?_
                      show Steps p.tables e below (T80.setTop (mkF m 180 #[.val (.int p1), .val (.int p2), .val (.int p3), .val (.int p4), .val (.int p5), .val (.int p6), .val (.int (p1 &&& (3 : Int32))), .val (.int xa), .val (.int xb), .val (.int xc), .val (.ref b67), .val (.ref b74), .val (.ref b78), .unset] [])) _
                      refine XS.iload X80.here hx rfl (hb hby at_180) rfl ?_
                      show Steps p.tables e below (T80.setTop (mkF m 182 #[.val (.int p1), .val (.int p2), .val (.int p3), .val (.int p4), .val (.int p5), .val (.int p6), .val (.int (p1 &&& (3 : Int32))), .val (.int xa), .val (.int xb), .val (.int xc), .val (.ref b67), .val (.ref b74), .val (.ref b78), .unset] [(.int xb)])) _
                      refine XS.iloadN X80.here hx rfl (hb hby at_182) rfl ?_
                      exact kt
                    show own_End p e below s (T80.setTop (mkF m 183 #[.val (.int p1), .val (.int p2), .val (.int p3), .val (.int p4), .val (.int p5), .val (.int p6), .val (.int (p1 &&& (3 : Int32))), .val (.int xa), .val (.int xb), .val (.int xc), .val (.ref b67), .val (.ref b74), .val (.ref b78), .unset] [(.int p2), (.int xb)])) (Q0 Z p1 p2 p3 p4 p5 p6 h0 n0) room_1.cells room_1.slots
                    by_cases hc183_92 : xb = p2
                    · refine own_pre (A := T80.setTop (mkF m 203 #[.val (.int p1), .val (.int p2), .val (.int p3), .val (.int p4), .val (.int p5), .val (.int p6), .val (.int (p1 &&& (3 : Int32))), .val (.int xa), .val (.int xb), .val (.int xc), .val (.ref b67), .val (.ref b74), .val (.ref b78), .unset] [(.int (1 : Int32))])) (fun tt kt => ?_) ?_
                      · show Steps p.tables e below (T80.setTop (mkF m 183 #[.val (.int p1), .val (.int p2), .val (.int p3), .val (.int p4), .val (.int p5), .val (.int p6), .val (.int (p1 &&& (3 : Int32))), .val (.int xa), .val (.int xb), .val (.int xc), .val (.ref b67), .val (.ref b74), .val (.ref b78), .unset] [(.int p2), (.int xb)])) _
                        refine XS.icmpYes X80.here hx rfl (pc0 := 183) (pc' := 198) rfl (hb hby at_183) rfl (teq hc183_92).1 (by decide) (by decide) ?_
                        show Steps p.tables e below (T80.setTop (mkF m 198 #[.val (.int p1), .val (.int p2), .val (.int p3), .val (.int p4), .val (.int p5), .val (.int p6), .val (.int (p1 &&& (3 : Int32))), .val (.int xa), .val (.int xb), .val (.int xc), .val (.ref b67), .val (.ref b74), .val (.ref b78), .unset] [])) _
                        refine XS.iconst X80.here hx rfl (hb hby at_198) ?_
                        show Steps p.tables e below (T80.setTop (mkF m 199 #[.val (.int p1), .val (.int p2), .val (.int p3), .val (.int p4), .val (.int p5), .val (.int p6), .val (.int (p1 &&& (3 : Int32))), .val (.int xa), .val (.int xb), .val (.int xc), .val (.ref b67), .val (.ref b74), .val (.ref b78), .unset] [(.int (1 : Int32))])) _
                        refine XS.goto X80.here hx rfl (pc0 := 199) (pc' := 203) rfl (hb hby at_199) (by decide) (by decide) ?_
                        exact kt
                      show own_End p e below s (T80.setTop (mkF m 203 #[.val (.int p1), .val (.int p2), .val (.int p3), .val (.int p4), .val (.int p5), .val (.int p6), .val (.int (p1 &&& (3 : Int32))), .val (.int xa), .val (.int xb), .val (.int xc), .val (.ref b67), .val (.ref b74), .val (.ref b78), .unset] [(.int (1 : Int32))])) (Q0 Z p1 p2 p3 p4 p5 p6 h0 n0) room_1.cells room_1.slots
                      exact j203 _ _ X80 rfl N80 (1 : Int32)  (hj.trans (by simp only [own_law_142bb, if_pos hc165_88, if_neg hc177_89, if_pos hc183_92]))
                    · refine own_pre (A := T80.setTop (mkF m 189 #[.val (.int p1), .val (.int p2), .val (.int p3), .val (.int p4), .val (.int p5), .val (.int p6), .val (.int (p1 &&& (3 : Int32))), .val (.int xa), .val (.int xb), .val (.int xc), .val (.ref b67), .val (.ref b74), .val (.ref b78), .unset] [(.int (3 : Int32)), (.int (p1 &&& (3 : Int32)))])) (fun tt kt => ?_) ?_
                      · show Steps p.tables e below (T80.setTop (mkF m 183 #[.val (.int p1), .val (.int p2), .val (.int p3), .val (.int p4), .val (.int p5), .val (.int p6), .val (.int (p1 &&& (3 : Int32))), .val (.int xa), .val (.int xb), .val (.int xc), .val (.ref b67), .val (.ref b74), .val (.ref b78), .unset] [(.int p2), (.int xb)])) _
                        refine XS.icmpNo X80.here hx rfl (hb hby at_183) rfl (feq hc183_92).1 ?_
                        show Steps p.tables e below (T80.setTop (mkF m 186 #[.val (.int p1), .val (.int p2), .val (.int p3), .val (.int p4), .val (.int p5), .val (.int p6), .val (.int (p1 &&& (3 : Int32))), .val (.int xa), .val (.int xb), .val (.int xc), .val (.ref b67), .val (.ref b74), .val (.ref b78), .unset] [])) _
                        refine XS.iload X80.here hx rfl (hb hby at_186) rfl ?_
                        show Steps p.tables e below (T80.setTop (mkF m 188 #[.val (.int p1), .val (.int p2), .val (.int p3), .val (.int p4), .val (.int p5), .val (.int p6), .val (.int (p1 &&& (3 : Int32))), .val (.int xa), .val (.int xb), .val (.int xc), .val (.ref b67), .val (.ref b74), .val (.ref b78), .unset] [(.int (p1 &&& (3 : Int32)))])) _
                        refine XS.iconst X80.here hx rfl (hb hby at_188) ?_
                        exact kt
                      show own_End p e below s (T80.setTop (mkF m 189 #[.val (.int p1), .val (.int p2), .val (.int p3), .val (.int p4), .val (.int p5), .val (.int p6), .val (.int (p1 &&& (3 : Int32))), .val (.int xa), .val (.int xb), .val (.int xc), .val (.ref b67), .val (.ref b74), .val (.ref b78), .unset] [(.int (3 : Int32)), (.int (p1 &&& (3 : Int32)))])) (Q0 Z p1 p2 p3 p4 p5 p6 h0 n0) room_1.cells room_1.slots
                      by_cases hc189_93 : (p1 &&& (3 : Int32)) < (3 : Int32)
                      · refine own_pre (A := T80.setTop (mkF m 203 #[.val (.int p1), .val (.int p2), .val (.int p3), .val (.int p4), .val (.int p5), .val (.int p6), .val (.int (p1 &&& (3 : Int32))), .val (.int xa), .val (.int xb), .val (.int xc), .val (.ref b67), .val (.ref b74), .val (.ref b78), .unset] [(.int (0 : Int32))])) (fun tt kt => ?_) ?_
                        · show Steps p.tables e below (T80.setTop (mkF m 189 #[.val (.int p1), .val (.int p2), .val (.int p3), .val (.int p4), .val (.int p5), .val (.int p6), .val (.int (p1 &&& (3 : Int32))), .val (.int xa), .val (.int xb), .val (.int xc), .val (.ref b67), .val (.ref b74), .val (.ref b78), .unset] [(.int (3 : Int32)), (.int (p1 &&& (3 : Int32)))])) _
                          refine XS.icmpYes X80.here hx rfl (pc0 := 189) (pc' := 202) rfl (hb hby at_189) rfl (tlt hc189_93).1 (by decide) (by decide) ?_
                          show Steps p.tables e below (T80.setTop (mkF m 202 #[.val (.int p1), .val (.int p2), .val (.int p3), .val (.int p4), .val (.int p5), .val (.int p6), .val (.int (p1 &&& (3 : Int32))), .val (.int xa), .val (.int xb), .val (.int xc), .val (.ref b67), .val (.ref b74), .val (.ref b78), .unset] [])) _
                          refine XS.iconst X80.here hx rfl (hb hby at_202) ?_
                          exact kt
                        show own_End p e below s (T80.setTop (mkF m 203 #[.val (.int p1), .val (.int p2), .val (.int p3), .val (.int p4), .val (.int p5), .val (.int p6), .val (.int (p1 &&& (3 : Int32))), .val (.int xa), .val (.int xb), .val (.int xc), .val (.ref b67), .val (.ref b74), .val (.ref b78), .unset] [(.int (0 : Int32))])) (Q0 Z p1 p2 p3 p4 p5 p6 h0 n0) room_1.cells room_1.slots
                        exact j203 _ _ X80 rfl N80 (0 : Int32)  (hj.trans (by simp only [own_law_142bb, if_pos hc165_88, if_neg hc177_89, if_neg hc183_92, if_pos hc189_93]))
                      · refine own_pre (A := T80.setTop (mkF m 195 #[.val (.int p1), .val (.int p2), .val (.int p3), .val (.int p4), .val (.int p5), .val (.int p6), .val (.int (p1 &&& (3 : Int32))), .val (.int xa), .val (.int xb), .val (.int xc), .val (.ref b67), .val (.ref b74), .val (.ref b78), .unset] [(.int p2), (.int xc)])) (fun tt kt => ?_) ?_
                        · show Steps p.tables e below (T80.setTop (mkF m 189 #[.val (.int p1), .val (.int p2), .val (.int p3), .val (.int p4), .val (.int p5), .val (.int p6), .val (.int (p1 &&& (3 : Int32))), .val (.int xa), .val (.int xb), .val (.int xc), .val (.ref b67), .val (.ref b74), .val (.ref b78), .unset] [(.int (3 : Int32)), (.int (p1 &&& (3 : Int32)))])) _
                          refine XS.icmpNo X80.here hx rfl (hb hby at_189) rfl (flt hc189_93).1 ?_
                          show Steps p.tables e below (T80.setTop (mkF m 192 #[.val (.int p1), .val (.int p2), .val (.int p3), .val (.int p4), .val (.int p5), .val (.int p6), .val (.int (p1 &&& (3 : Int32))), .val (.int xa), .val (.int xb), .val (.int xc), .val (.ref b67), .val (.ref b74), .val (.ref b78), .unset] [])) _
                          refine XS.iload X80.here hx rfl (hb hby at_192) rfl ?_
                          show Steps p.tables e below (T80.setTop (mkF m 194 #[.val (.int p1), .val (.int p2), .val (.int p3), .val (.int p4), .val (.int p5), .val (.int p6), .val (.int (p1 &&& (3 : Int32))), .val (.int xa), .val (.int xb), .val (.int xc), .val (.ref b67), .val (.ref b74), .val (.ref b78), .unset] [(.int xc)])) _
                          refine XS.iloadN X80.here hx rfl (hb hby at_194) rfl ?_
                          exact kt
                        show own_End p e below s (T80.setTop (mkF m 195 #[.val (.int p1), .val (.int p2), .val (.int p3), .val (.int p4), .val (.int p5), .val (.int p6), .val (.int (p1 &&& (3 : Int32))), .val (.int xa), .val (.int xb), .val (.int xc), .val (.ref b67), .val (.ref b74), .val (.ref b78), .unset] [(.int p2), (.int xc)])) (Q0 Z p1 p2 p3 p4 p5 p6 h0 n0) room_1.cells room_1.slots
                        by_cases hc195_94 : xc = p2
                        · refine own_pre (A := T80.setTop (mkF m 203 #[.val (.int p1), .val (.int p2), .val (.int p3), .val (.int p4), .val (.int p5), .val (.int p6), .val (.int (p1 &&& (3 : Int32))), .val (.int xa), .val (.int xb), .val (.int xc), .val (.ref b67), .val (.ref b74), .val (.ref b78), .unset] [(.int (1 : Int32))])) (fun tt kt => ?_) ?_
                          · show Steps p.tables e below (T80.setTop (mkF m 195 #[.val (.int p1), .val (.int p2), .val (.int p3), .val (.int p4), .val (.int p5), .val (.int p6), .val (.int (p1 &&& (3 : Int32))), .val (.int xa), .val (.int xb), .val (.int xc), .val (.ref b67), .val (.ref b74), .val (.ref b78), .unset] [(.int p2), (.int xc)])) _
                            refine XS.icmpNo X80.here hx rfl (hb hby at_195) rfl (teq hc195_94).2 ?_
                            show Steps p.tables e below (T80.setTop (mkF m 198 #[.val (.int p1), .val (.int p2), .val (.int p3), .val (.int p4), .val (.int p5), .val (.int p6), .val (.int (p1 &&& (3 : Int32))), .val (.int xa), .val (.int xb), .val (.int xc), .val (.ref b67), .val (.ref b74), .val (.ref b78), .unset] [])) _
                            refine XS.iconst X80.here hx rfl (hb hby at_198) ?_
                            show Steps p.tables e below (T80.setTop (mkF m 199 #[.val (.int p1), .val (.int p2), .val (.int p3), .val (.int p4), .val (.int p5), .val (.int p6), .val (.int (p1 &&& (3 : Int32))), .val (.int xa), .val (.int xb), .val (.int xc), .val (.ref b67), .val (.ref b74), .val (.ref b78), .unset] [(.int (1 : Int32))])) _
                            refine XS.goto X80.here hx rfl (pc0 := 199) (pc' := 203) rfl (hb hby at_199) (by decide) (by decide) ?_
                            exact kt
                          show own_End p e below s (T80.setTop (mkF m 203 #[.val (.int p1), .val (.int p2), .val (.int p3), .val (.int p4), .val (.int p5), .val (.int p6), .val (.int (p1 &&& (3 : Int32))), .val (.int xa), .val (.int xb), .val (.int xc), .val (.ref b67), .val (.ref b74), .val (.ref b78), .unset] [(.int (1 : Int32))])) (Q0 Z p1 p2 p3 p4 p5 p6 h0 n0) room_1.cells room_1.slots
                          exact j203 _ _ X80 rfl N80 (1 : Int32)  (hj.trans (by simp only [own_law_142bb, if_pos hc165_88, if_neg hc177_89, if_neg hc183_92, if_neg hc189_93, if_pos hc195_94]))
                        · refine own_pre (A := T80.setTop (mkF m 203 #[.val (.int p1), .val (.int p2), .val (.int p3), .val (.int p4), .val (.int p5), .val (.int p6), .val (.int (p1 &&& (3 : Int32))), .val (.int xa), .val (.int xb), .val (.int xc), .val (.ref b67), .val (.ref b74), .val (.ref b78), .unset] [(.int (0 : Int32))])) (fun tt kt => ?_) ?_
                          · show Steps p.tables e below (T80.setTop (mkF m 195 #[.val (.int p1), .val (.int p2), .val (.int p3), .val (.int p4), .val (.int p5), .val (.int p6), .val (.int (p1 &&& (3 : Int32))), .val (.int xa), .val (.int xb), .val (.int xc), .val (.ref b67), .val (.ref b74), .val (.ref b78), .unset] [(.int p2), (.int xc)])) _
                            refine XS.icmpYes X80.here hx rfl (pc0 := 195) (pc' := 202) rfl (hb hby at_195) rfl (feq hc195_94).2 (by decide) (by decide) ?_
                            show Steps p.tables e below (T80.setTop (mkF m 202 #[.val (.int p1), .val (.int p2), .val (.int p3), .val (.int p4), .val (.int p5), .val (.int p6), .val (.int (p1 &&& (3 : Int32))), .val (.int xa), .val (.int xb), .val (.int xc), .val (.ref b67), .val (.ref b74), .val (.ref b78), .unset] [])) _
                            refine XS.iconst X80.here hx rfl (hb hby at_202) ?_
                            exact kt
                          show own_End p e below s (T80.setTop (mkF m 203 #[.val (.int p1), .val (.int p2), .val (.int p3), .val (.int p4), .val (.int p5), .val (.int p6), .val (.int (p1 &&& (3 : Int32))), .val (.int xa), .val (.int xb), .val (.int xc), .val (.ref b67), .val (.ref b74), .val (.ref b78), .unset] [(.int (0 : Int32))])) (Q0 Z p1 p2 p3 p4 p5 p6 h0 n0) room_1.cells room_1.slots
                          exact j203 _ _ X80 rfl N80 (0 : Int32)  (hj.trans (by simp only [own_law_142bb, if_pos hc165_88, if_neg hc177_89, if_neg hc183_92, if_neg hc189_93, if_neg hc195_94]))
                · refine own_pre (A := T80.setTop (mkF m 171 #[.val (.int p1), .val (.int p2), .val (.int p3), .val (.int p4), .val (.int p5), .val (.int p6), .val (.int (p1 &&& (3 : Int32))), .val (.int xa), .val (.int xb), .val (.int xc), .val (.ref b67), .val (.ref b74), .val (.ref b78), .unset] [(.int p2), (.int xa)])) (fun tt kt => ?_) ?_
                  · show Steps p.tables e below (T80.setTop (mkF m 165 #[.val (.int p1), .val (.int p2), .val (.int p3), .val (.int p4), .val (.int p5), .val (.int p6), .val (.int (p1 &&& (3 : Int32))), .val (.int xa), .val (.int xb), .val (.int xc), .val (.ref b67), .val (.ref b74), .val (.ref b78), .unset] [(.int (1 : Int32)), (.int (p1 &&& (3 : Int32)))])) _
                    refine XS.icmpNo X80.here hx rfl (hb hby at_165) rfl (flt hc165_88).1 ?_
                    show Steps p.tables e below (T80.setTop (mkF m 168 #[.val (.int p1), .val (.int p2), .val (.int p3), .val (.int p4), .val (.int p5), .val (.int p6), .val (.int (p1 &&& (3 : Int32))), .val (.int xa), .val (.int xb), .val (.int xc), .val (.ref b67), .val (.ref b74), .val (.ref b78), .unset] [])) _
                    refine XS.iload X80.here hx rfl (hb hby at_168) rfl ?_
                    show Steps p.tables e below (T80.setTop (mkF m 170 #[.val (.int p1), .val (.int p2), .val (.int p3), .val (.int p4), .val (.int p5), .val (.int p6), .val (.int (p1 &&& (3 : Int32))), .val (.int xa), .val (.int xb), .val (.int xc), .val (.ref b67), .val (.ref b74), .val (.ref b78), .unset] [(.int xa)])) _
                    refine XS.iloadN X80.here hx rfl (hb hby at_170) rfl ?_
                    exact kt
                  show own_End p e below s (T80.setTop (mkF m 171 #[.val (.int p1), .val (.int p2), .val (.int p3), .val (.int p4), .val (.int p5), .val (.int p6), .val (.int (p1 &&& (3 : Int32))), .val (.int xa), .val (.int xb), .val (.int xc), .val (.ref b67), .val (.ref b74), .val (.ref b78), .unset] [(.int p2), (.int xa)])) (Q0 Z p1 p2 p3 p4 p5 p6 h0 n0) room_1.cells room_1.slots
                  by_cases hc171_95 : xa = p2
                  · refine own_pre (A := T80.setTop (mkF m 203 #[.val (.int p1), .val (.int p2), .val (.int p3), .val (.int p4), .val (.int p5), .val (.int p6), .val (.int (p1 &&& (3 : Int32))), .val (.int xa), .val (.int xb), .val (.int xc), .val (.ref b67), .val (.ref b74), .val (.ref b78), .unset] [(.int (1 : Int32))])) (fun tt kt => ?_) ?_
                    · show Steps p.tables e below (T80.setTop (mkF m 171 #[.val (.int p1), .val (.int p2), .val (.int p3), .val (.int p4), .val (.int p5), .val (.int p6), .val (.int (p1 &&& (3 : Int32))), .val (.int xa), .val (.int xb), .val (.int xc), .val (.ref b67), .val (.ref b74), .val (.ref b78), .unset] [(.int p2), (.int xa)])) _
                      refine XS.icmpYes X80.here hx rfl (pc0 := 171) (pc' := 198) rfl (hb hby at_171) rfl (teq hc171_95).1 (by decide) (by decide) ?_
                      show Steps p.tables e below (T80.setTop (mkF m 198 #[.val (.int p1), .val (.int p2), .val (.int p3), .val (.int p4), .val (.int p5), .val (.int p6), .val (.int (p1 &&& (3 : Int32))), .val (.int xa), .val (.int xb), .val (.int xc), .val (.ref b67), .val (.ref b74), .val (.ref b78), .unset] [])) _
                      refine XS.iconst X80.here hx rfl (hb hby at_198) ?_
                      show Steps p.tables e below (T80.setTop (mkF m 199 #[.val (.int p1), .val (.int p2), .val (.int p3), .val (.int p4), .val (.int p5), .val (.int p6), .val (.int (p1 &&& (3 : Int32))), .val (.int xa), .val (.int xb), .val (.int xc), .val (.ref b67), .val (.ref b74), .val (.ref b78), .unset] [(.int (1 : Int32))])) _
                      refine XS.goto X80.here hx rfl (pc0 := 199) (pc' := 203) rfl (hb hby at_199) (by decide) (by decide) ?_
                      exact kt
                    show own_End p e below s (T80.setTop (mkF m 203 #[.val (.int p1), .val (.int p2), .val (.int p3), .val (.int p4), .val (.int p5), .val (.int p6), .val (.int (p1 &&& (3 : Int32))), .val (.int xa), .val (.int xb), .val (.int xc), .val (.ref b67), .val (.ref b74), .val (.ref b78), .unset] [(.int (1 : Int32))])) (Q0 Z p1 p2 p3 p4 p5 p6 h0 n0) room_1.cells room_1.slots
                    exact j203 _ _ X80 rfl N80 (1 : Int32)  (hj.trans (by simp only [own_law_142bb, if_neg hc165_88, if_pos hc171_95]))
                  · refine own_pre (A := T80.setTop (mkF m 177 #[.val (.int p1), .val (.int p2), .val (.int p3), .val (.int p4), .val (.int p5), .val (.int p6), .val (.int (p1 &&& (3 : Int32))), .val (.int xa), .val (.int xb), .val (.int xc), .val (.ref b67), .val (.ref b74), .val (.ref b78), .unset] [(.int (2 : Int32)), (.int (p1 &&& (3 : Int32)))])) (fun tt kt => ?_) ?_
                    · show Steps p.tables e below (T80.setTop (mkF m 171 #[.val (.int p1), .val (.int p2), .val (.int p3), .val (.int p4), .val (.int p5), .val (.int p6), .val (.int (p1 &&& (3 : Int32))), .val (.int xa), .val (.int xb), .val (.int xc), .val (.ref b67), .val (.ref b74), .val (.ref b78), .unset] [(.int p2), (.int xa)])) _
                      refine XS.icmpNo X80.here hx rfl (hb hby at_171) rfl (feq hc171_95).1 ?_
                      show Steps p.tables e below (T80.setTop (mkF m 174 #[.val (.int p1), .val (.int p2), .val (.int p3), .val (.int p4), .val (.int p5), .val (.int p6), .val (.int (p1 &&& (3 : Int32))), .val (.int xa), .val (.int xb), .val (.int xc), .val (.ref b67), .val (.ref b74), .val (.ref b78), .unset] [])) _
                      refine XS.iload X80.here hx rfl (hb hby at_174) rfl ?_
                      show Steps p.tables e below (T80.setTop (mkF m 176 #[.val (.int p1), .val (.int p2), .val (.int p3), .val (.int p4), .val (.int p5), .val (.int p6), .val (.int (p1 &&& (3 : Int32))), .val (.int xa), .val (.int xb), .val (.int xc), .val (.ref b67), .val (.ref b74), .val (.ref b78), .unset] [(.int (p1 &&& (3 : Int32)))])) _
                      refine XS.iconst X80.here hx rfl (hb hby at_176) ?_
                      exact kt
                    show own_End p e below s (T80.setTop (mkF m 177 #[.val (.int p1), .val (.int p2), .val (.int p3), .val (.int p4), .val (.int p5), .val (.int p6), .val (.int (p1 &&& (3 : Int32))), .val (.int xa), .val (.int xb), .val (.int xc), .val (.ref b67), .val (.ref b74), .val (.ref b78), .unset] [(.int (2 : Int32)), (.int (p1 &&& (3 : Int32)))])) (Q0 Z p1 p2 p3 p4 p5 p6 h0 n0) room_1.cells room_1.slots
                    by_cases hc177_96 : (p1 &&& (3 : Int32)) < (2 : Int32)
                    · refine own_pre (A := T80.setTop (mkF m 189 #[.val (.int p1), .val (.int p2), .val (.int p3), .val (.int p4), .val (.int p5), .val (.int p6), .val (.int (p1 &&& (3 : Int32))), .val (.int xa), .val (.int xb), .val (.int xc), .val (.ref b67), .val (.ref b74), .val (.ref b78), .unset] [(.int (3 : Int32)), (.int (p1 &&& (3 : Int32)))])) (fun tt kt => ?_) ?_
                      · show Steps p.tables e below (T80.setTop (mkF m 177 #[.val (.int p1), .val (.int p2), .val (.int p3), .val (.int p4), .val (.int p5), .val (.int p6), .val (.int (p1 &&& (3 : Int32))), .val (.int xa), .val (.int xb), .val (.int xc), .val (.ref b67), .val (.ref b74), .val (.ref b78), .unset] [(.int (2 : Int32)), (.int (p1 &&& (3 : Int32)))])) _
                        refine XS.icmpYes X80.here hx rfl (pc0 := 177) (pc' := 186) rfl (hb hby at_177) rfl (tlt hc177_96).1 (by decide) (by decide) ?_
                        show Steps p.tables e below (T80.setTop (mkF m 186 #[.val (.int p1), .val (.int p2), .val (.int p3), .val (.int p4), .val (.int p5), .val (.int p6), .val (.int (p1 &&& (3 : Int32))), .val (.int xa), .val (.int xb), .val (.int xc), .val (.ref b67), .val (.ref b74), .val (.ref b78), .unset] [])) _
                        refine XS.iload X80.here hx rfl (hb hby at_186) rfl ?_
                        show Steps p.tables e below (T80.setTop (mkF m 188 #[.val (.int p1), .val (.int p2), .val (.int p3), .val (.int p4), .val (.int p5), .val (.int p6), .val (.int (p1 &&& (3 : Int32))), .val (.int xa), .val (.int xb), .val (.int xc), .val (.ref b67), .val (.ref b74), .val (.ref b78), .unset] [(.int (p1 &&& (3 : Int32)))])) _
                        refine XS.iconst X80.here hx rfl (hb hby at_188) ?_
                        exact kt
                      show own_End p e below s (T80.setTop (mkF m 189 #[.val (.int p1), .val (.int p2), .val (.int p3), .val (.int p4), .val (.int p5), .val (.int p6), .val (.int (p1 &&& (3 : Int32))), .val (.int xa), .val (.int xb), .val (.int xc), .val (.ref b67), .val (.ref b74), .val (.ref b78), .unset] [(.int (3 : Int32)), (.int (p1 &&& (3 : Int32)))])) (Q0 Z p1 p2 p3 p4 p5 p6 h0 n0) room_1.cells room_1.slots
                      by_cases hc189_97 : (p1 &&& (3 : Int32)) < (3 : Int32)
                      · refine own_pre (A := T80.setTop (mkF m 203 #[.val (.int p1), .val (.int p2), .val (.int p3), .val (.int p4), .val (.int p5), .val (.int p6), .val (.int (p1 &&& (3 : Int32))), .val (.int xa), .val (.int xb), .val (.int xc), .val (.ref b67), .val (.ref b74), .val (.ref b78), .unset] [(.int (0 : Int32))])) (fun tt kt => ?_) ?_
                        · show Steps p.tables e below (T80.setTop (mkF m 189 #[.val (.int p1), .val (.int p2), .val (.int p3), .val (.int p4), .val (.int p5), .val (.int p6), .val (.int (p1 &&& (3 : Int32))), .val (.int xa), .val (.int xb), .val (.int xc), .val (.ref b67), .val (.ref b74), .val (.ref b78), .unset] [(.int (3 : Int32)), (.int (p1 &&& (3 : Int32)))])) _
                          refine XS.icmpYes X80.here hx rfl (pc0 := 189) (pc' := 202) rfl (hb hby at_189) rfl (tlt hc189_97).1 (by decide) (by decide) ?_
                          show Steps p.tables e below (T80.setTop (mkF m 202 #[.val (.int p1), .val (.int p2), .val (.int p3), .val (.int p4), .val (.int p5), .val (.int p6), .val (.int (p1 &&& (3 : Int32))), .val (.int xa), .val (.int xb), .val (.int xc), .val (.ref b67), .val (.ref b74), .val (.ref b78), .unset] [])) _
                          refine XS.iconst X80.here hx rfl (hb hby at_202) ?_
                          exact kt
                        show own_End p e below s (T80.setTop (mkF m 203 #[.val (.int p1), .val (.int p2), .val (.int p3), .val (.int p4), .val (.int p5), .val (.int p6), .val (.int (p1 &&& (3 : Int32))), .val (.int xa), .val (.int xb), .val (.int xc), .val (.ref b67), .val (.ref b74), .val (.ref b78), .unset] [(.int (0 : Int32))])) (Q0 Z p1 p2 p3 p4 p5 p6 h0 n0) room_1.cells room_1.slots
                        exact j203 _ _ X80 rfl N80 (0 : Int32)  (hj.trans (by simp only [own_law_142bb, if_neg hc165_88, if_neg hc171_95, if_pos hc177_96, if_pos hc189_97]))
                      · refine own_pre (A := T80.setTop (mkF m 195 #[.val (.int p1), .val (.int p2), .val (.int p3), .val (.int p4), .val (.int p5), .val (.int p6), .val (.int (p1 &&& (3 : Int32))), .val (.int xa), .val (.int xb), .val (.int xc), .val (.ref b67), .val (.ref b74), .val (.ref b78), .unset] [(.int p2), (.int xc)])) (fun tt kt => ?_) ?_
                        · show Steps p.tables e below (T80.setTop (mkF m 189 #[.val (.int p1), .val (.int p2), .val (.int p3), .val (.int p4), .val (.int p5), .val (.int p6), .val (.int (p1 &&& (3 : Int32))), .val (.int xa), .val (.int xb), .val (.int xc), .val (.ref b67), .val (.ref b74), .val (.ref b78), .unset] [(.int (3 : Int32)), (.int (p1 &&& (3 : Int32)))])) _
                          refine XS.icmpNo X80.here hx rfl (hb hby at_189) rfl (flt hc189_97).1 ?_
                          show Steps p.tables e below (T80.setTop (mkF m 192 #[.val (.int p1), .val (.int p2), .val (.int p3), .val (.int p4), .val (.int p5), .val (.int p6), .val (.int (p1 &&& (3 : Int32))), .val (.int xa), .val (.int xb), .val (.int xc), .val (.ref b67), .val (.ref b74), .val (.ref b78), .unset] [])) _
                          refine XS.iload X80.here hx rfl (hb hby at_192) rfl ?_
                          show Steps p.tables e below (T80.setTop (mkF m 194 #[.val (.int p1), .val (.int p2), .val (.int p3), .val (.int p4), .val (.int p5), .val (.int p6), .val (.int (p1 &&& (3 : Int32))), .val (.int xa), .val (.int xb), .val (.int xc), .val (.ref b67), .val (.ref b74), .val (.ref b78), .unset] [(.int xc)])) _
                          refine XS.iloadN X80.here hx rfl (hb hby at_194) rfl ?_
                          exact kt
                        show own_End p e below s (T80.setTop (mkF m 195 #[.val (.int p1), .val (.int p2), .val (.int p3), .val (.int p4), .val (.int p5), .val (.int p6), .val (.int (p1 &&& (3 : Int32))), .val (.int xa), .val (.int xb), .val (.int xc), .val (.ref b67), .val (.ref b74), .val (.ref b78), .unset] [(.int p2), (.int xc)])) (Q0 Z p1 p2 p3 p4 p5 p6 h0 n0) room_1.cells room_1.slots
                        by_cases hc195_98 : xc = p2
                        · refine own_pre (A := T80.setTop (mkF m 203 #[.val (.int p1), .val (.int p2), .val (.int p3), .val (.int p4), .val (.int p5), .val (.int p6), .val (.int (p1 &&& (3 : Int32))), .val (.int xa), .val (.int xb), .val (.int xc), .val (.ref b67), .val (.ref b74), .val (.ref b78), .unset] [(.int (1 : Int32))])) (fun tt kt => ?_) ?_
                          · show Steps p.tables e below (T80.setTop (mkF m 195 #[.val (.int p1), .val (.int p2), .val (.int p3), .val (.int p4), .val (.int p5), .val (.int p6), .val (.int (p1 &&& (3 : Int32))), .val (.int xa), .val (.int xb), .val (.int xc), .val (.ref b67), .val (.ref b74), .val (.ref b78), .unset] [(.int p2), (.int xc)])) _
                            refine XS.icmpNo X80.here hx rfl (hb hby at_195) rfl (teq hc195_98).2 ?_
                            show Steps p.tables e below (T80.setTop (mkF m 198 #[.val (.int p1), .val (.int p2), .val (.int p3), .val (.int p4), .val (.int p5), .val (.int p6), .val (.int (p1 &&& (3 : Int32))), .val (.int xa), .val (.int xb), .val (.int xc), .val (.ref b67), .val (.ref b74), .val (.ref b78), .unset] [])) _
                            refine XS.iconst X80.here hx rfl (hb hby at_198) ?_
                            show Steps p.tables e below (T80.setTop (mkF m 199 #[.val (.int p1), .val (.int p2), .val (.int p3), .val (.int p4), .val (.int p5), .val (.int p6), .val (.int (p1 &&& (3 : Int32))), .val (.int xa), .val (.int xb), .val (.int xc), .val (.ref b67), .val (.ref b74), .val (.ref b78), .unset] [(.int (1 : Int32))])) _
                            refine XS.goto X80.here hx rfl (pc0 := 199) (pc' := 203) rfl (hb hby at_199) (by decide) (by decide) ?_
                            exact kt
                          show own_End p e below s (T80.setTop (mkF m 203 #[.val (.int p1), .val (.int p2), .val (.int p3), .val (.int p4), .val (.int p5), .val (.int p6), .val (.int (p1 &&& (3 : Int32))), .val (.int xa), .val (.int xb), .val (.int xc), .val (.ref b67), .val (.ref b74), .val (.ref b78), .unset] [(.int (1 : Int32))])) (Q0 Z p1 p2 p3 p4 p5 p6 h0 n0) room_1.cells room_1.slots
                          exact j203 _ _ X80 rfl N80 (1 : Int32)  (hj.trans (by simp only [own_law_142bb, if_neg hc165_88, if_neg hc171_95, if_pos hc177_96, if_neg hc189_97, if_pos hc195_98]))
                        · refine own_pre (A := T80.setTop (mkF m 203 #[.val (.int p1), .val (.int p2), .val (.int p3), .val (.int p4), .val (.int p5), .val (.int p6), .val (.int (p1 &&& (3 : Int32))), .val (.int xa), .val (.int xb), .val (.int xc), .val (.ref b67), .val (.ref b74), .val (.ref b78), .unset] [(.int (0 : Int32))])) (fun tt kt => ?_) ?_
                          · show Steps p.tables e below (T80.setTop (mkF m 195 #[.val (.int p1), .val (.int p2), .val (.int p3), .val (.int p4), .val (.int p5), .val (.int p6), .val (.int (p1 &&& (3 : Int32))), .val (.int xa), .val (.int xb), .val (.int xc), .val (.ref b67), .val (.ref b74), .val (.ref b78), .unset] [(.int p2), (.int xc)])) _
                            refine XS.icmpYes X80.here hx rfl (pc0 := 195) (pc' := 202) rfl (hb hby at_195) rfl (feq hc195_98).2 (by decide) (by decide) ?_
                            show Steps p.tables e below (T80.setTop (mkF m 202 #[.val (.int p1), .val (.int p2), .val (.int p3), .val (.int p4), .val (.int p5), .val (.int p6), .val (.int (p1 &&& (3 : Int32))), .val (.int xa), .val (.int xb), .val (.int xc), .val (.ref b67), .val (.ref b74), .val (.ref b78), .unset] [])) _
                            refine XS.iconst X80.here hx rfl (hb hby at_202) ?_
                            exact kt
                          show own_End p e below s (T80.setTop (mkF m 203 #[.val (.int p1), .val (.int p2), .val (.int p3), .val (.int p4), .val (.int p5), .val (.int p6), .val (.int (p1 &&& (3 : Int32))), .val (.int xa), .val (.int xb), .val (.int xc), .val (.ref b67), .val (.ref b74), .val (.ref b78), .unset] [(.int (0 : Int32))])) (Q0 Z p1 p2 p3 p4 p5 p6 h0 n0) room_1.cells room_1.slots
                          exact j203 _ _ X80 rfl N80 (0 : Int32)  (hj.trans (by simp only [own_law_142bb, if_neg hc165_88, if_neg hc171_95, if_pos hc177_96, if_neg hc189_97, if_neg hc195_98]))
                    · refine own_pre (A := T80.setTop (mkF m 183 #[.val (.int p1), .val (.int p2), .val (.int p3), .val (.int p4), .val (.int p5), .val (.int p6), .val (.int (p1 &&& (3 : Int32))), .val (.int xa), .val (.int xb), .val (.int xc), .val (.ref b67), .val (.ref b74), .val (.ref b78), .unset] [(.int p2), (.int xb)])) (fun tt kt => ?_) ?_
                      · show Steps p.tables e below (T80.setTop (mkF m 177 #[.val (.int p1), .val (.int p2), .val (.int p3), .val (.int p4), .val (.int p5), .val (.int p6), .val (.int (p1 &&& (3 : Int32))), .val (.int xa), .val (.int xb), .val (.int xc), .val (.ref b67), .val (.ref b74), .val (.ref b78), .unset] [(.int (2 : Int32)), (.int (p1 &&& (3 : Int32)))])) _
                        refine XS.icmpNo X80.here hx rfl (hb hby at_177) rfl (flt hc177_96).1 ?_
                        show Steps p.tables e below (T80.setTop (mkF m 180 #[.val (.int p1), .val (.int p2), .val (.int p3), .val (.int p4), .val (.int p5), .val (.int p6), .val (.int (p1 &&& (3 : Int32))), .val (.int xa), .val (.int xb), .val (.int xc), .val (.ref b67), .val (.ref b74), .val (.ref b78), .unset] [])) _
                        refine XS.iload X80.here hx rfl (hb hby at_180) rfl ?_
                        show Steps p.tables e below (T80.setTop (mkF m 182 #[.val (.int p1), .val (.int p2), .val (.int p3), .val (.int p4), .val (.int p5), .val (.int p6), .val (.int (p1 &&& (3 : Int32))), .val (.int xa), .val (.int xb), .val (.int xc), .val (.ref b67), .val (.ref b74), .val (.ref b78), .unset] [(.int xb)])) _
                        refine XS.iloadN X80.here hx rfl (hb hby at_182) rfl ?_
                        exact kt
                      show own_End p e below s (T80.setTop (mkF m 183 #[.val (.int p1), .val (.int p2), .val (.int p3), .val (.int p4), .val (.int p5), .val (.int p6), .val (.int (p1 &&& (3 : Int32))), .val (.int xa), .val (.int xb), .val (.int xc), .val (.ref b67), .val (.ref b74), .val (.ref b78), .unset] [(.int p2), (.int xb)])) (Q0 Z p1 p2 p3 p4 p5 p6 h0 n0) room_1.cells room_1.slots
                      by_cases hc183_99 : xb = p2
                      · refine own_pre (A := T80.setTop (mkF m 203 #[.val (.int p1), .val (.int p2), .val (.int p3), .val (.int p4), .val (.int p5), .val (.int p6), .val (.int (p1 &&& (3 : Int32))), .val (.int xa), .val (.int xb), .val (.int xc), .val (.ref b67), .val (.ref b74), .val (.ref b78), .unset] [(.int (1 : Int32))])) (fun tt kt => ?_) ?_
                        · show Steps p.tables e below (T80.setTop (mkF m 183 #[.val (.int p1), .val (.int p2), .val (.int p3), .val (.int p4), .val (.int p5), .val (.int p6), .val (.int (p1 &&& (3 : Int32))), .val (.int xa), .val (.int xb), .val (.int xc), .val (.ref b67), .val (.ref b74), .val (.ref b78), .unset] [(.int p2), (.int xb)])) _
                          refine XS.icmpYes X80.here hx rfl (pc0 := 183) (pc' := 198) rfl (hb hby at_183) rfl (teq hc183_99).1 (by decide) (by decide) ?_
                          show Steps p.tables e below (T80.setTop (mkF m 198 #[.val (.int p1), .val (.int p2), .val (.int p3), .val (.int p4), .val (.int p5), .val (.int p6), .val (.int (p1 &&& (3 : Int32))), .val (.int xa), .val (.int xb), .val (.int xc), .val (.ref b67), .val (.ref b74), .val (.ref b78), .unset] [])) _
                          refine XS.iconst X80.here hx rfl (hb hby at_198) ?_
                          show Steps p.tables e below (T80.setTop (mkF m 199 #[.val (.int p1), .val (.int p2), .val (.int p3), .val (.int p4), .val (.int p5), .val (.int p6), .val (.int (p1 &&& (3 : Int32))), .val (.int xa), .val (.int xb), .val (.int xc), .val (.ref b67), .val (.ref b74), .val (.ref b78), .unset] [(.int (1 : Int32))])) _
                          refine XS.goto X80.here hx rfl (pc0 := 199) (pc' := 203) rfl (hb hby at_199) (by decide) (by decide) ?_
                          exact kt
                        show own_End p e below s (T80.setTop (mkF m 203 #[.val (.int p1), .val (.int p2), .val (.int p3), .val (.int p4), .val (.int p5), .val (.int p6), .val (.int (p1 &&& (3 : Int32))), .val (.int xa), .val (.int xb), .val (.int xc), .val (.ref b67), .val (.ref b74), .val (.ref b78), .unset] [(.int (1 : Int32))])) (Q0 Z p1 p2 p3 p4 p5 p6 h0 n0) room_1.cells room_1.slots
                        exact j203 _ _ X80 rfl N80 (1 : Int32)  (hj.trans (by simp only [own_law_142bb, if_neg hc165_88, if_neg hc171_95, if_neg hc177_96, if_pos hc183_99]))
                      · refine own_pre (A := T80.setTop (mkF m 189 #[.val (.int p1), .val (.int p2), .val (.int p3), .val (.int p4), .val (.int p5), .val (.int p6), .val (.int (p1 &&& (3 : Int32))), .val (.int xa), .val (.int xb), .val (.int xc), .val (.ref b67), .val (.ref b74), .val (.ref b78), .unset] [(.int (3 : Int32)), (.int (p1 &&& (3 : Int32)))])) (fun tt kt => ?_) ?_
                        · show Steps p.tables e below (T80.setTop (mkF m 183 #[.val (.int p1), .val (.int p2), .val (.int p3), .val (.int p4), .val (.int p5), .val (.int p6), .val (.int (p1 &&& (3 : Int32))), .val (.int xa), .val (.int xb), .val (.int xc), .val (.ref b67), .val (.ref b74), .val (.ref b78), .unset] [(.int p2), (.int xb)])) _
                          refine XS.icmpNo X80.here hx rfl (hb hby at_183) rfl (feq hc183_99).1 ?_
                          show Steps p.tables e below (T80.setTop (mkF m 186 #[.val (.int p1), .val (.int p2), .val (.int p3), .val (.int p4), .val (.int p5), .val (.int p6), .val (.int (p1 &&& (3 : Int32))), .val (.int xa), .val (.int xb), .val (.int xc), .val (.ref b67), .val (.ref b74), .val (.ref b78), .unset] [])) _
                          refine XS.iload X80.here hx rfl (hb hby at_186) rfl ?_
                          show Steps p.tables e below (T80.setTop (mkF m 188 #[.val (.int p1), .val (.int p2), .val (.int p3), .val (.int p4), .val (.int p5), .val (.int p6), .val (.int (p1 &&& (3 : Int32))), .val (.int xa), .val (.int xb), .val (.int xc), .val (.ref b67), .val (.ref b74), .val (.ref b78), .unset] [(.int (p1 &&& (3 : Int32)))])) _
                          refine XS.iconst X80.here hx rfl (hb hby at_188) ?_
                          exact kt
                        show own_End p e below s (T80.setTop (mkF m 189 #[.val (.int p1), .val (.int p2), .val (.int p3), .val (.int p4), .val (.int p5), .val (.int p6), .val (.int (p1 &&& (3 : Int32))), .val (.int xa), .val (.int xb), .val (.int xc), .val (.ref b67), .val (.ref b74), .val (.ref b78), .unset] [(.int (3 : Int32)), (.int (p1 &&& (3 : Int32)))])) (Q0 Z p1 p2 p3 p4 p5 p6 h0 n0) room_1.cells room_1.slots
                        by_cases hc189_100 : (p1 &&& (3 : Int32)) < (3 : Int32)
                        · refine own_pre (A := T80.setTop (mkF m 203 #[.val (.int p1), .val (.int p2), .val (.int p3), .val (.int p4), .val (.int p5), .val (.int p6), .val (.int (p1 &&& (3 : Int32))), .val (.int xa), .val (.int xb), .val (.int xc), .val (.ref b67), .val (.ref b74), .val (.ref b78), .unset] [(.int (0 : Int32))])) (fun tt kt => ?_) ?_
                          · show Steps p.tables e below (T80.setTop (mkF m 189 #[.val (.int p1), .val (.int p2), .val (.int p3), .val (.int p4), .val (.int p5), .val (.int p6), .val (.int (p1 &&& (3 : Int32))), .val (.int xa), .val (.int xb), .val (.int xc), .val (.ref b67), .val (.ref b74), .val (.ref b78), .unset] [(.int (3 : Int32)), (.int (p1 &&& (3 : Int32)))])) _
                            refine XS.icmpYes X80.here hx rfl (pc0 := 189) (pc' := 202) rfl (hb hby at_189) rfl (tlt hc189_100).1 (by decide) (by decide) ?_
                            show Steps p.tables e below (T80.setTop (mkF m 202 #[.val (.int p1), .val (.int p2), .val (.int p3), .val (.int p4), .val (.int p5), .val (.int p6), .val (.int (p1 &&& (3 : Int32))), .val (.int xa), .val (.int xb), .val (.int xc), .val (.ref b67), .val (.ref b74), .val (.ref b78), .unset] [])) _
                            refine XS.iconst X80.here hx rfl (hb hby at_202) ?_
                            exact kt
                          show own_End p e below s (T80.setTop (mkF m 203 #[.val (.int p1), .val (.int p2), .val (.int p3), .val (.int p4), .val (.int p5), .val (.int p6), .val (.int (p1 &&& (3 : Int32))), .val (.int xa), .val (.int xb), .val (.int xc), .val (.ref b67), .val (.ref b74), .val (.ref b78), .unset] [(.int (0 : Int32))])) (Q0 Z p1 p2 p3 p4 p5 p6 h0 n0) room_1.cells room_1.slots
                          exact j203 _ _ X80 rfl N80 (0 : Int32)  (hj.trans (by simp only [own_law_142bb, if_neg hc165_88, if_neg hc171_95, if_neg hc177_96, if_neg hc183_99, if_pos hc189_100]))
                        · refine own_pre (A := T80.setTop (mkF m 195 #[.val (.int p1), .val (.int p2), .val (.int p3), .val (.int p4), .val (.int p5), .val (.int p6), .val (.int (p1 &&& (3 : Int32))), .val (.int xa), .val (.int xb), .val (.int xc), .val (.ref b67), .val (.ref b74), .val (.ref b78), .unset] [(.int p2), (.int xc)])) (fun tt kt => ?_) ?_
                          · show Steps p.tables e below (T80.setTop (mkF m 189 #[.val (.int p1), .val (.int p2), .val (.int p3), .val (.int p4), .val (.int p5), .val (.int p6), .val (.int (p1 &&& (3 : Int32))), .val (.int xa), .val (.int xb), .val (.int xc), .val (.ref b67), .val (.ref b74), .val (.ref b78), .unset] [(.int (3 : Int32)), (.int (p1 &&& (3 : Int32)))])) _
                            refine XS.icmpNo X80.here hx rfl (hb hby at_189) rfl (flt hc189_100).1 ?_
                            show Steps p.tables e below (T80.setTop (mkF m 192 #[.val (.int p1), .val (.int p2), .val (.int p3), .val (.int p4), .val (.int p5), .val (.int p6), .val (.int (p1 &&& (3 : Int32))), .val (.int xa), .val (.int xb), .val (.int xc), .val (.ref b67), .val (.ref b74), .val (.ref b78), .unset] [])) _
                            refine XS.iload X80.here hx rfl (hb hby at_192) rfl ?_
                            show Steps p.tables e below (T80.setTop (mkF m 194 #[.val (.int p1), .val (.int p2), .val (.int p3), .val (.int p4), .val (.int p5), .val (.int p6), .val (.int (p1 &&& (3 : Int32))), .val (.int xa), .val (.int xb), .val (.int xc), .val (.ref b67), .val (.ref b74), .val (.ref b78), .unset] [(.int xc)])) _
                            refine XS.iloadN X80.here hx rfl (hb hby at_194) rfl ?_
                            exact kt
                          show own_End p e below s (T80.setTop (mkF m 195 #[.val (.int p1), .val (.int p2), .val (.int p3), .val (.int p4), .val (.int p5), .val (.int p6), .val (.int (p1 &&& (3 : Int32))), .val (.int xa), .val (.int xb), .val (.int xc), .val (.ref b67), .val (.ref b74), .val (.ref b78), .unset] [(.int p2), (.int xc)])) (Q0 Z p1 p2 p3 p4 p5 p6 h0 n0) room_1.cells room_1.slots
                          by_cases hc195_101 : xc = p2
                          · refine own_pre (A := T80.setTop (mkF m 203 #[.val (.int p1), .val (.int p2), .val (.int p3), .val (.int p4), .val (.int p5), .val (.int p6), .val (.int (p1 &&& (3 : Int32))), .val (.int xa), .val (.int xb), .val (.int xc), .val (.ref b67), .val (.ref b74), .val (.ref b78), .unset] [(.int (1 : Int32))])) (fun tt kt => ?_) ?_
                            · show Steps p.tables e below (T80.setTop (mkF m 195 #[.val (.int p1), .val (.int p2), .val (.int p3), .val (.int p4), .val (.int p5), .val (.int p6), .val (.int (p1 &&& (3 : Int32))), .val (.int xa), .val (.int xb), .val (.int xc), .val (.ref b67), .val (.ref b74), .val (.ref b78), .unset] [(.int p2), (.int xc)])) _
                              refine XS.icmpNo X80.here hx rfl (hb hby at_195) rfl (teq hc195_101).2 ?_
                              show Steps p.tables e below (T80.setTop (mkF m 198 #[.val (.int p1), .val (.int p2), .val (.int p3), .val (.int p4), .val (.int p5), .val (.int p6), .val (.int (p1 &&& (3 : Int32))), .val (.int xa), .val (.int xb), .val (.int xc), .val (.ref b67), .val (.ref b74), .val (.ref b78), .unset] [])) _
                              refine XS.iconst X80.here hx rfl (hb hby at_198) ?_
                              show Steps p.tables e below (T80.setTop (mkF m 199 #[.val (.int p1), .val (.int p2), .val (.int p3), .val (.int p4), .val (.int p5), .val (.int p6), .val (.int (p1 &&& (3 : Int32))), .val (.int xa), .val (.int xb), .val (.int xc), .val (.ref b67), .val (.ref b74), .val (.ref b78), .unset] [(.int (1 : Int32))])) _
                              refine XS.goto X80.here hx rfl (pc0 := 199) (pc' := 203) rfl (hb hby at_199) (by decide) (by decide) ?_
                              exact kt
                            show own_End p e below s (T80.setTop (mkF m 203 #[.val (.int p1), .val (.int p2), .val (.int p3), .val (.int p4), .val (.int p5), .val (.int p6), .val (.int (p1 &&& (3 : Int32))), .val (.int xa), .val (.int xb), .val (.int xc), .val (.ref b67), .val (.ref b74), .val (.ref b78), .unset] [(.int (1 : Int32))])) (Q0 Z p1 p2 p3 p4 p5 p6 h0 n0) room_1.cells room_1.slots
                            exact j203 _ _ X80 rfl N80 (1 : Int32)  (hj.trans (by simp only [own_law_142bb, if_neg hc165_88, if_neg hc171_95, if_neg hc177_96, if_neg hc183_99, if_neg hc189_100, if_pos hc195_101]))
                          · refine own_pre (A := T80.setTop (mkF m 203 #[.val (.int p1), .val (.int p2), .val (.int p3), .val (.int p4), .val (.int p5), .val (.int p6), .val (.int (p1 &&& (3 : Int32))), .val (.int xa), .val (.int xb), .val (.int xc), .val (.ref b67), .val (.ref b74), .val (.ref b78), .unset] [(.int (0 : Int32))])) (fun tt kt => ?_) ?_
                            · show Steps p.tables e below (T80.setTop (mkF m 195 #[.val (.int p1), .val (.int p2), .val (.int p3), .val (.int p4), .val (.int p5), .val (.int p6), .val (.int (p1 &&& (3 : Int32))), .val (.int xa), .val (.int xb), .val (.int xc), .val (.ref b67), .val (.ref b74), .val (.ref b78), .unset] [(.int p2), (.int xc)])) _
                              refine XS.icmpYes X80.here hx rfl (pc0 := 195) (pc' := 202) rfl (hb hby at_195) rfl (feq hc195_101).2 (by decide) (by decide) ?_
                              show Steps p.tables e below (T80.setTop (mkF m 202 #[.val (.int p1), .val (.int p2), .val (.int p3), .val (.int p4), .val (.int p5), .val (.int p6), .val (.int (p1 &&& (3 : Int32))), .val (.int xa), .val (.int xb), .val (.int xc), .val (.ref b67), .val (.ref b74), .val (.ref b78), .unset] [])) _
                              refine XS.iconst X80.here hx rfl (hb hby at_202) ?_
                              exact kt
                            show own_End p e below s (T80.setTop (mkF m 203 #[.val (.int p1), .val (.int p2), .val (.int p3), .val (.int p4), .val (.int p5), .val (.int p6), .val (.int (p1 &&& (3 : Int32))), .val (.int xa), .val (.int xb), .val (.int xc), .val (.ref b67), .val (.ref b74), .val (.ref b78), .unset] [(.int (0 : Int32))])) (Q0 Z p1 p2 p3 p4 p5 p6 h0 n0) room_1.cells room_1.slots
                            exact j203 _ _ X80 rfl N80 (0 : Int32)  (hj.trans (by simp only [own_law_142bb, if_neg hc165_88, if_neg hc171_95, if_neg hc177_96, if_neg hc183_99, if_neg hc189_100, if_neg hc195_101]))
              by_cases hc134_102 : (p6 &&& (8 : Int32)) = (0 : Int32)
              · refine own_pre (A := T74.setTop (mkF m 142 #[.val (.int p1), .val (.int p2), .val (.int p3), .val (.int p4), .val (.int p5), .val (.int p6), .val (.int (p1 &&& (3 : Int32))), .val (.int xa), .val (.int xb), .val (.int xc), .val (.ref b67), .unset, .unset, .unset] [(.int p4), (.int (0 : Int32)), (.ref b74), (.ref b74)])) (fun tt kt => ?_) ?_
                · show Steps p.tables e below (T74.setTop (mkF m 134 #[.val (.int p1), .val (.int p2), .val (.int p3), .val (.int p4), .val (.int p5), .val (.int p6), .val (.int (p1 &&& (3 : Int32))), .val (.int xa), .val (.int xb), .val (.int xc), .val (.ref b67), .unset, .unset, .unset] [(.int (p6 &&& (8 : Int32))), (.int (0 : Int32)), (.ref b74), (.ref b74)])) _
                  refine XS.ifYes X74.here hx rfl (pc0 := 134) (pc' := 141) rfl (hb hby at_134) rfl ((if0 _ _).trans (teq hc134_102).1) (by decide) (by decide) ?_
                  show Steps p.tables e below (T74.setTop (mkF m 141 #[.val (.int p1), .val (.int p2), .val (.int p3), .val (.int p4), .val (.int p5), .val (.int p6), .val (.int (p1 &&& (3 : Int32))), .val (.int xa), .val (.int xb), .val (.int xc), .val (.ref b67), .unset, .unset, .unset] [(.int (0 : Int32)), (.ref b74), (.ref b74)])) _
                  refine XS.iloadN X74.here hx rfl (hb hby at_141) rfl ?_
                  exact kt
                show own_End p e below s (T74.setTop (mkF m 142 #[.val (.int p1), .val (.int p2), .val (.int p3), .val (.int p4), .val (.int p5), .val (.int p6), .val (.int (p1 &&& (3 : Int32))), .val (.int xa), .val (.int xb), .val (.int xc), .val (.ref b67), .unset, .unset, .unset] [(.int p4), (.int (0 : Int32)), (.ref b74), (.ref b74)])) (Q0 Z p1 p2 p3 p4 p5 p6 h0 n0) room_1.cells room_1.slots
                exact j142 _ _ X74 e74 N72 p4  (hj.trans (by simp only [own_law_46, if_neg hc50_1, if_neg hc64_32, if_pos hc83_66, if_pos hc134_102]))
              · refine own_pre (A := T74.setTop (mkF m 142 #[.val (.int p1), .val (.int p2), .val (.int p3), .val (.int p4), .val (.int p5), .val (.int p6), .val (.int (p1 &&& (3 : Int32))), .val (.int xa), .val (.int xb), .val (.int xc), .val (.ref b67), .unset, .unset, .unset] [(.int p2), (.int (0 : Int32)), (.ref b74), (.ref b74)])) (fun tt kt => ?_) ?_
                · show Steps p.tables e below (T74.setTop (mkF m 134 #[.val (.int p1), .val (.int p2), .val (.int p3), .val (.int p4), .val (.int p5), .val (.int p6), .val (.int (p1 &&& (3 : Int32))), .val (.int xa), .val (.int xb), .val (.int xc), .val (.ref b67), .unset, .unset, .unset] [(.int (p6 &&& (8 : Int32))), (.int (0 : Int32)), (.ref b74), (.ref b74)])) _
                  refine XS.ifNo X74.here hx rfl (hb hby at_134) rfl ((if0 _ _).trans (feq hc134_102).1) ?_
                  show Steps p.tables e below (T74.setTop (mkF m 137 #[.val (.int p1), .val (.int p2), .val (.int p3), .val (.int p4), .val (.int p5), .val (.int p6), .val (.int (p1 &&& (3 : Int32))), .val (.int xa), .val (.int xb), .val (.int xc), .val (.ref b67), .unset, .unset, .unset] [(.int (0 : Int32)), (.ref b74), (.ref b74)])) _
                  refine XS.iloadN X74.here hx rfl (hb hby at_137) rfl ?_
                  show Steps p.tables e below (T74.setTop (mkF m 138 #[.val (.int p1), .val (.int p2), .val (.int p3), .val (.int p4), .val (.int p5), .val (.int p6), .val (.int (p1 &&& (3 : Int32))), .val (.int xa), .val (.int xb), .val (.int xc), .val (.ref b67), .unset, .unset, .unset] [(.int p2), (.int (0 : Int32)), (.ref b74), (.ref b74)])) _
                  refine XS.goto X74.here hx rfl (pc0 := 138) (pc' := 142) rfl (hb hby at_138) (by decide) (by decide) ?_
                  exact kt
                show own_End p e below s (T74.setTop (mkF m 142 #[.val (.int p1), .val (.int p2), .val (.int p3), .val (.int p4), .val (.int p5), .val (.int p6), .val (.int (p1 &&& (3 : Int32))), .val (.int xa), .val (.int xb), .val (.int xc), .val (.ref b67), .unset, .unset, .unset] [(.int p2), (.int (0 : Int32)), (.ref b74), (.ref b74)])) (Q0 Z p1 p2 p3 p4 p5 p6 h0 n0) room_1.cells room_1.slots
                exact j142 _ _ X74 e74 N72 p2  (hj.trans (by simp only [own_law_46, if_neg hc50_1, if_neg hc64_32, if_pos hc83_66, if_neg hc134_102]))
            · obtain ⟨T103, h103, k103, X103, e103, E103, A103, st103⟩ := newP Xj46 hx hZ (hw _ (List.mem_of_getElem? (i := 0) rfl)) ej46 (g := (mkF m 105 #[.val (.int p1), .val (.int p2), .val (.int p3), .val (.int p4), .val (.int p5), .val (.int p6), .val (.int (p1 &&& (3 : Int32))), .val (.int xa), .val (.int xb), .val (.int xc), .unset, .unset, .unset, .unset] [(.int (3 : Int32))])) rfl (hb hby at_105) rfl (by decide) (cap := 3) (by decide) (by decide) (by decide) (by decide)
              obtain ⟨b103, g103⟩ : ∃ z, z = h0.size := ⟨_, rfl⟩
              rw [← g103] at A103 st103
              have g_b103 : n0 ≤ b103 := Nat.le_trans Z0 (Nat.le_of_eq g103.symm)
              have sz_b103 : h0.size ≤ b103 := Nat.le_trans (show Keep h0 h0 [] from (Keep.refl h0 _)).1 (Nat.le_of_eq g103.symm)
              have K103 : Keep h0 h103 [] := Keep.ext (Keep.refl h0 _) E103
              have Z103 : n0 ≤ h103.size := Nat.le_trans Z0 E103.1
              have V103 : own_Arr Z h103 b103 .int (3 : Int32) (fun i => Value.int ((fun _ => (0 : Int32)) i)) := own_Arr.new A103 (by decide) (fun _ => rfl)
              obtain ⟨cl104, Ar104, S104, Nn104, G104⟩ := id V103
              have hin104 : ¬ ((0 : Int32) < 0 ∨ cl104.slots.size ≤ (0 : Int32).toNatClampNeg) := inb_of S104 (⟨by decide, by decide⟩ : ¬ (0 : Int32) < 0 ∧ (0 : Int32) < (3 : Int32))
              obtain ⟨T105, h105, X105, e105, W105, st105⟩ := stI X103 hx hZ e103 Ar104 (j := (0 : Int32)) hin104 (g := (mkF m 111 #[.val (.int p1), .val (.int p2), .val (.int p3), .val (.int p4), .val (.int p5), .val (.int p6), .val (.int (p1 &&& (3 : Int32))), .val (.int xa), .val (.int xb), .val (.int xc), .unset, .unset, .unset, .unset] [(.int xa), (.int (0 : Int32)), (.ref b103), (.ref b103)])) rfl rfl (hb hby at_111)
              have V105 : own_Arr Z h105 b103 .int (3 : Int32) (fun i => Value.int ((own_law0_g106 p1 p2 p3 p4 p5 p6 xa xb xc) i)) := own_Arr.set (w := Value.int) (g := (fun _ => (0 : Int32))) (x := xa) V103 W105 rfl (fun i => rfl)
              have N105 := Fr.snoc X105 Nj46 g_b103
              have K105 : Keep h0 h105 [] := Keep.wr K103 W105 (Or.inr sz_b103)
              have Z105 : n0 ≤ h105.size := Nat.le_trans Z103 (Nat.le_of_eq W105.size.symm)
              obtain ⟨cl107, Ar107, S107, Nn107, G107⟩ := id V105
              have hin107 : ¬ ((1 : Int32) < 0 ∨ cl107.slots.size ≤ (1 : Int32).toNatClampNeg) := inb_of S107 (⟨by decide, by decide⟩ : ¬ (1 : Int32) < 0 ∧ (1 : Int32) < (3 : Int32))
              obtain ⟨T108, h108, X108, e108, W108, st108⟩ := stI X105 hx hZ e105 Ar107 (j := (1 : Int32)) hin107 (g := (mkF m 116 #[.val (.int p1), .val (.int p2), .val (.int p3), .val (.int p4), .val (.int p5), .val (.int p6), .val (.int (p1 &&& (3 : Int32))), .val (.int xa), .val (.int xb), .val (.int xc), .unset, .unset, .unset, .unset] [(.int xb), (.int (1 : Int32)), (.ref b103), (.ref b103)])) rfl rfl (hb hby at_116)
              have V108 : own_Arr Z h108 b103 .int (3 : Int32) (fun i => Value.int ((own_law0_g109 p1 p2 p3 p4 p5 p6 xa xb xc) i)) := own_Arr.set (w := Value.int) (g := (own_law0_g106 p1 p2 p3 p4 p5 p6 xa xb xc)) (x := xb) V105 W108 rfl (fun i => rfl)
              have N108 := Fr.snoc X108 N105 g_b103
              have K108 : Keep h0 h108 [] := Keep.wr K105 W108 (Or.inr sz_b103)
              have Z108 : n0 ≤ h108.size := Nat.le_trans Z105 (Nat.le_of_eq W108.size.symm)
              obtain ⟨cl110, Ar110, S110, Nn110, G110⟩ := id V108
              have hin110 : ¬ ((2 : Int32) < 0 ∨ cl110.slots.size ≤ (2 : Int32).toNatClampNeg) := inb_of S110 (⟨by decide, by decide⟩ : ¬ (2 : Int32) < 0 ∧ (2 : Int32) < (3 : Int32))
              obtain ⟨T111, h111, X111, e111, W111, st111⟩ := stI X108 hx hZ e108 Ar110 (j := (2 : Int32)) hin110 (g := (mkF m 121 #[.val (.int p1), .val (.int p2), .val (.int p3), .val (.int p4), .val (.int p5), .val (.int p6), .val (.int (p1 &&& (3 : Int32))), .val (.int xa), .val (.int xb), .val (.int xc), .unset, .unset, .unset, .unset] [(.int xc), (.int (2 : Int32)), (.ref b103), (.ref b103)])) rfl rfl (hb hby at_121)
              have V111 : own_Arr Z h111 b103 .int (3 : Int32) (fun i => Value.int ((own_law0_g112 p1 p2 p3 p4 p5 p6 xa xb xc) i)) := own_Arr.set (w := Value.int) (g := (own_law0_g109 p1 p2 p3 p4 p5 p6 xa xb xc)) (x := xc) V108 W111 rfl (fun i => rfl)
              have N111 := Fr.snoc X111 N108 g_b103
              have K111 : Keep h0 h111 [] := Keep.wr K108 W111 (Or.inr sz_b103)
              have Z111 : n0 ≤ h111.size := Nat.le_trans Z108 (Nat.le_of_eq W111.size.symm)
              obtain ⟨T113, h113, k113, X113, e113, E113, A113, st113⟩ := newP X111 hx hZ (hw _ (List.mem_of_getElem? (i := 0) rfl)) e111 (g := (mkF m 125 #[.val (.int p1), .val (.int p2), .val (.int p3), .val (.int p4), .val (.int p5), .val (.int p6), .val (.int (p1 &&& (3 : Int32))), .val (.int xa), .val (.int xb), .val (.int xc), .val (.ref b103), .unset, .unset, .unset] [(.int (1 : Int32))])) rfl (hb hby at_125) rfl (by decide) (cap := 1) (by decide) (by decide) (by decide) (by decide)
              obtain ⟨b113, g113⟩ : ∃ z, z = h111.size := ⟨_, rfl⟩
              rw [← g113] at A113 st113
              have ne_b103_b113 : b103 ≠ b113 := Nat.ne_of_lt (Nat.lt_of_lt_of_le V111.lt (Nat.le_of_eq g113.symm))
              have g_b113 : n0 ≤ b113 := Nat.le_trans Z111 (Nat.le_of_eq g113.symm)
              have sz_b113 : h0.size ≤ b113 := Nat.le_trans (show Keep h0 h111 [] from K111).1 (Nat.le_of_eq g113.symm)
              have fA_b103_x113 := (V111.ext E113)
              have K113 : Keep h0 h113 [] := Keep.ext K111 E113
              have Z113 : n0 ≤ h113.size := Nat.le_trans Z111 E113.1
              have V113 : own_Arr Z h113 b113 .int (1 : Int32) (fun i => Value.int ((fun _ => (0 : Int32)) i)) := own_Arr.new A113 (by decide) (fun _ => rfl)
              refine own_pre (A := T113.setTop (mkF m 134 #[.val (.int p1), .val (.int p2), .val (.int p3), .val (.int p4), .val (.int p5), .val (.int p6), .val (.int (p1 &&& (3 : Int32))), .val (.int xa), .val (.int xb), .val (.int xc), .val (.ref b103), .unset, .unset, .unset] [(.int (p6 &&& (8 : Int32))), (.int (0 : Int32)), (.ref b113), (.ref b113)])) (fun tt kt => ?_) ?_
              · show Steps p.tables e below (Tj46.setTop (mkF m 83 #[.val (.int p1), .val (.int p2), .val (.int p3), .val (.int p4), .val (.int p5), .val (.int p6), .val (.int (p1 &&& (3 : Int32))), .val (.int xa), .val (.int xb), .val (.int xc), .unset, .unset, .unset, .unset] [(.int (2 : Int32)), (.int (p1 &&& (3 : Int32)))])) _
                refine XS.icmpYes Xj46.here hx rfl (pc0 := 83) (pc' := 104) rfl (hb hby at_83) rfl (feq hc83_66).2 (by decide) (by decide) ?_
                show Steps p.tables e below (Tj46.setTop (mkF m 104 #[.val (.int p1), .val (.int p2), .val (.int p3), .val (.int p4), .val (.int p5), .val (.int p6), .val (.int (p1 &&& (3 : Int32))), .val (.int xa), .val (.int xb), .val (.int xc), .unset, .unset, .unset, .unset] [])) _
                refine XS.iconst Xj46.here hx rfl (hb hby at_104) ?_
                show Steps p.tables e below (Tj46.setTop (mkF m 105 #[.val (.int p1), .val (.int p2), .val (.int p3), .val (.int p4), .val (.int p5), .val (.int p6), .val (.int (p1 &&& (3 : Int32))), .val (.int xa), .val (.int xb), .val (.int xc), .unset, .unset, .unset, .unset] [(.int (3 : Int32))])) _
                refine st103 _ ?_
                show Steps p.tables e below (T103.setTop (mkF m 107 #[.val (.int p1), .val (.int p2), .val (.int p3), .val (.int p4), .val (.int p5), .val (.int p6), .val (.int (p1 &&& (3 : Int32))), .val (.int xa), .val (.int xb), .val (.int xc), .unset, .unset, .unset, .unset] [(.ref b103)])) _
                refine XS.dup X103.here hx rfl (hb hby at_107) rfl rfl ?_
                show Steps p.tables e below (T103.setTop (mkF m 108 #[.val (.int p1), .val (.int p2), .val (.int p3), .val (.int p4), .val (.int p5), .val (.int p6), .val (.int (p1 &&& (3 : Int32))), .val (.int xa), .val (.int xb), .val (.int xc), .unset, .unset, .unset, .unset] [(.ref b103), (.ref b103)])) _
                refine XS.iconst X103.here hx rfl (hb hby at_108) ?_
                show Steps p.tables e below (T103.setTop (mkF m 109 #[.val (.int p1), .val (.int p2), .val (.int p3), .val (.int p4), .val (.int p5), .val (.int p6), .val (.int (p1 &&& (3 : Int32))), .val (.int xa), .val (.int xb), .val (.int xc), .unset, .unset, .unset, .unset] [(.int (0 : Int32)), (.ref b103), (.ref b103)])) _
                refine XS.iload X103.here hx rfl (hb hby at_109) rfl ?_
                show Steps p.tables e below (T103.setTop (mkF m 111 #[.val (.int p1), .val (.int p2), .val (.int p3), .val (.int p4), .val (.int p5), .val (.int p6), .val (.int (p1 &&& (3 : Int32))), .val (.int xa), .val (.int xb), .val (.int xc), .unset, .unset, .unset, .unset] [(.int xa), (.int (0 : Int32)), (.ref b103), (.ref b103)])) _
                refine st105 _ ?_
                show Steps p.tables e below (T105.setTop (mkF m 112 #[.val (.int p1), .val (.int p2), .val (.int p3), .val (.int p4), .val (.int p5), .val (.int p6), .val (.int (p1 &&& (3 : Int32))), .val (.int xa), .val (.int xb), .val (.int xc), .unset, .unset, .unset, .unset] [(.ref b103)])) _
                refine XS.dup X105.here hx rfl (hb hby at_112) rfl rfl ?_
                show Steps p.tables e below (T105.setTop (mkF m 113 #[.val (.int p1), .val (.int p2), .val (.int p3), .val (.int p4), .val (.int p5), .val (.int p6), .val (.int (p1 &&& (3 : Int32))), .val (.int xa), .val (.int xb), .val (.int xc), .unset, .unset, .unset, .unset] [(.ref b103), (.ref b103)])) _
                refine XS.iconst X105.here hx rfl (hb hby at_113) ?_
                show Steps p.tables e below (T105.setTop (mkF m 114 #[.val (.int p1), .val (.int p2), .val (.int p3), .val (.int p4), .val (.int p5), .val (.int p6), .val (.int (p1 &&& (3 : Int32))), .val (.int xa), .val (.int xb), .val (.int xc), .unset, .unset, .unset, .unset] [(.int (1 : Int32)), (.ref b103), (.ref b103)])) _
                refine XS.iload X105.here hx rfl (hb hby at_114) rfl ?_
                show Steps p.tables e below (T105.setTop (mkF m 116 #[.val (.int p1), .val (.int p2), .val (.int p3), .val (.int p4), .val (.int p5), .val (.int p6), .val (.int (p1 &&& (3 : Int32))), .val (.int xa), .val (.int xb), .val (.int xc), .unset, .unset, .unset, .unset] [(.int xb), (.int (1 : Int32)), (.ref b103), (.ref b103)])) _
                refine st108 _ ?_
                show Steps p.tables e below (T108.setTop (mkF m 117 #[.val (.int p1), .val (.int p2), .val (.int p3), .val (.int p4), .val (.int p5), .val (.int p6), .val (.int (p1 &&& (3 : Int32))), .val (.int xa), .val (.int xb), .val (.int xc), .unset, .unset, .unset, .unset] [(.ref b103)])) _
                refine XS.dup X108.here hx rfl (hb hby at_117) rfl rfl ?_
                show Steps p.tables e below (T108.setTop (mkF m 118 #[.val (.int p1), .val (.int p2), .val (.int p3), .val (.int p4), .val (.int p5), .val (.int p6), .val (.int (p1 &&& (3 : Int32))), .val (.int xa), .val (.int xb), .val (.int xc), .unset, .unset, .unset, .unset] [(.ref b103), (.ref b103)])) _
                refine XS.iconst X108.here hx rfl (hb hby at_118) ?_
                show Steps p.tables e below (T108.setTop (mkF m 119 #[.val (.int p1), .val (.int p2), .val (.int p3), .val (.int p4), .val (.int p5), .val (.int p6), .val (.int (p1 &&& (3 : Int32))), .val (.int xa), .val (.int xb), .val (.int xc), .unset, .unset, .unset, .unset] [(.int (2 : Int32)), (.ref b103), (.ref b103)])) _
                refine XS.iload X108.here hx rfl (hb hby at_119) rfl ?_
                show Steps p.tables e below (T108.setTop (mkF m 121 #[.val (.int p1), .val (.int p2), .val (.int p3), .val (.int p4), .val (.int p5), .val (.int p6), .val (.int (p1 &&& (3 : Int32))), .val (.int xa), .val (.int xb), .val (.int xc), .unset, .unset, .unset, .unset] [(.int xc), (.int (2 : Int32)), (.ref b103), (.ref b103)])) _
                refine st111 _ ?_
                show Steps p.tables e below (T111.setTop (mkF m 122 #[.val (.int p1), .val (.int p2), .val (.int p3), .val (.int p4), .val (.int p5), .val (.int p6), .val (.int (p1 &&& (3 : Int32))), .val (.int xa), .val (.int xb), .val (.int xc), .unset, .unset, .unset, .unset] [(.ref b103)])) _
                refine XS.astore X111.here hx rfl (hb hby at_122) rfl rfl (l' := #[.val (.int p1), .val (.int p2), .val (.int p3), .val (.int p4), .val (.int p5), .val (.int p6), .val (.int (p1 &&& (3 : Int32))), .val (.int xa), .val (.int xb), .val (.int xc), .val (.ref b103), .unset, .unset, .unset]) rfl ?_
                show Steps p.tables e below (T111.setTop (mkF m 124 #[.val (.int p1), .val (.int p2), .val (.int p3), .val (.int p4), .val (.int p5), .val (.int p6), .val (.int (p1 &&& (3 : Int32))), .val (.int xa), .val (.int xb), .val (.int xc), .val (.ref b103), .unset, .unset, .unset] [])) _
                refine XS.iconst X111.here hx rfl (hb hby at_124) ?_
                show Steps p.tables e below (T111.setTop (mkF m 125 #[.val (.int p1), .val (.int p2), .val (.int p3), .val (.int p4), .val (.int p5), .val (.int p6), .val (.int (p1 &&& (3 : Int32))), .val (.int xa), .val (.int xb), .val (.int xc), .val (.ref b103), .unset, .unset, .unset] [(.int (1 : Int32))])) _
                refine st113 _ ?_
                show Steps p.tables e below (T113.setTop (mkF m 127 #[.val (.int p1), .val (.int p2), .val (.int p3), .val (.int p4), .val (.int p5), .val (.int p6), .val (.int (p1 &&& (3 : Int32))), .val (.int xa), .val (.int xb), .val (.int xc), .val (.ref b103), .unset, .unset, .unset] [(.ref b113)])) _
                refine XS.dup X113.here hx rfl (hb hby at_127) rfl rfl ?_
                show Steps p.tables e below (T113.setTop (mkF m 128 #[.val (.int p1), .val (.int p2), .val (.int p3), .val (.int p4), .val (.int p5), .val (.int p6), .val (.int (p1 &&& (3 : Int32))), .val (.int xa), .val (.int xb), .val (.int xc), .val (.ref b103), .unset, .unset, .unset] [(.ref b113), (.ref b113)])) _
                refine XS.iconst X113.here hx rfl (hb hby at_128) ?_
                show Steps p.tables e below (T113.setTop (mkF m 129 #[.val (.int p1), .val (.int p2), .val (.int p3), .val (.int p4), .val (.int p5), .val (.int p6), .val (.int (p1 &&& (3 : Int32))), .val (.int xa), .val (.int xb), .val (.int xc), .val (.ref b103), .unset, .unset, .unset] [(.int (0 : Int32)), (.ref b113), (.ref b113)])) _
                refine XS.iload X113.here hx rfl (hb hby at_129) rfl ?_
                show Steps p.tables e below (T113.setTop (mkF m 131 #[.val (.int p1), .val (.int p2), .val (.int p3), .val (.int p4), .val (.int p5), .val (.int p6), .val (.int (p1 &&& (3 : Int32))), .val (.int xa), .val (.int xb), .val (.int xc), .val (.ref b103), .unset, .unset, .unset] [(.int p6), (.int (0 : Int32)), (.ref b113), (.ref b113)])) _
                refine XS.bipush X113.here hx rfl (hb hby at_131) ?_
                show Steps p.tables e below (T113.setTop (mkF m 133 #[.val (.int p1), .val (.int p2), .val (.int p3), .val (.int p4), .val (.int p5), .val (.int p6), .val (.int (p1 &&& (3 : Int32))), .val (.int xa), .val (.int xb), .val (.int xc), .val (.ref b103), .unset, .unset, .unset] [(.int (8 : Int32)), (.int p6), (.int (0 : Int32)), (.ref b113), (.ref b113)])) _
                refine XS.iand X113.here hx rfl (hb hby at_133) rfl ?_
                exact kt
              show own_End p e below s (T113.setTop (mkF m 134 #[.val (.int p1), .val (.int p2), .val (.int p3), .val (.int p4), .val (.int p5), .val (.int p6), .val (.int (p1 &&& (3 : Int32))), .val (.int xa), .val (.int xb), .val (.int xc), .val (.ref b103), .unset, .unset, .unset] [(.int (p6 &&& (8 : Int32))), (.int (0 : Int32)), (.ref b113), (.ref b113)])) (Q0 Z p1 p2 p3 p4 p5 p6 h0 n0) room_1.cells room_1.slots
              have j142 : ∀ (Tj142 : State) (Lj142 : List Loc) (Xj142 : Stand p l e room_1 s m #[(.int p1), (.int p2), (.int p3), (.int p4), (.int p5), (.int p6)] below meth c Tj142 Lj142 2 4) (ej142 : Tj142.heap = h113) (Nj142 : Fr n0 Lj142) (wv : Int32) , own_law p1 p2 p3 p4 p5 p6 = own_law_142bbb p1 p2 p3 p4 p5 p6 xa xb xc wv → own_End p e below s (Tj142.setTop (mkF m 142 #[.val (.int p1), .val (.int p2), .val (.int p3), .val (.int p4), .val (.int p5), .val (.int p6), .val (.int (p1 &&& (3 : Int32))), .val (.int xa), .val (.int xb), .val (.int xc), .val (.ref b103), .unset, .unset, .unset] [(.int wv), (.int (0 : Int32)), (.ref b113), (.ref b113)])) (Q0 Z p1 p2 p3 p4 p5 p6 h0 n0) room_1.cells room_1.slots := by
                intro Tj142 Lj142 Xj142 ej142 Nj142 wv  hj
                obtain ⟨cl114, Ar114, S114, Nn114, G114⟩ := id V113
                have hin114 : ¬ ((0 : Int32) < 0 ∨ cl114.slots.size ≤ (0 : Int32).toNatClampNeg) := inb_of S114 (⟨by decide, by decide⟩ : ¬ (0 : Int32) < 0 ∧ (0 : Int32) < (1 : Int32))
                obtain ⟨T115, h115, X115, e115, W115, st115⟩ := stI Xj142 hx hZ ej142 Ar114 (j := (0 : Int32)) hin114 (g := (mkF m 142 #[.val (.int p1), .val (.int p2), .val (.int p3), .val (.int p4), .val (.int p5), .val (.int p6), .val (.int (p1 &&& (3 : Int32))), .val (.int xa), .val (.int xb), .val (.int xc), .val (.ref b103), .unset, .unset, .unset] [(.int wv), (.int (0 : Int32)), (.ref b113), (.ref b113)])) rfl rfl (hb hby at_142)
                have fA_b103_x115 := (fA_b103_x113.other W115 ne_b103_b113)
                have V115 : own_Arr Z h115 b113 .int (1 : Int32) (fun i => Value.int ((own_law0_g116 p1 p2 p3 p4 p5 p6 xa xb xc wv) i)) := own_Arr.set (w := Value.int) (g := (fun _ => (0 : Int32))) (x := wv) V113 W115 rfl (fun i => rfl)
                have N115 := Fr.snoc X115 Nj142 g_b113
                have K115 : Keep h0 h115 [] := Keep.wr K113 W115 (Or.inr sz_b113)
                have Z115 : n0 ≤ h115.size := Nat.le_trans Z113 (Nat.le_of_eq W115.size.symm)
                obtain ⟨T117, h117, X117, e117, E117, A117, D117, -, st117⟩ := newO X115 hx hZ hown (hw _ (List.mem_of_getElem? (i := 1) rfl)) (hw _ (List.mem_of_getElem? (i := 2) rfl)) (hw _ (List.mem_of_getElem? (i := 3) rfl)) e115 (g := (mkF m 145 #[.val (.int p1), .val (.int p2), .val (.int p3), .val (.int p4), .val (.int p5), .val (.int p6), .val (.int (p1 &&& (3 : Int32))), .val (.int xa), .val (.int xb), .val (.int xc), .val (.ref b103), .val (.ref b113), .unset, .unset] [])) rfl (hb hby at_145) (by decide) (by decide)
                obtain ⟨b117, g117⟩ : ∃ z, z = h115.size := ⟨_, rfl⟩
                rw [← g117] at A117 D117 st117
                have ne_b113_b117 : b113 ≠ b117 := Nat.ne_of_lt (Nat.lt_of_lt_of_le V115.lt (Nat.le_of_eq g117.symm))
                have ne_b103_b117 : b103 ≠ b117 := Nat.ne_of_lt (Nat.lt_of_lt_of_le fA_b103_x115.lt (Nat.le_of_eq g117.symm))
                have g_b117 : n0 ≤ b117 := Nat.le_trans Z115 (Nat.le_of_eq g117.symm)
                have sz_b117 : h0.size ≤ b117 := Nat.le_trans (show Keep h0 h115 [] from K115).1 (Nat.le_of_eq g117.symm)
                have fA_b103_x117 := (fA_b103_x115.ext E117)
                have fA_b113_x117 := (V115.ext E117)
                have K117 : Keep h0 h117 [] := Keep.ext K115 E117
                have Z117 : n0 ≤ h117.size := Nat.le_trans Z115 E117.1
                have F_winning_b117 : Fld Z h117 b117 "com/example/scratchline/scratchline/game/Face" "winning" "[I" .null := D117 (Or.inr (hw _ (List.mem_of_getElem? (i := 12) rfl))) (ty := (.array .int)) (by decide)
                have F_bonus_b117 : Fld Z h117 b117 "com/example/scratchline/scratchline/game/Face" "bonus" "I" (.int (0 : Int32)) := D117 (Or.inr (hw _ (List.mem_of_getElem? (i := 14) rfl))) (ty := .int) (by decide)
                have F_spots_b117 : Fld Z h117 b117 "com/example/scratchline/scratchline/game/Face" "spots" "[I" .null := D117 (Or.inr (hw _ (List.mem_of_getElem? (i := 16) rfl))) (ty := (.array .int)) (by decide)
                have F_prizes_b117 : Fld Z h117 b117 "com/example/scratchline/scratchline/game/Face" "prizes" "[J" .null := D117 (Or.inr (hw _ (List.mem_of_getElem? (i := 18) rfl))) (ty := (.array .long)) (by decide)
                obtain ⟨T118, h118, k118, X118, e118, E118, A118, st118⟩ := newP X117 hx hZ (hw _ (List.mem_of_getElem? (i := 4) rfl)) e117 (g := (mkF m 155 #[.val (.int p1), .val (.int p2), .val (.int p3), .val (.int p4), .val (.int p5), .val (.int p6), .val (.int (p1 &&& (3 : Int32))), .val (.int xa), .val (.int xb), .val (.int xc), .val (.ref b103), .val (.ref b113), .unset, .unset] [(.int (0 : Int32)), (.ref b103), (.int p2), (.ref b113), (.ref b117), (.ref b117)])) rfl (hb hby at_155) rfl (by decide) (cap := 0) (by decide) (by decide) (by decide) (by decide)
                obtain ⟨b118, g118⟩ : ∃ z, z = h117.size := ⟨_, rfl⟩
                rw [← g118] at A118 st118
                have ne_b117_b118 : b117 ≠ b118 := Nat.ne_of_lt (Nat.lt_of_lt_of_le A117.lt (Nat.le_of_eq g118.symm))
                have ne_b113_b118 : b113 ≠ b118 := Nat.ne_of_lt (Nat.lt_of_lt_of_le fA_b113_x117.lt (Nat.le_of_eq g118.symm))
                have ne_b103_b118 : b103 ≠ b118 := Nat.ne_of_lt (Nat.lt_of_lt_of_le fA_b103_x117.lt (Nat.le_of_eq g118.symm))
                have g_b118 : n0 ≤ b118 := Nat.le_trans Z117 (Nat.le_of_eq g118.symm)
                have sz_b118 : h0.size ≤ b118 := Nat.le_trans (show Keep h0 h117 [] from K117).1 (Nat.le_of_eq g118.symm)
                have fA_b103_x118 := (fA_b103_x117.ext E118)
                have fA_b113_x118 := (fA_b113_x117.ext E118)
                have fE_b117_x118 := (A117.ext E118)
                have fF_b117_winning_x118 := (F_winning_b117.ext E118)
                have fF_b117_bonus_x118 := (F_bonus_b117.ext E118)
                have fF_b117_spots_x118 := (F_spots_b117.ext E118)
                have fF_b117_prizes_x118 := (F_prizes_b117.ext E118)
                have K118 : Keep h0 h118 [] := Keep.ext K117 E118
                have Z118 : n0 ≤ h118.size := Nat.le_trans Z117 E118.1
                have V118 : own_Arr Z h118 b118 .long (0 : Int32) (fun i => Value.long ((fun _ => (0 : Int64)) i)) := own_Arr.new A118 (by decide) (fun _ => rfl)
                obtain ⟨_, _, ⟨T119, L119, k119, n119⟩, -, X119, ⟨Lc119, hQ119, l119, y119, z119⟩, st119⟩ := X118.specialBack hx (y := (⟨"com/example/scratchline/scratchline/game/Face", "<init>", "([II[I[J)V"⟩ : MethodName)) rfl hown (mvT hZ (hw _ (List.mem_of_getElem? (i := 5) rfl))) (mvT hZ (hw _ (List.mem_of_getElem? (i := 6) rfl))) (mvT hZ (hw _ (List.mem_of_getElem? (i := 7) rfl))) (by decide) (backOf (W := 1) (rm1 l Z a0 hw [] b117 b113 p2 b103 b118 (0 : Int32) h118 n0 Z118 ⟨fE_b117_x118, fF_b117_winning_x118, fF_b117_bonus_x118, fF_b117_spots_x118, fF_b117_prizes_x118⟩ g_b117) hZ (hw _ (List.mem_of_getElem? (i := 7) rfl)) (hw _ (List.mem_of_getElem? (i := 3) rfl)) (by decide) (by decide)) (g := (mkF m 157 #[.val (.int p1), .val (.int p2), .val (.int p3), .val (.int p4), .val (.int p5), .val (.int p6), .val (.int (p1 &&& (3 : Int32))), .val (.int xa), .val (.int xb), .val (.int xc), .val (.ref b103), .val (.ref b113), .unset, .unset] [(.ref b118), (.ref b103), (.int p2), (.ref b113), (.ref b117), (.ref b117)])) rfl (by rw [hml]; rfl) (Steps.refl _) (a := b117) (argsL := [(.ref b113), (.int p2), (.ref b103), (.ref b118)]) (rest := [(.ref b117)]) (lenOf pd_0_0 rfl) rfl (by show 2 * 0 + _ ≤ _; exact Nat.le_of_eq rfl) (hb hby at_157) (fun _ _ => ⟨rfl, e118, (by decide : 4 + 0 ≤ _), (by decide : 8 + 0 ≤ _)⟩)
                dsimp only [Pt.U, Pt.locs, Pt.cells, Pt.slots] at X119 l119 y119 z119 st119 hQ119
                subst l119 y119 z119
                obtain ⟨rfl, N119q, Kq119, O119_0⟩ := hQ119
                have N119 := Fr.app N115 N119q
                have fA_b103_x119 := (fA_b103_x118.keep Kq119 (ninS ne_b103_b117 nin0))
                have fA_b113_x119 := (fA_b113_x118.keep Kq119 (ninS ne_b113_b117 nin0))
                have fE_b117_x119 := (fE_b117_x118.keep Kq119)
                have fA_b118_x119 := (V118.keep Kq119 (ninS (Ne.symm ne_b117_b118) nin0))
                have K119 : Keep h0 T119.heap [] := Keep.trans K118 Kq119 (allS (Or.inr sz_b117) all0)
                have Z119 : n0 ≤ T119.heap.size := Nat.le_trans Z118 Kq119.1
                obtain ⟨E_b117_120, F_winning_b117_121, F_bonus_b117_122, F_spots_b117_123, F_prizes_b117_124⟩ := O119_0
                refine own_pre (A := T119.setTop (mkF m 165 #[.val (.int p1), .val (.int p2), .val (.int p3), .val (.int p4), .val (.int p5), .val (.int p6), .val (.int (p1 &&& (3 : Int32))), .val (.int xa), .val (.int xb), .val (.int xc), .val (.ref b103), .val (.ref b113), .val (.ref b117), .unset] [(.int (1 : Int32)), (.int (p1 &&& (3 : Int32)))])) (fun tt kt => ?_) ?_
                · show Steps p.tables e below (Tj142.setTop (mkF m 142 #[.val (.int p1), .val (.int p2), .val (.int p3), .val (.int p4), .val (.int p5), .val (.int p6), .val (.int (p1 &&& (3 : Int32))), .val (.int xa), .val (.int xb), .val (.int xc), .val (.ref b103), .unset, .unset, .unset] [(.int wv), (.int (0 : Int32)), (.ref b113), (.ref b113)])) _
                  refine st115 _ ?_
                  show Steps p.tables e below (T115.setTop (mkF m 143 #[.val (.int p1), .val (.int p2), .val (.int p3), .val (.int p4), .val (.int p5), .val (.int p6), .val (.int (p1 &&& (3 : Int32))), .val (.int xa), .val (.int xb), .val (.int xc), .val (.ref b103), .unset, .unset, .unset] [(.ref b113)])) _
                  refine XS.astore X115.here hx rfl (hb hby at_143) rfl rfl (l' := #[.val (.int p1), .val (.int p2), .val (.int p3), .val (.int p4), .val (.int p5), .val (.int p6), .val (.int (p1 &&& (3 : Int32))), .val (.int xa), .val (.int xb), .val (.int xc), .val (.ref b103), .val (.ref b113), .unset, .unset]) rfl ?_
                  show Steps p.tables e below (T115.setTop (mkF m 145 #[.val (.int p1), .val (.int p2), .val (.int p3), .val (.int p4), .val (.int p5), .val (.int p6), .val (.int (p1 &&& (3 : Int32))), .val (.int xa), .val (.int xb), .val (.int xc), .val (.ref b103), .val (.ref b113), .unset, .unset] [])) _
                  refine st117 _ ?_
                  show Steps p.tables e below (T117.setTop (mkF m 148 #[.val (.int p1), .val (.int p2), .val (.int p3), .val (.int p4), .val (.int p5), .val (.int p6), .val (.int (p1 &&& (3 : Int32))), .val (.int xa), .val (.int xb), .val (.int xc), .val (.ref b103), .val (.ref b113), .unset, .unset] [(.ref b117)])) _
                  refine XS.dup X117.here hx rfl (hb hby at_148) rfl rfl ?_
                  show Steps p.tables e below (T117.setTop (mkF m 149 #[.val (.int p1), .val (.int p2), .val (.int p3), .val (.int p4), .val (.int p5), .val (.int p6), .val (.int (p1 &&& (3 : Int32))), .val (.int xa), .val (.int xb), .val (.int xc), .val (.ref b103), .val (.ref b113), .unset, .unset] [(.ref b117), (.ref b117)])) _
                  refine XS.aload X117.here hx rfl (hb hby at_149) rfl rfl ?_
                  show Steps p.tables e below (T117.setTop (mkF m 151 #[.val (.int p1), .val (.int p2), .val (.int p3), .val (.int p4), .val (.int p5), .val (.int p6), .val (.int (p1 &&& (3 : Int32))), .val (.int xa), .val (.int xb), .val (.int xc), .val (.ref b103), .val (.ref b113), .unset, .unset] [(.ref b113), (.ref b117), (.ref b117)])) _
                  refine XS.iloadN X117.here hx rfl (hb hby at_151) rfl ?_
                  show Steps p.tables e below (T117.setTop (mkF m 152 #[.val (.int p1), .val (.int p2), .val (.int p3), .val (.int p4), .val (.int p5), .val (.int p6), .val (.int (p1 &&& (3 : Int32))), .val (.int xa), .val (.int xb), .val (.int xc), .val (.ref b103), .val (.ref b113), .unset, .unset] [(.int p2), (.ref b113), (.ref b117), (.ref b117)])) _
                  refine XS.aload X117.here hx rfl (hb hby at_152) rfl rfl ?_
                  show Steps p.tables e below (T117.setTop (mkF m 154 #[.val (.int p1), .val (.int p2), .val (.int p3), .val (.int p4), .val (.int p5), .val (.int p6), .val (.int (p1 &&& (3 : Int32))), .val (.int xa), .val (.int xb), .val (.int xc), .val (.ref b103), .val (.ref b113), .unset, .unset] [(.ref b103), (.int p2), (.ref b113), (.ref b117), (.ref b117)])) _
                  refine XS.iconst X117.here hx rfl (hb hby at_154) ?_
                  show Steps p.tables e below (T117.setTop (mkF m 155 #[.val (.int p1), .val (.int p2), .val (.int p3), .val (.int p4), .val (.int p5), .val (.int p6), .val (.int (p1 &&& (3 : Int32))), .val (.int xa), .val (.int xb), .val (.int xc), .val (.ref b103), .val (.ref b113), .unset, .unset] [(.int (0 : Int32)), (.ref b103), (.int p2), (.ref b113), (.ref b117), (.ref b117)])) _
                  refine st118 _ ?_
                  show Steps p.tables e below (T118.setTop (mkF m 157 #[.val (.int p1), .val (.int p2), .val (.int p3), .val (.int p4), .val (.int p5), .val (.int p6), .val (.int (p1 &&& (3 : Int32))), .val (.int xa), .val (.int xb), .val (.int xc), .val (.ref b103), .val (.ref b113), .unset, .unset] [(.ref b118), (.ref b103), (.int p2), (.ref b113), (.ref b117), (.ref b117)])) _
                  refine st119.trans ?_
                  show Steps p.tables e below (T119.setTop (mkF m 160 #[.val (.int p1), .val (.int p2), .val (.int p3), .val (.int p4), .val (.int p5), .val (.int p6), .val (.int (p1 &&& (3 : Int32))), .val (.int xa), .val (.int xb), .val (.int xc), .val (.ref b103), .val (.ref b113), .unset, .unset] [(.ref b117)])) _
                  refine XS.astore X119.here hx rfl (hb hby at_160) rfl rfl (l' := #[.val (.int p1), .val (.int p2), .val (.int p3), .val (.int p4), .val (.int p5), .val (.int p6), .val (.int (p1 &&& (3 : Int32))), .val (.int xa), .val (.int xb), .val (.int xc), .val (.ref b103), .val (.ref b113), .val (.ref b117), .unset]) rfl ?_
                  show Steps p.tables e below (T119.setTop (mkF m 162 #[.val (.int p1), .val (.int p2), .val (.int p3), .val (.int p4), .val (.int p5), .val (.int p6), .val (.int (p1 &&& (3 : Int32))), .val (.int xa), .val (.int xb), .val (.int xc), .val (.ref b103), .val (.ref b113), .val (.ref b117), .unset] [])) _
                  refine XS.iload X119.here hx rfl (hb hby at_162) rfl ?_
                  show Steps p.tables e below (T119.setTop (mkF m 164 #[.val (.int p1), .val (.int p2), .val (.int p3), .val (.int p4), .val (.int p5), .val (.int p6), .val (.int (p1 &&& (3 : Int32))), .val (.int xa), .val (.int xb), .val (.int xc), .val (.ref b103), .val (.ref b113), .val (.ref b117), .unset] [(.int (p1 &&& (3 : Int32)))])) _
                  refine XS.iconst X119.here hx rfl (hb hby at_164) ?_
                  exact kt
                show own_End p e below s (T119.setTop (mkF m 165 #[.val (.int p1), .val (.int p2), .val (.int p3), .val (.int p4), .val (.int p5), .val (.int p6), .val (.int (p1 &&& (3 : Int32))), .val (.int xa), .val (.int xb), .val (.int xc), .val (.ref b103), .val (.ref b113), .val (.ref b117), .unset] [(.int (1 : Int32)), (.int (p1 &&& (3 : Int32)))])) (Q0 Z p1 p2 p3 p4 p5 p6 h0 n0) room_1.cells room_1.slots
                have j203 : ∀ (Tj203 : State) (Lj203 : List Loc) (Xj203 : Stand p l e room_1 s m #[(.int p1), (.int p2), (.int p3), (.int p4), (.int p5), (.int p6)] below meth c Tj203 Lj203 4 8) (ej203 : Tj203.heap = T119.heap) (Nj203 : Fr n0 Lj203) (ex : Int32) , own_law p1 p2 p3 p4 p5 p6 = own_law_203bbb p1 p2 p3 p4 p5 p6 xa xb xc wv ex → own_End p e below s (Tj203.setTop (mkF m 203 #[.val (.int p1), .val (.int p2), .val (.int p3), .val (.int p4), .val (.int p5), .val (.int p6), .val (.int (p1 &&& (3 : Int32))), .val (.int xa), .val (.int xb), .val (.int xc), .val (.ref b103), .val (.ref b113), .val (.ref b117), .unset] [(.int ex)])) (Q0 Z p1 p2 p3 p4 p5 p6 h0 n0) room_1.cells room_1.slots := by
                  intro Tj203 Lj203 Xj203 ej203 Nj203 ex  hj
                  obtain ⟨cq125, kq125, q125a, q125b, q125c⟩ := isOf hZ ej203 E_b117_120
                  obtain ⟨_, _, ⟨T125, L125, k125, n125⟩, -, X125, ⟨Lc125, hQ125, l125, y125, z125⟩, st125⟩ := Xj203.virtualBack hx (y := (⟨"com/example/scratchline/scratchline/game/Face", "showsBonus", "()Z"⟩ : MethodName)) (z := (⟨"com/example/scratchline/scratchline/game/Face", "showsBonus", "()Z"⟩ : MethodName)) hown (mvT hZ (hw _ (List.mem_of_getElem? (i := 19) rfl))) (mvT hZ (hw _ (List.mem_of_getElem? (i := 20) rfl))) (notFace_of_selects (args := #[]) (mvT hZ (hw _ (List.mem_of_getElem? (i := 22) rfl)))) (mvT hZ (hw _ (List.mem_of_getElem? (i := 22) rfl))) (mvT hZ (hw _ (List.mem_of_getElem? (i := 21) rfl))) (by decide) (backOf (W := 0) (rm3 l Z a0 hw [] b117 b113 p2 b103 b118 (own_law0_g112 p1 p2 p3 p4 p5 p6 xa xb xc) (3 : Int32) T119.heap n0 Z119 ⟨E_b117_120, F_winning_b117_121, F_bonus_b117_122, F_spots_b117_123, F_prizes_b117_124⟩ fA_b103_x119) hZ (hw _ (List.mem_of_getElem? (i := 23) rfl)) (hw _ (List.mem_of_getElem? (i := 3) rfl)) (by decide) (by decide)) q125a q125c (g := (mkF m 207 #[.val (.int p1), .val (.int p2), .val (.int p3), .val (.int p4), .val (.int p5), .val (.int p6), .val (.int (p1 &&& (3 : Int32))), .val (.int xa), .val (.int xb), .val (.int xc), .val (.ref b103), .val (.ref b113), .val (.ref b117), .val (.int ex)] [(.ref b117)])) rfl (by rw [hml]; rfl) (Steps.refl _) (argsL := []) (rest := []) (lenOf pd_0_1 rfl) rfl (by show 2 * 0 + _ ≤ _; exact Nat.le_of_eq rfl) (hb hby at_207) (fun _ _ => ⟨rfl, ej203, (by decide : 4 + 0 ≤ _), (by decide : 8 + 0 ≤ _)⟩)
                  dsimp only [Pt.U, Pt.locs, Pt.cells, Pt.slots] at X125 l125 y125 z125 st125 hQ125
                  subst l125 y125 z125
                  obtain ⟨rfl, N125q, e125⟩ := hQ125
                  have N125 := Fr.app Nj203 N125q
                  refine own_pre (A := T125.setTop (mkF m 212 #[.val (.int p1), .val (.int p2), .val (.int p3), .val (.int p4), .val (.int p5), .val (.int p6), .val (.int (p1 &&& (3 : Int32))), .val (.int xa), .val (.int xb), .val (.int xc), .val (.ref b103), .val (.ref b113), .val (.ref b117), .val (.int ex)] [(.int ex), (.int (own_shows (own_law0_g112 p1 p2 p3 p4 p5 p6 xa xb xc) (3 : Int32) p2))])) (fun tt kt => ?_) ?_
                  · show Steps p.tables e below (Tj203.setTop (mkF m 203 #[.val (.int p1), .val (.int p2), .val (.int p3), .val (.int p4), .val (.int p5), .val (.int p6), .val (.int (p1 &&& (3 : Int32))), .val (.int xa), .val (.int xb), .val (.int xc), .val (.ref b103), .val (.ref b113), .val (.ref b117), .unset] [(.int ex)])) _
                    refine XS.istore Xj203.here hx rfl (hb hby at_203) rfl (l' := #[.val (.int p1), .val (.int p2), .val (.int p3), .val (.int p4), .val (.int p5), .val (.int p6), .val (.int (p1 &&& (3 : Int32))), .val (.int xa), .val (.int xb), .val (.int xc), .val (.ref b103), .val (.ref b113), .val (.ref b117), .val (.int ex)]) rfl ?_
                    show Steps p.tables e below (Tj203.setTop (mkF m 205 #[.val (.int p1), .val (.int p2), .val (.int p3), .val (.int p4), .val (.int p5), .val (.int p6), .val (.int (p1 &&& (3 : Int32))), .val (.int xa), .val (.int xb), .val (.int xc), .val (.ref b103), .val (.ref b113), .val (.ref b117), .val (.int ex)] [])) _
                    refine XS.aload Xj203.here hx rfl (hb hby at_205) rfl rfl ?_
                    show Steps p.tables e below (Tj203.setTop (mkF m 207 #[.val (.int p1), .val (.int p2), .val (.int p3), .val (.int p4), .val (.int p5), .val (.int p6), .val (.int (p1 &&& (3 : Int32))), .val (.int xa), .val (.int xb), .val (.int xc), .val (.ref b103), .val (.ref b113), .val (.ref b117), .val (.int ex)] [(.ref b117)])) _
                    refine st125.trans ?_
                    show Steps p.tables e below (T125.setTop (mkF m 210 #[.val (.int p1), .val (.int p2), .val (.int p3), .val (.int p4), .val (.int p5), .val (.int p6), .val (.int (p1 &&& (3 : Int32))), .val (.int xa), .val (.int xb), .val (.int xc), .val (.ref b103), .val (.ref b113), .val (.ref b117), .val (.int ex)] [(.int (own_shows (own_law0_g112 p1 p2 p3 p4 p5 p6 xa xb xc) (3 : Int32) p2))])) _
                    refine XS.iload X125.here hx rfl (hb hby at_210) rfl ?_
                    exact kt
                  show own_End p e below s (T125.setTop (mkF m 212 #[.val (.int p1), .val (.int p2), .val (.int p3), .val (.int p4), .val (.int p5), .val (.int p6), .val (.int (p1 &&& (3 : Int32))), .val (.int xa), .val (.int xb), .val (.int xc), .val (.ref b103), .val (.ref b113), .val (.ref b117), .val (.int ex)] [(.int ex), (.int (own_shows (own_law0_g112 p1 p2 p3 p4 p5 p6 xa xb xc) (3 : Int32) p2))])) (Q0 Z p1 p2 p3 p4 p5 p6 h0 n0) room_1.cells room_1.slots
                  by_cases hc212_126 : (own_shows (own_law0_g112 p1 p2 p3 p4 p5 p6 xa xb xc) (3 : Int32) p2) = ex
                  · refine own_pre (A := T125.setTop (mkF m 220 #[.val (.int p1), .val (.int p2), .val (.int p3), .val (.int p4), .val (.int p5), .val (.int p6), .val (.int (p1 &&& (3 : Int32))), .val (.int xa), .val (.int xb), .val (.int xc), .val (.ref b103), .val (.ref b113), .val (.ref b117), .val (.int ex)] [(.int (1 : Int32))])) (fun tt kt => ?_) ?_
                    · show Steps p.tables e below (T125.setTop (mkF m 212 #[.val (.int p1), .val (.int p2), .val (.int p3), .val (.int p4), .val (.int p5), .val (.int p6), .val (.int (p1 &&& (3 : Int32))), .val (.int xa), .val (.int xb), .val (.int xc), .val (.ref b103), .val (.ref b113), .val (.ref b117), .val (.int ex)] [(.int ex), (.int (own_shows (own_law0_g112 p1 p2 p3 p4 p5 p6 xa xb xc) (3 : Int32) p2))])) _
                      refine XS.icmpNo X125.here hx rfl (hb hby at_212) rfl (teq hc212_126).2 ?_
                      show Steps p.tables e below (T125.setTop (mkF m 215 #[.val (.int p1), .val (.int p2), .val (.int p3), .val (.int p4), .val (.int p5), .val (.int p6), .val (.int (p1 &&& (3 : Int32))), .val (.int xa), .val (.int xb), .val (.int xc), .val (.ref b103), .val (.ref b113), .val (.ref b117), .val (.int ex)] [])) _
                      refine XS.iconst X125.here hx rfl (hb hby at_215) ?_
                      show Steps p.tables e below (T125.setTop (mkF m 216 #[.val (.int p1), .val (.int p2), .val (.int p3), .val (.int p4), .val (.int p5), .val (.int p6), .val (.int (p1 &&& (3 : Int32))), .val (.int xa), .val (.int xb), .val (.int xc), .val (.ref b103), .val (.ref b113), .val (.ref b117), .val (.int ex)] [(.int (1 : Int32))])) _
                      refine XS.goto X125.here hx rfl (pc0 := 216) (pc' := 220) rfl (hb hby at_216) (by decide) (by decide) ?_
                      exact kt
                    show own_End p e below s (T125.setTop (mkF m 220 #[.val (.int p1), .val (.int p2), .val (.int p3), .val (.int p4), .val (.int p5), .val (.int p6), .val (.int (p1 &&& (3 : Int32))), .val (.int xa), .val (.int xb), .val (.int xc), .val (.ref b103), .val (.ref b113), .val (.ref b117), .val (.int ex)] [(.int (1 : Int32))])) (Q0 Z p1 p2 p3 p4 p5 p6 h0 n0) room_1.cells room_1.slots
                    have hv : (own_law p1 p2 p3 p4 p5 p6) = (1 : Int32) := hj.trans (by simp only [own_law_203bbb, if_pos hc212_126])
                    obtain ⟨fs, hr, hrun, hended, hW, hsame⟩ := X125.leave (v := some (.int (1 : Int32))) (fun h => by rw [Bd.returns] at h; cases h)
                    refine ⟨_, _, ?_, hrun, hended, _, _, rfl, ?_, ⟨_, rfl⟩, hW, hsame.mono (by decide) (by decide)⟩
                    · exact retN X125 hx (t := .boolean) Bd.returns (by simp) (hb hby at_220) hr
                    · show Q0 Z p1 p2 p3 p4 p5 p6 h0 n0 _ T125.heap _
                      rw [e125]
                      exact ⟨(congrArg (fun z => some (Value.int z)) hv.symm), N125⟩
                  · refine own_pre (A := T125.setTop (mkF m 220 #[.val (.int p1), .val (.int p2), .val (.int p3), .val (.int p4), .val (.int p5), .val (.int p6), .val (.int (p1 &&& (3 : Int32))), .val (.int xa), .val (.int xb), .val (.int xc), .val (.ref b103), .val (.ref b113), .val (.ref b117), .val (.int ex)] [(.int (0 : Int32))])) (fun tt kt => ?_) ?_
                    · show Steps p.tables e below (T125.setTop (mkF m 212 #[.val (.int p1), .val (.int p2), .val (.int p3), .val (.int p4), .val (.int p5), .val (.int p6), .val (.int (p1 &&& (3 : Int32))), .val (.int xa), .val (.int xb), .val (.int xc), .val (.ref b103), .val (.ref b113), .val (.ref b117), .val (.int ex)] [(.int ex), (.int (own_shows (own_law0_g112 p1 p2 p3 p4 p5 p6 xa xb xc) (3 : Int32) p2))])) _
                      refine XS.icmpYes X125.here hx rfl (pc0 := 212) (pc' := 219) rfl (hb hby at_212) rfl (feq hc212_126).2 (by decide) (by decide) ?_
                      show Steps p.tables e below (T125.setTop (mkF m 219 #[.val (.int p1), .val (.int p2), .val (.int p3), .val (.int p4), .val (.int p5), .val (.int p6), .val (.int (p1 &&& (3 : Int32))), .val (.int xa), .val (.int xb), .val (.int xc), .val (.ref b103), .val (.ref b113), .val (.ref b117), .val (.int ex)] [])) _
                      refine XS.iconst X125.here hx rfl (hb hby at_219) ?_
                      exact kt
                    show own_End p e below s (T125.setTop (mkF m 220 #[.val (.int p1), .val (.int p2), .val (.int p3), .val (.int p4), .val (.int p5), .val (.int p6), .val (.int (p1 &&& (3 : Int32))), .val (.int xa), .val (.int xb), .val (.int xc), .val (.ref b103), .val (.ref b113), .val (.ref b117), .val (.int ex)] [(.int (0 : Int32))])) (Q0 Z p1 p2 p3 p4 p5 p6 h0 n0) room_1.cells room_1.slots
                    have hv : (own_law p1 p2 p3 p4 p5 p6) = (0 : Int32) := hj.trans (by simp only [own_law_203bbb, if_neg hc212_126])
                    obtain ⟨fs, hr, hrun, hended, hW, hsame⟩ := X125.leave (v := some (.int (0 : Int32))) (fun h => by rw [Bd.returns] at h; cases h)
                    refine ⟨_, _, ?_, hrun, hended, _, _, rfl, ?_, ⟨_, rfl⟩, hW, hsame.mono (by decide) (by decide)⟩
                    · exact retN X125 hx (t := .boolean) Bd.returns (by simp) (hb hby at_220) hr
                    · show Q0 Z p1 p2 p3 p4 p5 p6 h0 n0 _ T125.heap _
                      rw [e125]
                      exact ⟨(congrArg (fun z => some (Value.int z)) hv.symm), N125⟩
                by_cases hc165_127 : (p1 &&& (3 : Int32)) < (1 : Int32)
                · refine own_pre (A := T119.setTop (mkF m 177 #[.val (.int p1), .val (.int p2), .val (.int p3), .val (.int p4), .val (.int p5), .val (.int p6), .val (.int (p1 &&& (3 : Int32))), .val (.int xa), .val (.int xb), .val (.int xc), .val (.ref b103), .val (.ref b113), .val (.ref b117), .unset] [(.int (2 : Int32)), (.int (p1 &&& (3 : Int32)))])) (fun tt kt => ?_) ?_
                  · show Steps p.tables e below (T119.setTop (mkF m 165 #[.val (.int p1), .val (.int p2), .val (.int p3), .val (.int p4), .val (.int p5), .val (.int p6), .val (.int (p1 &&& (3 : Int32))), .val (.int xa), .val (.int xb), .val (.int xc), .val (.ref b103), .val (.ref b113), .val (.ref b117), .unset] [(.int (1 : Int32)), (.int (p1 &&& (3 : Int32)))])) _
                    refine XS.icmpYes X119.here hx rfl (pc0 := 165) (pc' := 174) rfl (hb hby at_165) rfl (tlt hc165_127).1 (by decide) (by decide) ?_
                    show Steps p.tables e below (T119.setTop (mkF m 174 #[.val (.int p1), .val (.int p2), .val (.int p3), .val (.int p4), .val (.int p5), .val (.int p6), .val (.int (p1 &&& (3 : Int32))), .val (.int xa), .val (.int xb), .val (.int xc), .val (.ref b103), .val (.ref b113), .val (.ref b117), .unset] [])) _
                    refine XS.iload X119.here hx rfl (hb hby at_174) rfl ?_
                    show Steps p.tables e below (T119.setTop (mkF m 176 #[.val (.int p1), .val (.int p2), .val (.int p3), .val (.int p4), .val (.int p5), .val (.int p6), .val (.int (p1 &&& (3 : Int32))), .val (.int xa), .val (.int xb), .val (.int xc), .val (.ref b103), .val (.ref b113), .val (.ref b117), .unset] [(.int (p1 &&& (3 : Int32)))])) _
                    refine XS.iconst X119.here hx rfl (hb hby at_176) ?_
                    exact kt
                  show own_End p e below s (T119.setTop (mkF m 177 #[.val (.int p1), .val (.int p2), .val (.int p3), .val (.int p4), .val (.int p5), .val (.int p6), .val (.int (p1 &&& (3 : Int32))), .val (.int xa), .val (.int xb), .val (.int xc), .val (.ref b103), .val (.ref b113), .val (.ref b117), .unset] [(.int (2 : Int32)), (.int (p1 &&& (3 : Int32)))])) (Q0 Z p1 p2 p3 p4 p5 p6 h0 n0) room_1.cells room_1.slots
                  by_cases hc177_128 : (p1 &&& (3 : Int32)) < (2 : Int32)
                  · refine own_pre (A := T119.setTop (mkF m 189 #[.val (.int p1), .val (.int p2), .val (.int p3), .val (.int p4), .val (.int p5), .val (.int p6), .val (.int (p1 &&& (3 : Int32))), .val (.int xa), .val (.int xb), .val (.int xc), .val (.ref b103), .val (.ref b113), .val (.ref b117), .unset] [(.int (3 : Int32)), (.int (p1 &&& (3 : Int32)))])) (fun tt kt => ?_) ?_
                    · show Steps p.tables e below (T119.setTop (mkF m 177 #[.val (.int p1), .val (.int p2), .val (.int p3), .val (.int p4), .val (.int p5), .val (.int p6), .val (.int (p1 &&& (3 : Int32))), .val (.int xa), .val (.int xb), .val (.int xc), .val (.ref b103), .val (.ref b113), .val (.ref b117), .unset] [(.int (2 : Int32)), (.int (p1 &&& (3 : Int32)))])) _
                      refine XS.icmpYes X119.here hx rfl (pc0 := 177) (pc' := 186) rfl (hb hby at_177) rfl (tlt hc177_128).1 (by decide) (by decide) ?_
                      show Steps p.tables e below (T119.setTop (mkF m 186 #[.val (.int p1), .val (.int p2), .val (.int p3), .val (.int p4), .val (.int p5), .val (.int p6), .val (.int (p1 &&& (3 : Int32))), .val (.int xa), .val (.int xb), .val (.int xc), .val (.ref b103), .val (.ref b113), .val (.ref b117), .unset] [])) _
                      refine XS.iload X119.here hx rfl (hb hby at_186) rfl ?_
                      show Steps p.tables e below (T119.setTop (mkF m 188 #[.val (.int p1), .val (.int p2), .val (.int p3), .val (.int p4), .val (.int p5), .val (.int p6), .val (.int (p1 &&& (3 : Int32))), .val (.int xa), .val (.int xb), .val (.int xc), .val (.ref b103), .val (.ref b113), .val (.ref b117), .unset] [(.int (p1 &&& (3 : Int32)))])) _
                      refine XS.iconst X119.here hx rfl (hb hby at_188) ?_
                      exact kt
                    show own_End p e below s (T119.setTop (mkF m 189 #[.val (.int p1), .val (.int p2), .val (.int p3), .val (.int p4), .val (.int p5), .val (.int p6), .val (.int (p1 &&& (3 : Int32))), .val (.int xa), .val (.int xb), .val (.int xc), .val (.ref b103), .val (.ref b113), .val (.ref b117), .unset] [(.int (3 : Int32)), (.int (p1 &&& (3 : Int32)))])) (Q0 Z p1 p2 p3 p4 p5 p6 h0 n0) room_1.cells room_1.slots
                    by_cases hc189_129 : (p1 &&& (3 : Int32)) < (3 : Int32)
                    · refine own_pre (A := T119.setTop (mkF m 203 #[.val (.int p1), .val (.int p2), .val (.int p3), .val (.int p4), .val (.int p5), .val (.int p6), .val (.int (p1 &&& (3 : Int32))), .val (.int xa), .val (.int xb), .val (.int xc), .val (.ref b103), .val (.ref b113), .val (.ref b117), .unset] [(.int (0 : Int32))])) (fun tt kt => ?_) ?_
                      · show Steps p.tables e below (T119.setTop (mkF m 189 #[.val (.int p1), .val (.int p2), .val (.int p3), .val (.int p4), .val (.int p5), .val (.int p6), .val (.int (p1 &&& (3 : Int32))), .val (.int xa), .val (.int xb), .val (.int xc), .val (.ref b103), .val (.ref b113), .val (.ref b117), .unset] [(.int (3 : Int32)), (.int (p1 &&& (3 : Int32)))])) _
                        refine XS.icmpYes X119.here hx rfl (pc0 := 189) (pc' := 202) rfl (hb hby at_189) rfl (tlt hc189_129).1 (by decide) (by decide) ?_
                        show Steps p.tables e below (T119.setTop (mkF m 202 #[.val (.int p1), .val (.int p2), .val (.int p3), .val (.int p4), .val (.int p5), .val (.int p6), .val (.int (p1 &&& (3 : Int32))), .val (.int xa), .val (.int xb), .val (.int xc), .val (.ref b103), .val (.ref b113), .val (.ref b117), .unset] [])) _
                        refine XS.iconst X119.here hx rfl (hb hby at_202) ?_
                        exact kt
                      show own_End p e below s (T119.setTop (mkF m 203 #[.val (.int p1), .val (.int p2), .val (.int p3), .val (.int p4), .val (.int p5), .val (.int p6), .val (.int (p1 &&& (3 : Int32))), .val (.int xa), .val (.int xb), .val (.int xc), .val (.ref b103), .val (.ref b113), .val (.ref b117), .unset] [(.int (0 : Int32))])) (Q0 Z p1 p2 p3 p4 p5 p6 h0 n0) room_1.cells room_1.slots
                      exact j203 _ _ X119 rfl N119 (0 : Int32)  (hj.trans (by simp only [own_law_142bbb, if_pos hc165_127, if_pos hc177_128, if_pos hc189_129]))
                    · refine own_pre (A := T119.setTop (mkF m 195 #[.val (.int p1), .val (.int p2), .val (.int p3), .val (.int p4), .val (.int p5), .val (.int p6), .val (.int (p1 &&& (3 : Int32))), .val (.int xa), .val (.int xb), .val (.int xc), .val (.ref b103), .val (.ref b113), .val (.ref b117), .unset] [(.int p2), (.int xc)])) (fun tt kt => ?_) ?_
                      · show Steps p.tables e below (T119.setTop (mkF m 189 #[.val (.int p1), .val (.int p2), .val (.int p3), .val (.int p4), .val (.int p5), .val (.int p6), .val (.int (p1 &&& (3 : Int32))), .val (.int xa), .val (.int xb), .val (.int xc), .val (.ref b103), .val (.ref b113), .val (.ref b117), .unset] [(.int (3 : Int32)), (.int (p1 &&& (3 : Int32)))])) _
                        refine XS.icmpNo X119.here hx rfl (hb hby at_189) rfl (flt hc189_129).1 ?_
                        show Steps p.tables e below (T119.setTop (mkF m 192 #[.val (.int p1), .val (.int p2), .val (.int p3), .val (.int p4), .val (.int p5), .val (.int p6), .val (.int (p1 &&& (3 : Int32))), .val (.int xa), .val (.int xb), .val (.int xc), .val (.ref b103), .val (.ref b113), .val (.ref b117), .unset] [])) _
                        refine XS.iload X119.here hx rfl (hb hby at_192) rfl ?_
                        show Steps p.tables e below (T119.setTop (mkF m 194 #[.val (.int p1), .val (.int p2), .val (.int p3), .val (.int p4), .val (.int p5), .val (.int p6), .val (.int (p1 &&& (3 : Int32))), .val (.int xa), .val (.int xb), .val (.int xc), .val (.ref b103), .val (.ref b113), .val (.ref b117), .unset] [(.int xc)])) _
                        refine XS.iloadN X119.here hx rfl (hb hby at_194) rfl ?_
                        exact kt
                      show own_End p e below s (T119.setTop (mkF m 195 #[.val (.int p1), .val (.int p2), .val (.int p3), .val (.int p4), .val (.int p5), .val (.int p6), .val (.int (p1 &&& (3 : Int32))), .val (.int xa), .val (.int xb), .val (.int xc), .val (.ref b103), .val (.ref b113), .val (.ref b117), .unset] [(.int p2), (.int xc)])) (Q0 Z p1 p2 p3 p4 p5 p6 h0 n0) room_1.cells room_1.slots
                      by_cases hc195_130 : xc = p2
                      · refine own_pre (A := T119.setTop (mkF m 203 #[.val (.int p1), .val (.int p2), .val (.int p3), .val (.int p4), .val (.int p5), .val (.int p6), .val (.int (p1 &&& (3 : Int32))), .val (.int xa), .val (.int xb), .val (.int xc), .val (.ref b103), .val (.ref b113), .val (.ref b117), .unset] [(.int (1 : Int32))])) (fun tt kt => ?_) ?_
                        · show Steps p.tables e below (T119.setTop (mkF m 195 #[.val (.int p1), .val (.int p2), .val (.int p3), .val (.int p4), .val (.int p5), .val (.int p6), .val (.int (p1 &&& (3 : Int32))), .val (.int xa), .val (.int xb), .val (.int xc), .val (.ref b103), .val (.ref b113), .val (.ref b117), .unset] [(.int p2), (.int xc)])) _
                          refine XS.icmpNo X119.here hx rfl (hb hby at_195) rfl (teq hc195_130).2 ?_
                          show Steps p.tables e below (T119.setTop (mkF m 198 #[.val (.int p1), .val (.int p2), .val (.int p3), .val (.int p4), .val (.int p5), .val (.int p6), .val (.int (p1 &&& (3 : Int32))), .val (.int xa), .val (.int xb), .val (.int xc), .val (.ref b103), .val (.ref b113), .val (.ref b117), .unset] [])) _
                          refine XS.iconst X119.here hx rfl (hb hby at_198) ?_
                          show Steps p.tables e below (T119.setTop (mkF m 199 #[.val (.int p1), .val (.int p2), .val (.int p3), .val (.int p4), .val (.int p5), .val (.int p6), .val (.int (p1 &&& (3 : Int32))), .val (.int xa), .val (.int xb), .val (.int xc), .val (.ref b103), .val (.ref b113), .val (.ref b117), .unset] [(.int (1 : Int32))])) _
                          refine XS.goto X119.here hx rfl (pc0 := 199) (pc' := 203) rfl (hb hby at_199) (by decide) (by decide) ?_
                          exact kt
                        show own_End p e below s (T119.setTop (mkF m 203 #[.val (.int p1), .val (.int p2), .val (.int p3), .val (.int p4), .val (.int p5), .val (.int p6), .val (.int (p1 &&& (3 : Int32))), .val (.int xa), .val (.int xb), .val (.int xc), .val (.ref b103), .val (.ref b113), .val (.ref b117), .unset] [(.int (1 : Int32))])) (Q0 Z p1 p2 p3 p4 p5 p6 h0 n0) room_1.cells room_1.slots
                        exact j203 _ _ X119 rfl N119 (1 : Int32)  (hj.trans (by simp only [own_law_142bbb, if_pos hc165_127, if_pos hc177_128, if_neg hc189_129, if_pos hc195_130]))
                      · refine own_pre (A := T119.setTop (mkF m 203 #[.val (.int p1), .val (.int p2), .val (.int p3), .val (.int p4), .val (.int p5), .val (.int p6), .val (.int (p1 &&& (3 : Int32))), .val (.int xa), .val (.int xb), .val (.int xc), .val (.ref b103), .val (.ref b113), .val (.ref b117), .unset] [(.int (0 : Int32))])) (fun tt kt => ?_) ?_
                        · show Steps p.tables e below (T119.setTop (mkF m 195 #[.val (.int p1), .val (.int p2), .val (.int p3), .val (.int p4), .val (.int p5), .val (.int p6), .val (.int (p1 &&& (3 : Int32))), .val (.int xa), .val (.int xb), .val (.int xc), .val (.ref b103), .val (.ref b113), .val (.ref b117), .unset] [(.int p2), (.int xc)])) _
                          refine XS.icmpYes X119.here hx rfl (pc0 := 195) (pc' := 202) rfl (hb hby at_195) rfl (feq hc195_130).2 (by decide) (by decide) ?_
                          show Steps p.tables e below (T119.setTop (mkF m 202 #[.val (.int p1), .val (.int p2), .val (.int p3), .val (.int p4), .val (.int p5), .val (.int p6), .val (.int (p1 &&& (3 : Int32))), .val (.int xa), .val (.int xb), .val (.int xc), .val (.ref b103), .val (.ref b113), .val (.ref b117), .unset] [])) _
                          refine XS.iconst X119.here hx rfl (hb hby at_202) ?_
                          exact kt
                        show own_End p e below s (T119.setTop (mkF m 203 #[.val (.int p1), .val (.int p2), .val (.int p3), .val (.int p4), .val (.int p5), .val (.int p6), .val (.int (p1 &&& (3 : Int32))), .val (.int xa), .val (.int xb), .val (.int xc), .val (.ref b103), .val (.ref b113), .val (.ref b117), .unset] [(.int (0 : Int32))])) (Q0 Z p1 p2 p3 p4 p5 p6 h0 n0) room_1.cells room_1.slots
                        exact j203 _ _ X119 rfl N119 (0 : Int32)  (hj.trans (by simp only [own_law_142bbb, if_pos hc165_127, if_pos hc177_128, if_neg hc189_129, if_neg hc195_130]))
                  · refine own_pre (A := T119.setTop (mkF m 183 #[.val (.int p1), .val (.int p2), .val (.int p3), .val (.int p4), .val (.int p5), .val (.int p6), .val (.int (p1 &&& (3 : Int32))), .val (.int xa), .val (.int xb), .val (.int xc), .val (.ref b103), .val (.ref b113), .val (.ref b117), .unset] [(.int p2), (.int xb)])) (fun tt kt => ?_) ?_
                    · show Steps p.tables e below (T119.setTop (mkF m 177 #[.val (.int p1), .val (.int p2), .val (.int p3), .val (.int p4), .val (.int p5), .val (.int p6), .val (.int (p1 &&& (3 : Int32))), .val (.int xa), .val (.int xb), .val (.int xc), .val (.ref b103), .val (.ref b113), .val (.ref b117), .unset] [(.int (2 : Int32)), (.int (p1 &&& (3 : Int32)))])) _
                      refine XS.icmpNo X119.here hx rfl (hb hby at_177) rfl (flt hc177_128).1 ?_
                      show Steps p.tables e below (T119.setTop (mkF m 180 #[.val (.int p1), .val (.int p2), .val (.int p3), .val (.int p4), .val (.int p5), .val (.int p6), .val (.int (p1 &&& (3 : Int32))), .val (.int xa), .val (.int xb), .val (.int xc), .val (.ref b103), .val (.ref b113), .val (.ref b117), .unset] [])) _
                      refine XS.iload X119.here hx rfl (hb hby at_180) rfl ?_
                      show Steps p.tables e below (T119.setTop (mkF m 182 #[.val (.int p1), .val (.int p2), .val (.int p3), .val (.int p4), .val (.int p5), .val (.int p6), .val (.int (p1 &&& (3 : Int32))), .val (.int xa), .val (.int xb), .val (.int xc), .val (.ref b103), .val (.ref b113), .val (.ref b117), .unset] [(.int xb)])) _
                      refine XS.iloadN X119.here hx rfl (hb hby at_182) rfl ?_
                      exact kt
                    show own_End p e below s (T119.setTop (mkF m 183 #[.val (.int p1), .val (.int p2), .val (.int p3), .val (.int p4), .val (.int p5), .val (.int p6), .val (.int (p1 &&& (3 : Int32))), .val (.int xa), .val (.int xb), .val (.int xc), .val (.ref b103), .val (.ref b113), .val (.ref b117), .unset] [(.int p2), (.int xb)])) (Q0 Z p1 p2 p3 p4 p5 p6 h0 n0) room_1.cells room_1.slots
                    by_cases hc183_131 : xb = p2
                    · refine own_pre (A := T119.setTop (mkF m 203 #[.val (.int p1), .val (.int p2), .val (.int p3), .val (.int p4), .val (.int p5), .val (.int p6), .val (.int (p1 &&& (3 : Int32))), .val (.int xa), .val (.int xb), .val (.int xc), .val (.ref b103), .val (.ref b113), .val (.ref b117), .unset] [(.int (1 : Int32))])) (fun tt kt => ?_) ?_
                      · show Steps p.tables e below (T119.setTop (mkF m 183 #[.val (.int p1), .val (.int p2), .val (.int p3), .val (.int p4), .val (.int p5), .val (.int p6), .val (.int (p1 &&& (3 : Int32))), .val (.int xa), .val (.int xb), .val (.int xc), .val (.ref b103), .val (.ref b113), .val (.ref b117), .unset] [(.int p2), (.int xb)])) _
                        refine XS.icmpYes X119.here hx rfl (pc0 := 183) (pc' := 198) rfl (hb hby at_183) rfl (teq hc183_131).1 (by decide) (by decide) ?_
                        show Steps p.tables e below (T119.setTop (mkF m 198 #[.val (.int p1), .val (.int p2), .val (.int p3), .val (.int p4), .val (.int p5), .val (.int p6), .val (.int (p1 &&& (3 : Int32))), .val (.int xa), .val (.int xb), .val (.int xc), .val (.ref b103), .val (.ref b113), .val (.ref b117), .unset] [])) _
                        refine XS.iconst X119.here hx rfl (hb hby at_198) ?_
                        show Steps p.tables e below (T119.setTop (mkF m 199 #[.val (.int p1), .val (.int p2), .val (.int p3), .val (.int p4), .val (.int p5), .val (.int p6), .val (.int (p1 &&& (3 : Int32))), .val (.int xa), .val (.int xb), .val (.int xc), .val (.ref b103), .val (.ref b113), .val (.ref b117), .unset] [(.int (1 : Int32))])) _
                        refine XS.goto X119.here hx rfl (pc0 := 199) (pc' := 203) rfl (hb hby at_199) (by decide) (by decide) ?_
                        exact kt
                      show own_End p e below s (T119.setTop (mkF m 203 #[.val (.int p1), .val (.int p2), .val (.int p3), .val (.int p4), .val (.int p5), .val (.int p6), .val (.int (p1 &&& (3 : Int32))), .val (.int xa), .val (.int xb), .val (.int xc), .val (.ref b103), .val (.ref b113), .val (.ref b117), .unset] [(.int (1 : Int32))])) (Q0 Z p1 p2 p3 p4 p5 p6 h0 n0) room_1.cells room_1.slots
                      exact j203 _ _ X119 rfl N119 (1 : Int32)  (hj.trans (by simp only [own_law_142bbb, if_pos hc165_127, if_neg hc177_128, if_pos hc183_131]))
                    · refine own_pre (A := T119.setTop (mkF m 189 #[.val (.int p1), .val (.int p2), .val (.int p3), .val (.int p4), .val (.int p5), .val (.int p6), .val (.int (p1 &&& (3 : Int32))), .val (.int xa), .val (.int xb), .val (.int xc), .val (.ref b103), .val (.ref b113), .val (.ref b117), .unset] [(.int (3 : Int32)), (.int (p1 &&& (3 : Int32)))])) (fun tt kt => ?_) ?_
                      · show Steps p.tables e below (T119.setTop (mkF m 183 #[.val (.int p1), .val (.int p2), .val (.int p3), .val (.int p4), .val (.int p5), .val (.int p6), .val (.int (p1 &&& (3 : Int32))), .val (.int xa), .val (.int xb), .val (.int xc), .val (.ref b103), .val (.ref b113), .val (.ref b117), .unset] [(.int p2), (.int xb)])) _
                        refine XS.icmpNo X119.here hx rfl (hb hby at_183) rfl (feq hc183_131).1 ?_
                        show Steps p.tables e below (T119.setTop (mkF m 186 #[.val (.int p1), .val (.int p2), .val (.int p3), .val (.int p4), .val (.int p5), .val (.int p6), .val (.int (p1 &&& (3 : Int32))), .val (.int xa), .val (.int xb), .val (.int xc), .val (.ref b103), .val (.ref b113), .val (.ref b117), .unset] [])) _
                        refine XS.iload X119.here hx rfl (hb hby at_186) rfl ?_
                        show Steps p.tables e below (T119.setTop (mkF m 188 #[.val (.int p1), .val (.int p2), .val (.int p3), .val (.int p4), .val (.int p5), .val (.int p6), .val (.int (p1 &&& (3 : Int32))), .val (.int xa), .val (.int xb), .val (.int xc), .val (.ref b103), .val (.ref b113), .val (.ref b117), .unset] [(.int (p1 &&& (3 : Int32)))])) _
                        refine XS.iconst X119.here hx rfl (hb hby at_188) ?_
                        exact kt
                      show own_End p e below s (T119.setTop (mkF m 189 #[.val (.int p1), .val (.int p2), .val (.int p3), .val (.int p4), .val (.int p5), .val (.int p6), .val (.int (p1 &&& (3 : Int32))), .val (.int xa), .val (.int xb), .val (.int xc), .val (.ref b103), .val (.ref b113), .val (.ref b117), .unset] [(.int (3 : Int32)), (.int (p1 &&& (3 : Int32)))])) (Q0 Z p1 p2 p3 p4 p5 p6 h0 n0) room_1.cells room_1.slots
                      by_cases hc189_132 : (p1 &&& (3 : Int32)) < (3 : Int32)
                      · refine own_pre (A := T119.setTop (mkF m 203 #[.val (.int p1), .val (.int p2), .val (.int p3), .val (.int p4), .val (.int p5), .val (.int p6), .val (.int (p1 &&& (3 : Int32))), .val (.int xa), .val (.int xb), .val (.int xc), .val (.ref b103), .val (.ref b113), .val (.ref b117), .unset] [(.int (0 : Int32))])) (fun tt kt => ?_) ?_
                        · show Steps p.tables e below (T119.setTop (mkF m 189 #[.val (.int p1), .val (.int p2), .val (.int p3), .val (.int p4), .val (.int p5), .val (.int p6), .val (.int (p1 &&& (3 : Int32))), .val (.int xa), .val (.int xb), .val (.int xc), .val (.ref b103), .val (.ref b113), .val (.ref b117), .unset] [(.int (3 : Int32)), (.int (p1 &&& (3 : Int32)))])) _
                          refine XS.icmpYes X119.here hx rfl (pc0 := 189) (pc' := 202) rfl (hb hby at_189) rfl (tlt hc189_132).1 (by decide) (by decide) ?_
                          show Steps p.tables e below (T119.setTop (mkF m 202 #[.val (.int p1), .val (.int p2), .val (.int p3), .val (.int p4), .val (.int p5), .val (.int p6), .val (.int (p1 &&& (3 : Int32))), .val (.int xa), .val (.int xb), .val (.int xc), .val (.ref b103), .val (.ref b113), .val (.ref b117), .unset] [])) _
                          refine XS.iconst X119.here hx rfl (hb hby at_202) ?_
                          exact kt
                        show own_End p e below s (T119.setTop (mkF m 203 #[.val (.int p1), .val (.int p2), .val (.int p3), .val (.int p4), .val (.int p5), .val (.int p6), .val (.int (p1 &&& (3 : Int32))), .val (.int xa), .val (.int xb), .val (.int xc), .val (.ref b103), .val (.ref b113), .val (.ref b117), .unset] [(.int (0 : Int32))])) (Q0 Z p1 p2 p3 p4 p5 p6 h0 n0) room_1.cells room_1.slots
                        exact j203 _ _ X119 rfl N119 (0 : Int32)  (hj.trans (by simp only [own_law_142bbb, if_pos hc165_127, if_neg hc177_128, if_neg hc183_131, if_pos hc189_132]))
                      · refine own_pre (A := T119.setTop (mkF m 195 #[.val (.int p1), .val (.int p2), .val (.int p3), .val (.int p4), .val (.int p5), .val (.int p6), .val (.int (p1 &&& (3 : Int32))), .val (.int xa), .val (.int xb), .val (.int xc), .val (.ref b103), .val (.ref b113), .val (.ref b117), .unset] [(.int p2), (.int xc)])) (fun tt kt => ?_) ?_
                        · show Steps p.tables e below (T119.setTop (mkF m 189 #[.val (.int p1), .val (.int p2), .val (.int p3), .val (.int p4), .val (.int p5), .val (.int p6), .val (.int (p1 &&& (3 : Int32))), .val (.int xa), .val (.int xb), .val (.int xc), .val (.ref b103), .val (.ref b113), .val (.ref b117), .unset] [(.int (3 : Int32)), (.int (p1 &&& (3 : Int32)))])) _
                          refine XS.icmpNo X119.here hx rfl (hb hby at_189) rfl (flt hc189_132).1 ?_
                          show Steps p.tables e below (T119.setTop (mkF m 192 #[.val (.int p1), .val (.int p2), .val (.int p3), .val (.int p4), .val (.int p5), .val (.int p6), .val (.int (p1 &&& (3 : Int32))), .val (.int xa), .val (.int xb), .val (.int xc), .val (.ref b103), .val (.ref b113), .val (.ref b117), .unset] [])) _
                          refine XS.iload X119.here hx rfl (hb hby at_192) rfl ?_
                          show Steps p.tables e below (T119.setTop (mkF m 194 #[.val (.int p1), .val (.int p2), .val (.int p3), .val (.int p4), .val (.int p5), .val (.int p6), .val (.int (p1 &&& (3 : Int32))), .val (.int xa), .val (.int xb), .val (.int xc), .val (.ref b103), .val (.ref b113), .val (.ref b117), .unset] [(.int xc)])) _
                          refine XS.iloadN X119.here hx rfl (hb hby at_194) rfl ?_
                          exact kt
                        show own_End p e below s (T119.setTop (mkF m 195 #[.val (.int p1), .val (.int p2), .val (.int p3), .val (.int p4), .val (.int p5), .val (.int p6), .val (.int (p1 &&& (3 : Int32))), .val (.int xa), .val (.int xb), .val (.int xc), .val (.ref b103), .val (.ref b113), .val (.ref b117), .unset] [(.int p2), (.int xc)])) (Q0 Z p1 p2 p3 p4 p5 p6 h0 n0) room_1.cells room_1.slots
                        by_cases hc195_133 : xc = p2
                        · refine own_pre (A := T119.setTop (mkF m 203 #[.val (.int p1), .val (.int p2), .val (.int p3), .val (.int p4), .val (.int p5), .val (.int p6), .val (.int (p1 &&& (3 : Int32))), .val (.int xa), .val (.int xb), .val (.int xc), .val (.ref b103), .val (.ref b113), .val (.ref b117), .unset] [(.int (1 : Int32))])) (fun tt kt => ?_) ?_
                          · show Steps p.tables e below (T119.setTop (mkF m 195 #[.val (.int p1), .val (.int p2), .val (.int p3), .val (.int p4), .val (.int p5), .val (.int p6), .val (.int (p1 &&& (3 : Int32))), .val (.int xa), .val (.int xb), .val (.int xc), .val (.ref b103), .val (.ref b113), .val (.ref b117), .unset] [(.int p2), (.int xc)])) _
                            refine XS.icmpNo X119.here hx rfl (hb hby at_195) rfl (teq hc195_133).2 ?_
                            show Steps p.tables e below (T119.setTop (mkF m 198 #[.val (.int p1), .val (.int p2), .val (.int p3), .val (.int p4), .val (.int p5), .val (.int p6), .val (.int (p1 &&& (3 : Int32))), .val (.int xa), .val (.int xb), .val (.int xc), .val (.ref b103), .val (.ref b113), .val (.ref b117), .unset] [])) _
                            refine XS.iconst X119.here hx rfl (hb hby at_198) ?_
                            show Steps p.tables e below (T119.setTop (mkF m 199 #[.val (.int p1), .val (.int p2), .val (.int p3), .val (.int p4), .val (.int p5), .val (.int p6), .val (.int (p1 &&& (3 : Int32))), .val (.int xa), .val (.int xb), .val (.int xc), .val (.ref b103), .val (.ref b113), .val (.ref b117), .unset] [(.int (1 : Int32))])) _
                            refine XS.goto X119.here hx rfl (pc0 := 199) (pc' := 203) rfl (hb hby at_199) (by decide) (by decide) ?_
                            exact kt
                          show own_End p e below s (T119.setTop (mkF m 203 #[.val (.int p1), .val (.int p2), .val (.int p3), .val (.int p4), .val (.int p5), .val (.int p6), .val (.int (p1 &&& (3 : Int32))), .val (.int xa), .val (.int xb), .val (.int xc), .val (.ref b103), .val (.ref b113), .val (.ref b117), .unset] [(.int (1 : Int32))])) (Q0 Z p1 p2 p3 p4 p5 p6 h0 n0) room_1.cells room_1.slots
                          exact j203 _ _ X119 rfl N119 (1 : Int32)  (hj.trans (by simp only [own_law_142bbb, if_pos hc165_127, if_neg hc177_128, if_neg hc183_131, if_neg hc189_132, if_pos hc195_133]))
                        · refine own_pre (A := T119.setTop (mkF m 203 #[.val (.int p1), .val (.int p2), .val (.int p3), .val (.int p4), .val (.int p5), .val (.int p6), .val (.int (p1 &&& (3 : Int32))), .val (.int xa), .val (.int xb), .val (.int xc), .val (.ref b103), .val (.ref b113), .val (.ref b117), .unset] [(.int (0 : Int32))])) (fun tt kt => ?_) ?_
                          · show Steps p.tables e below (T119.setTop (mkF m 195 #[.val (.int p1), .val (.int p2), .val (.int p3), .val (.int p4), .val (.int p5), .val (.int p6), .val (.int (p1 &&& (3 : Int32))), .val (.int xa), .val (.int xb), .val (.int xc), .val (.ref b103), .val (.ref b113), .val (.ref b117), .unset] [(.int p2), (.int xc)])) _
                            refine XS.icmpYes X119.here hx rfl (pc0 := 195) (pc' := 202) rfl (hb hby at_195) rfl (feq hc195_133).2 (by decide) (by decide) ?_
                            show Steps p.tables e below (T119.setTop (mkF m 202 #[.val (.int p1), .val (.int p2), .val (.int p3), .val (.int p4), .val (.int p5), .val (.int p6), .val (.int (p1 &&& (3 : Int32))), .val (.int xa), .val (.int xb), .val (.int xc), .val (.ref b103), .val (.ref b113), .val (.ref b117), .unset] [])) _
                            refine XS.iconst X119.here hx rfl (hb hby at_202) ?_
                            exact kt
                          show own_End p e below s (T119.setTop (mkF m 203 #[.val (.int p1), .val (.int p2), .val (.int p3), .val (.int p4), .val (.int p5), .val (.int p6), .val (.int (p1 &&& (3 : Int32))), .val (.int xa), .val (.int xb), .val (.int xc), .val (.ref b103), .val (.ref b113), .val (.ref b117), .unset] [(.int (0 : Int32))])) (Q0 Z p1 p2 p3 p4 p5 p6 h0 n0) room_1.cells room_1.slots
                          exact j203 _ _ X119 rfl N119 (0 : Int32)  (hj.trans (by simp only [own_law_142bbb, if_pos hc165_127, if_neg hc177_128, if_neg hc183_131, if_neg hc189_132, if_neg hc195_133]))
                · refine own_pre (A := T119.setTop (mkF m 171 #[.val (.int p1), .val (.int p2), .val (.int p3), .val (.int p4), .val (.int p5), .val (.int p6), .val (.int (p1 &&& (3 : Int32))), .val (.int xa), .val (.int xb), .val (.int xc), .val (.ref b103), .val (.ref b113), .val (.ref b117), .unset] [(.int p2), (.int xa)])) (fun tt kt => ?_) ?_
                  · show Steps p.tables e below (T119.setTop (mkF m 165 #[.val (.int p1), .val (.int p2), .val (.int p3), .val (.int p4), .val (.int p5), .val (.int p6), .val (.int (p1 &&& (3 : Int32))), .val (.int xa), .val (.int xb), .val (.int xc), .val (.ref b103), .val (.ref b113), .val (.ref b117), .unset] [(.int (1 : Int32)), (.int (p1 &&& (3 : Int32)))])) _
                    refine XS.icmpNo X119.here hx rfl (hb hby at_165) rfl (flt hc165_127).1 ?_
                    show Steps p.tables e below (T119.setTop (mkF m 168 #[.val (.int p1), .val (.int p2), .val (.int p3), .val (.int p4), .val (.int p5), .val (.int p6), .val (.int (p1 &&& (3 : Int32))), .val (.int xa), .val (.int xb), .val (.int xc), .val (.ref b103), .val (.ref b113), .val (.ref b117), .unset] [])) _
                    refine XS.iload X119.here hx rfl (hb hby at_168) rfl ?_
                    show Steps p.tables e below (T119.setTop (mkF m 170 #[.val (.int p1), .val (.int p2), .val (.int p3), .val (.int p4), .val (.int p5), .val (.int p6), .val (.int (p1 &&& (3 : Int32))), .val (.int xa), .val (.int xb), .val (.int xc), .val (.ref b103), .val (.ref b113), .val (.ref b117), .unset] [(.int xa)])) _
                    refine XS.iloadN X119.here hx rfl (hb hby at_170) rfl ?_
                    exact kt
                  show own_End p e below s (T119.setTop (mkF m 171 #[.val (.int p1), .val (.int p2), .val (.int p3), .val (.int p4), .val (.int p5), .val (.int p6), .val (.int (p1 &&& (3 : Int32))), .val (.int xa), .val (.int xb), .val (.int xc), .val (.ref b103), .val (.ref b113), .val (.ref b117), .unset] [(.int p2), (.int xa)])) (Q0 Z p1 p2 p3 p4 p5 p6 h0 n0) room_1.cells room_1.slots
                  by_cases hc171_134 : xa = p2
                  · refine own_pre (A := T119.setTop (mkF m 203 #[.val (.int p1), .val (.int p2), .val (.int p3), .val (.int p4), .val (.int p5), .val (.int p6), .val (.int (p1 &&& (3 : Int32))), .val (.int xa), .val (.int xb), .val (.int xc), .val (.ref b103), .val (.ref b113), .val (.ref b117), .unset] [(.int (1 : Int32))])) (fun tt kt => ?_) ?_
                    · show Steps p.tables e below (T119.setTop (mkF m 171 #[.val (.int p1), .val (.int p2), .val (.int p3), .val (.int p4), .val (.int p5), .val (.int p6), .val (.int (p1 &&& (3 : Int32))), .val (.int xa), .val (.int xb), .val (.int xc), .val (.ref b103), .val (.ref b113), .val (.ref b117), .unset] [(.int p2), (.int xa)])) _
                      refine XS.icmpYes X119.here hx rfl (pc0 := 171) (pc' := 198) rfl (hb hby at_171) rfl (teq hc171_134).1 (by decide) (by decide) ?_
                      show Steps p.tables e below (T119.setTop (mkF m 198 #[.val (.int p1), .val (.int p2), .val (.int p3), .val (.int p4), .val (.int p5), .val (.int p6), .val (.int (p1 &&& (3 : Int32))), .val (.int xa), .val (.int xb), .val (.int xc), .val (.ref b103), .val (.ref b113), .val (.ref b117), .unset] [])) _
                      refine XS.iconst X119.here hx rfl (hb hby at_198) ?_
                      show Steps p.tables e below (T119.setTop (mkF m 199 #[.val (.int p1), .val (.int p2), .val (.int p3), .val (.int p4), .val (.int p5), .val (.int p6), .val (.int (p1 &&& (3 : Int32))), .val (.int xa), .val (.int xb), .val (.int xc), .val (.ref b103), .val (.ref b113), .val (.ref b117), .unset] [(.int (1 : Int32))])) _
                      refine XS.goto X119.here hx rfl (pc0 := 199) (pc' := 203) rfl (hb hby at_199) (by decide) (by decide) ?_
                      exact kt
                    show own_End p e below s (T119.setTop (mkF m 203 #[.val (.int p1), .val (.int p2), .val (.int p3), .val (.int p4), .val (.int p5), .val (.int p6), .val (.int (p1 &&& (3 : Int32))), .val (.int xa), .val (.int xb), .val (.int xc), .val (.ref b103), .val (.ref b113), .val (.ref b117), .unset] [(.int (1 : Int32))])) (Q0 Z p1 p2 p3 p4 p5 p6 h0 n0) room_1.cells room_1.slots
                    exact j203 _ _ X119 rfl N119 (1 : Int32)  (hj.trans (by simp only [own_law_142bbb, if_neg hc165_127, if_pos hc171_134]))
                  · refine own_pre (A := T119.setTop (mkF m 177 #[.val (.int p1), .val (.int p2), .val (.int p3), .val (.int p4), .val (.int p5), .val (.int p6), .val (.int (p1 &&& (3 : Int32))), .val (.int xa), .val (.int xb), .val (.int xc), .val (.ref b103), .val (.ref b113), .val (.ref b117), .unset] [(.int (2 : Int32)), (.int (p1 &&& (3 : Int32)))])) (fun tt kt => ?_) ?_
                    · show Steps p.tables e below (T119.setTop (mkF m 171 #[.val (.int p1), .val (.int p2), .val (.int p3), .val (.int p4), .val (.int p5), .val (.int p6), .val (.int (p1 &&& (3 : Int32))), .val (.int xa), .val (.int xb), .val (.int xc), .val (.ref b103), .val (.ref b113), .val (.ref b117), .unset] [(.int p2), (.int xa)])) _
                      refine XS.icmpNo X119.here hx rfl (hb hby at_171) rfl (feq hc171_134).1 ?_
                      show Steps p.tables e below (T119.setTop (mkF m 174 #[.val (.int p1), .val (.int p2), .val (.int p3), .val (.int p4), .val (.int p5), .val (.int p6), .val (.int (p1 &&& (3 : Int32))), .val (.int xa), .val (.int xb), .val (.int xc), .val (.ref b103), .val (.ref b113), .val (.ref b117), .unset] [])) _
                      refine XS.iload X119.here hx rfl (hb hby at_174) rfl ?_
                      show Steps p.tables e below (T119.setTop (mkF m 176 #[.val (.int p1), .val (.int p2), .val (.int p3), .val (.int p4), .val (.int p5), .val (.int p6), .val (.int (p1 &&& (3 : Int32))), .val (.int xa), .val (.int xb), .val (.int xc), .val (.ref b103), .val (.ref b113), .val (.ref b117), .unset] [(.int (p1 &&& (3 : Int32)))])) _
                      refine XS.iconst X119.here hx rfl (hb hby at_176) ?_
                      exact kt
                    show own_End p e below s (T119.setTop (mkF m 177 #[.val (.int p1), .val (.int p2), .val (.int p3), .val (.int p4), .val (.int p5), .val (.int p6), .val (.int (p1 &&& (3 : Int32))), .val (.int xa), .val (.int xb), .val (.int xc), .val (.ref b103), .val (.ref b113), .val (.ref b117), .unset] [(.int (2 : Int32)), (.int (p1 &&& (3 : Int32)))])) (Q0 Z p1 p2 p3 p4 p5 p6 h0 n0) room_1.cells room_1.slots
                    by_cases hc177_135 : (p1 &&& (3 : Int32)) < (2 : Int32)
                    · refine own_pre (A := T119.setTop (mkF m 189 #[.val (.int p1), .val (.int p2), .val (.int p3), .val (.int p4), .val (.int p5), .val (.int p6), .val (.int (p1 &&& (3 : Int32))), .val (.int xa), .val (.int xb), .val (.int xc), .val (.ref b103), .val (.ref b113), .val (.ref b117), .unset] [(.int (3 : Int32)), (.int (p1 &&& (3 : Int32)))])) (fun tt kt => ?_) ?_
                      · show Steps p.tables e below (T119.setTop (mkF m 177 #[.val (.int p1), .val (.int p2), .val (.int p3), .val (.int p4), .val (.int p5), .val (.int p6), .val (.int (p1 &&& (3 : Int32))), .val (.int xa), .val (.int xb), .val (.int xc), .val (.ref b103), .val (.ref b113), .val (.ref b117), .unset] [(.int (2 : Int32)), (.int (p1 &&& (3 : Int32)))])) _
                        refine XS.icmpYes X119.here hx rfl (pc0 := 177) (pc' := 186) rfl (hb hby at_177) rfl (tlt hc177_135).1 (by decide) (by decide) ?_
                        show Steps p.tables e below (T119.setTop (mkF m 186 #[.val (.int p1), .val (.int p2), .val (.int p3), .val (.int p4), .val (.int p5), .val (.int p6), .val (.int (p1 &&& (3 : Int32))), .val (.int xa), .val (.int xb), .val (.int xc), .val (.ref b103), .val (.ref b113), .val (.ref b117), .unset] [])) _
                        refine XS.iload X119.here hx rfl (hb hby at_186) rfl ?_
                        show Steps p.tables e below (T119.setTop (mkF m 188 #[.val (.int p1), .val (.int p2), .val (.int p3), .val (.int p4), .val (.int p5), .val (.int p6), .val (.int (p1 &&& (3 : Int32))), .val (.int xa), .val (.int xb), .val (.int xc), .val (.ref b103), .val (.ref b113), .val (.ref b117), .unset] [(.int (p1 &&& (3 : Int32)))])) _
                        refine XS.iconst X119.here hx rfl (hb hby at_188) ?_
                        exact kt
                      show own_End p e below s (T119.setTop (mkF m 189 #[.val (.int p1), .val (.int p2), .val (.int p3), .val (.int p4), .val (.int p5), .val (.int p6), .val (.int (p1 &&& (3 : Int32))), .val (.int xa), .val (.int xb), .val (.int xc), .val (.ref b103), .val (.ref b113), .val (.ref b117), .unset] [(.int (3 : Int32)), (.int (p1 &&& (3 : Int32)))])) (Q0 Z p1 p2 p3 p4 p5 p6 h0 n0) room_1.cells room_1.slots
                      by_cases hc189_136 : (p1 &&& (3 : Int32)) < (3 : Int32)
                      · refine own_pre (A := T119.setTop (mkF m 203 #[.val (.int p1), .val (.int p2), .val (.int p3), .val (.int p4), .val (.int p5), .val (.int p6), .val (.int (p1 &&& (3 : Int32))), .val (.int xa), .val (.int xb), .val (.int xc), .val (.ref b103), .val (.ref b113), .val (.ref b117), .unset] [(.int (0 : Int32))])) (fun tt kt => ?_) ?_
                        · show Steps p.tables e below (T119.setTop (mkF m 189 #[.val (.int p1), .val (.int p2), .val (.int p3), .val (.int p4), .val (.int p5), .val (.int p6), .val (.int (p1 &&& (3 : Int32))), .val (.int xa), .val (.int xb), .val (.int xc), .val (.ref b103), .val (.ref b113), .val (.ref b117), .unset] [(.int (3 : Int32)), (.int (p1 &&& (3 : Int32)))])) _
                          refine XS.icmpYes X119.here hx rfl (pc0 := 189) (pc' := 202) rfl (hb hby at_189) rfl (tlt hc189_136).1 (by decide) (by decide) ?_
                          show Steps p.tables e below (T119.setTop (mkF m 202 #[.val (.int p1), .val (.int p2), .val (.int p3), .val (.int p4), .val (.int p5), .val (.int p6), .val (.int (p1 &&& (3 : Int32))), .val (.int xa), .val (.int xb), .val (.int xc), .val (.ref b103), .val (.ref b113), .val (.ref b117), .unset] [])) _
                          refine XS.iconst X119.here hx rfl (hb hby at_202) ?_
                          exact kt
                        show own_End p e below s (T119.setTop (mkF m 203 #[.val (.int p1), .val (.int p2), .val (.int p3), .val (.int p4), .val (.int p5), .val (.int p6), .val (.int (p1 &&& (3 : Int32))), .val (.int xa), .val (.int xb), .val (.int xc), .val (.ref b103), .val (.ref b113), .val (.ref b117), .unset] [(.int (0 : Int32))])) (Q0 Z p1 p2 p3 p4 p5 p6 h0 n0) room_1.cells room_1.slots
                        exact j203 _ _ X119 rfl N119 (0 : Int32)  (hj.trans (by simp only [own_law_142bbb, if_neg hc165_127, if_neg hc171_134, if_pos hc177_135, if_pos hc189_136]))
                      · refine own_pre (A := T119.setTop (mkF m 195 #[.val (.int p1), .val (.int p2), .val (.int p3), .val (.int p4), .val (.int p5), .val (.int p6), .val (.int (p1 &&& (3 : Int32))), .val (.int xa), .val (.int xb), .val (.int xc), .val (.ref b103), .val (.ref b113), .val (.ref b117), .unset] [(.int p2), (.int xc)])) (fun tt kt => ?_) ?_
                        · show Steps p.tables e below (T119.setTop (mkF m 189 #[.val (.int p1), .val (.int p2), .val (.int p3), .val (.int p4), .val (.int p5), .val (.int p6), .val (.int (p1 &&& (3 : Int32))), .val (.int xa), .val (.int xb), .val (.int xc), .val (.ref b103), .val (.ref b113), .val (.ref b117), .unset] [(.int (3 : Int32)), (.int (p1 &&& (3 : Int32)))])) _
                          refine XS.icmpNo X119.here hx rfl (hb hby at_189) rfl (flt hc189_136).1 ?_
                          show Steps p.tables e below (T119.setTop (mkF m 192 #[.val (.int p1), .val (.int p2), .val (.int p3), .val (.int p4), .val (.int p5), .val (.int p6), .val (.int (p1 &&& (3 : Int32))), .val (.int xa), .val (.int xb), .val (.int xc), .val (.ref b103), .val (.ref b113), .val (.ref b117), .unset] [])) _
                          refine XS.iload X119.here hx rfl (hb hby at_192) rfl ?_
                          show Steps p.tables e below (T119.setTop (mkF m 194 #[.val (.int p1), .val (.int p2), .val (.int p3), .val (.int p4), .val (.int p5), .val (.int p6), .val (.int (p1 &&& (3 : Int32))), .val (.int xa), .val (.int xb), .val (.int xc), .val (.ref b103), .val (.ref b113), .val (.ref b117), .unset] [(.int xc)])) _
                          refine XS.iloadN X119.here hx rfl (hb hby at_194) rfl ?_
                          exact kt
                        show own_End p e below s (T119.setTop (mkF m 195 #[.val (.int p1), .val (.int p2), .val (.int p3), .val (.int p4), .val (.int p5), .val (.int p6), .val (.int (p1 &&& (3 : Int32))), .val (.int xa), .val (.int xb), .val (.int xc), .val (.ref b103), .val (.ref b113), .val (.ref b117), .unset] [(.int p2), (.int xc)])) (Q0 Z p1 p2 p3 p4 p5 p6 h0 n0) room_1.cells room_1.slots
                        by_cases hc195_137 : xc = p2
                        · refine own_pre (A := T119.setTop (mkF m 203 #[.val (.int p1), .val (.int p2), .val (.int p3), .val (.int p4), .val (.int p5), .val (.int p6), .val (.int (p1 &&& (3 : Int32))), .val (.int xa), .val (.int xb), .val (.int xc), .val (.ref b103), .val (.ref b113), .val (.ref b117), .unset] [(.int (1 : Int32))])) (fun tt kt => ?_) ?_
                          · show Steps p.tables e below (T119.setTop (mkF m 195 #[.val (.int p1), .val (.int p2), .val (.int p3), .val (.int p4), .val (.int p5), .val (.int p6), .val (.int (p1 &&& (3 : Int32))), .val (.int xa), .val (.int xb), .val (.int xc), .val (.ref b103), .val (.ref b113), .val (.ref b117), .unset] [(.int p2), (.int xc)])) _
                            refine XS.icmpNo X119.here hx rfl (hb hby at_195) rfl (teq hc195_137).2 ?_
                            show Steps p.tables e below (T119.setTop (mkF m 198 #[.val (.int p1), .val (.int p2), .val (.int p3), .val (.int p4), .val (.int p5), .val (.int p6), .val (.int (p1 &&& (3 : Int32))), .val (.int xa), .val (.int xb), .val (.int xc), .val (.ref b103), .val (.ref b113), .val (.ref b117), .unset] [])) _
                            refine XS.iconst X119.here hx rfl (hb hby at_198) ?_
                            show Steps p.tables e below (T119.setTop (mkF m 199 #[.val (.int p1), .val (.int p2), .val (.int p3), .val (.int p4), .val (.int p5), .val (.int p6), .val (.int (p1 &&& (3 : Int32))), .val (.int xa), .val (.int xb), .val (.int xc), .val (.ref b103), .val (.ref b113), .val (.ref b117), .unset] [(.int (1 : Int32))])) _
                            refine XS.goto X119.here hx rfl (pc0 := 199) (pc' := 203) rfl (hb hby at_199) (by decide) (by decide) ?_
                            exact kt
                          show own_End p e below s (T119.setTop (mkF m 203 #[.val (.int p1), .val (.int p2), .val (.int p3), .val (.int p4), .val (.int p5), .val (.int p6), .val (.int (p1 &&& (3 : Int32))), .val (.int xa), .val (.int xb), .val (.int xc), .val (.ref b103), .val (.ref b113), .val (.ref b117), .unset] [(.int (1 : Int32))])) (Q0 Z p1 p2 p3 p4 p5 p6 h0 n0) room_1.cells room_1.slots
                          exact j203 _ _ X119 rfl N119 (1 : Int32)  (hj.trans (by simp only [own_law_142bbb, if_neg hc165_127, if_neg hc171_134, if_pos hc177_135, if_neg hc189_136, if_pos hc195_137]))
                        · refine own_pre (A := T119.setTop (mkF m 203 #[.val (.int p1), .val (.int p2), .val (.int p3), .val (.int p4), .val (.int p5), .val (.int p6), .val (.int (p1 &&& (3 : Int32))), .val (.int xa), .val (.int xb), .val (.int xc), .val (.ref b103), .val (.ref b113), .val (.ref b117), .unset] [(.int (0 : Int32))])) (fun tt kt => ?_) ?_
                          · show Steps p.tables e below (T119.setTop (mkF m 195 #[.val (.int p1), .val (.int p2), .val (.int p3), .val (.int p4), .val (.int p5), .val (.int p6), .val (.int (p1 &&& (3 : Int32))), .val (.int xa), .val (.int xb), .val (.int xc), .val (.ref b103), .val (.ref b113), .val (.ref b117), .unset] [(.int p2), (.int xc)])) _
                            refine XS.icmpYes X119.here hx rfl (pc0 := 195) (pc' := 202) rfl (hb hby at_195) rfl (feq hc195_137).2 (by decide) (by decide) ?_
                            show Steps p.tables e below (T119.setTop (mkF m 202 #[.val (.int p1), .val (.int p2), .val (.int p3), .val (.int p4), .val (.int p5), .val (.int p6), .val (.int (p1 &&& (3 : Int32))), .val (.int xa), .val (.int xb), .val (.int xc), .val (.ref b103), .val (.ref b113), .val (.ref b117), .unset] [])) _
                            refine XS.iconst X119.here hx rfl (hb hby at_202) ?_
                            exact kt
                          show own_End p e below s (T119.setTop (mkF m 203 #[.val (.int p1), .val (.int p2), .val (.int p3), .val (.int p4), .val (.int p5), .val (.int p6), .val (.int (p1 &&& (3 : Int32))), .val (.int xa), .val (.int xb), .val (.int xc), .val (.ref b103), .val (.ref b113), .val (.ref b117), .unset] [(.int (0 : Int32))])) (Q0 Z p1 p2 p3 p4 p5 p6 h0 n0) room_1.cells room_1.slots
                          exact j203 _ _ X119 rfl N119 (0 : Int32)  (hj.trans (by simp only [own_law_142bbb, if_neg hc165_127, if_neg hc171_134, if_pos hc177_135, if_neg hc189_136, if_neg hc195_137]))
                    · refine own_pre (A := T119.setTop (mkF m 183 #[.val (.int p1), .val (.int p2), .val (.int p3), .val (.int p4), .val (.int p5), .val (.int p6), .val (.int (p1 &&& (3 : Int32))), .val (.int xa), .val (.int xb), .val (.int xc), .val (.ref b103), .val (.ref b113), .val (.ref b117), .unset] [(.int p2), (.int xb)])) (fun tt kt => ?_) ?_
                      · show Steps p.tables e below (T119.setTop (mkF m 177 #[.val (.int p1), .val (.int p2), .val (.int p3), .val (.int p4), .val (.int p5), .val (.int p6), .val (.int (p1 &&& (3 : Int32))), .val (.int xa), .val (.int xb), .val (.int xc), .val (.ref b103), .val (.ref b113), .val (.ref b117), .unset] [(.int (2 : Int32)), (.int (p1 &&& (3 : Int32)))])) _
                        refine XS.icmpNo X119.here hx rfl (hb hby at_177) rfl (flt hc177_135).1 ?_
                        show Steps p.tables e below (T119.setTop (mkF m 180 #[.val (.int p1), .val (.int p2), .val (.int p3), .val (.int p4), .val (.int p5), .val (.int p6), .val (.int (p1 &&& (3 : Int32))), .val (.int xa), .val (.int xb), .val (.int xc), .val (.ref b103), .val (.ref b113), .val (.ref b117), .unset] [])) _
                        refine XS.iload X119.here hx rfl (hb hby at_180) rfl ?_
                        show Steps p.tables e below (T119.setTop (mkF m 182 #[.val (.int p1), .val (.int p2), .val (.int p3), .val (.int p4), .val (.int p5), .val (.int p6), .val (.int (p1 &&& (3 : Int32))), .val (.int xa), .val (.int xb), .val (.int xc), .val (.ref b103), .val (.ref b113), .val (.ref b117), .unset] [(.int xb)])) _
                        refine XS.iloadN X119.here hx rfl (hb hby at_182) rfl ?_
                        exact kt
                      show own_End p e below s (T119.setTop (mkF m 183 #[.val (.int p1), .val (.int p2), .val (.int p3), .val (.int p4), .val (.int p5), .val (.int p6), .val (.int (p1 &&& (3 : Int32))), .val (.int xa), .val (.int xb), .val (.int xc), .val (.ref b103), .val (.ref b113), .val (.ref b117), .unset] [(.int p2), (.int xb)])) (Q0 Z p1 p2 p3 p4 p5 p6 h0 n0) room_1.cells room_1.slots
                      by_cases hc183_138 : xb = p2
                      · refine own_pre (A := T119.setTop (mkF m 203 #[.val (.int p1), .val (.int p2), .val (.int p3), .val (.int p4), .val (.int p5), .val (.int p6), .val (.int (p1 &&& (3 : Int32))), .val (.int xa), .val (.int xb), .val (.int xc), .val (.ref b103), .val (.ref b113), .val (.ref b117), .unset] [(.int (1 : Int32))])) (fun tt kt => ?_) ?_
                        · show Steps p.tables e below (T119.setTop (mkF m 183 #[.val (.int p1), .val (.int p2), .val (.int p3), .val (.int p4), .val (.int p5), .val (.int p6), .val (.int (p1 &&& (3 : Int32))), .val (.int xa), .val (.int xb), .val (.int xc), .val (.ref b103), .val (.ref b113), .val (.ref b117), .unset] [(.int p2), (.int xb)])) _
                          refine XS.icmpYes X119.here hx rfl (pc0 := 183) (pc' := 198) rfl (hb hby at_183) rfl (teq hc183_138).1 (by decide) (by decide) ?_
                          show Steps p.tables e below (T119.setTop (mkF m 198 #[.val (.int p1), .val (.int p2), .val (.int p3), .val (.int p4), .val (.int p5), .val (.int p6), .val (.int (p1 &&& (3 : Int32))), .val (.int xa), .val (.int xb), .val (.int xc), .val (.ref b103), .val (.ref b113), .val (.ref b117), .unset] [])) _
                          refine XS.iconst X119.here hx rfl (hb hby at_198) ?_
                          show Steps p.tables e below (T119.setTop (mkF m 199 #[.val (.int p1), .val (.int p2), .val (.int p3), .val (.int p4), .val (.int p5), .val (.int p6), .val (.int (p1 &&& (3 : Int32))), .val (.int xa), .val (.int xb), .val (.int xc), .val (.ref b103), .val (.ref b113), .val (.ref b117), .unset] [(.int (1 : Int32))])) _
                          refine XS.goto X119.here hx rfl (pc0 := 199) (pc' := 203) rfl (hb hby at_199) (by decide) (by decide) ?_
                          exact kt
                        show own_End p e below s (T119.setTop (mkF m 203 #[.val (.int p1), .val (.int p2), .val (.int p3), .val (.int p4), .val (.int p5), .val (.int p6), .val (.int (p1 &&& (3 : Int32))), .val (.int xa), .val (.int xb), .val (.int xc), .val (.ref b103), .val (.ref b113), .val (.ref b117), .unset] [(.int (1 : Int32))])) (Q0 Z p1 p2 p3 p4 p5 p6 h0 n0) room_1.cells room_1.slots
                        exact j203 _ _ X119 rfl N119 (1 : Int32)  (hj.trans (by simp only [own_law_142bbb, if_neg hc165_127, if_neg hc171_134, if_neg hc177_135, if_pos hc183_138]))
                      · refine own_pre (A := T119.setTop (mkF m 189 #[.val (.int p1), .val (.int p2), .val (.int p3), .val (.int p4), .val (.int p5), .val (.int p6), .val (.int (p1 &&& (3 : Int32))), .val (.int xa), .val (.int xb), .val (.int xc), .val (.ref b103), .val (.ref b113), .val (.ref b117), .unset] [(.int (3 : Int32)), (.int (p1 &&& (3 : Int32)))])) (fun tt kt => ?_) ?_
                        · show Steps p.tables e below (T119.setTop (mkF m 183 #[.val (.int p1), .val (.int p2), .val (.int p3), .val (.int p4), .val (.int p5), .val (.int p6), .val (.int (p1 &&& (3 : Int32))), .val (.int xa), .val (.int xb), .val (.int xc), .val (.ref b103), .val (.ref b113), .val (.ref b117), .unset] [(.int p2), (.int xb)])) _
                          refine XS.icmpNo X119.here hx rfl (hb hby at_183) rfl (feq hc183_138).1 ?_
                          show Steps p.tables e below (T119.setTop (mkF m 186 #[.val (.int p1), .val (.int p2), .val (.int p3), .val (.int p4), .val (.int p5), .val (.int p6), .val (.int (p1 &&& (3 : Int32))), .val (.int xa), .val (.int xb), .val (.int xc), .val (.ref b103), .val (.ref b113), .val (.ref b117), .unset] [])) _
                          refine XS.iload X119.here hx rfl (hb hby at_186) rfl ?_
                          show Steps p.tables e below (T119.setTop (mkF m 188 #[.val (.int p1), .val (.int p2), .val (.int p3), .val (.int p4), .val (.int p5), .val (.int p6), .val (.int (p1 &&& (3 : Int32))), .val (.int xa), .val (.int xb), .val (.int xc), .val (.ref b103), .val (.ref b113), .val (.ref b117), .unset] [(.int (p1 &&& (3 : Int32)))])) _
                          refine XS.iconst X119.here hx rfl (hb hby at_188) ?_
                          exact kt
                        show own_End p e below s (T119.setTop (mkF m 189 #[.val (.int p1), .val (.int p2), .val (.int p3), .val (.int p4), .val (.int p5), .val (.int p6), .val (.int (p1 &&& (3 : Int32))), .val (.int xa), .val (.int xb), .val (.int xc), .val (.ref b103), .val (.ref b113), .val (.ref b117), .unset] [(.int (3 : Int32)), (.int (p1 &&& (3 : Int32)))])) (Q0 Z p1 p2 p3 p4 p5 p6 h0 n0) room_1.cells room_1.slots
                        by_cases hc189_139 : (p1 &&& (3 : Int32)) < (3 : Int32)
                        · refine own_pre (A := T119.setTop (mkF m 203 #[.val (.int p1), .val (.int p2), .val (.int p3), .val (.int p4), .val (.int p5), .val (.int p6), .val (.int (p1 &&& (3 : Int32))), .val (.int xa), .val (.int xb), .val (.int xc), .val (.ref b103), .val (.ref b113), .val (.ref b117), .unset] [(.int (0 : Int32))])) (fun tt kt => ?_) ?_
                          · show Steps p.tables e below (T119.setTop (mkF m 189 #[.val (.int p1), .val (.int p2), .val (.int p3), .val (.int p4), .val (.int p5), .val (.int p6), .val (.int (p1 &&& (3 : Int32))), .val (.int xa), .val (.int xb), .val (.int xc), .val (.ref b103), .val (.ref b113), .val (.ref b117), .unset] [(.int (3 : Int32)), (.int (p1 &&& (3 : Int32)))])) _
                            refine XS.icmpYes X119.here hx rfl (pc0 := 189) (pc' := 202) rfl (hb hby at_189) rfl (tlt hc189_139).1 (by decide) (by decide) ?_
                            show Steps p.tables e below (T119.setTop (mkF m 202 #[.val (.int p1), .val (.int p2), .val (.int p3), .val (.int p4), .val (.int p5), .val (.int p6), .val (.int (p1 &&& (3 : Int32))), .val (.int xa), .val (.int xb), .val (.int xc), .val (.ref b103), .val (.ref b113), .val (.ref b117), .unset] [])) _
                            refine XS.iconst X119.here hx rfl (hb hby at_202) ?_
                            exact kt
                          show own_End p e below s (T119.setTop (mkF m 203 #[.val (.int p1), .val (.int p2), .val (.int p3), .val (.int p4), .val (.int p5), .val (.int p6), .val (.int (p1 &&& (3 : Int32))), .val (.int xa), .val (.int xb), .val (.int xc), .val (.ref b103), .val (.ref b113), .val (.ref b117), .unset] [(.int (0 : Int32))])) (Q0 Z p1 p2 p3 p4 p5 p6 h0 n0) room_1.cells room_1.slots
                          exact j203 _ _ X119 rfl N119 (0 : Int32)  (hj.trans (by simp only [own_law_142bbb, if_neg hc165_127, if_neg hc171_134, if_neg hc177_135, if_neg hc183_138, if_pos hc189_139]))
                        · refine own_pre (A := T119.setTop (mkF m 195 #[.val (.int p1), .val (.int p2), .val (.int p3), .val (.int p4), .val (.int p5), .val (.int p6), .val (.int (p1 &&& (3 : Int32))), .val (.int xa), .val (.int xb), .val (.int xc), .val (.ref b103), .val (.ref b113), .val (.ref b117), .unset] [(.int p2), (.int xc)])) (fun tt kt => ?_) ?_
                          · show Steps p.tables e below (T119.setTop (mkF m 189 #[.val (.int p1), .val (.int p2), .val (.int p3), .val (.int p4), .val (.int p5), .val (.int p6), .val (.int (p1 &&& (3 : Int32))), .val (.int xa), .val (.int xb), .val (.int xc), .val (.ref b103), .val (.ref b113), .val (.ref b117), .unset] [(.int (3 : Int32)), (.int (p1 &&& (3 : Int32)))])) _
                            refine XS.icmpNo X119.here hx rfl (hb hby at_189) rfl (flt hc189_139).1 ?_
                            show Steps p.tables e below (T119.setTop (mkF m 192 #[.val (.int p1), .val (.int p2), .val (.int p3), .val (.int p4), .val (.int p5), .val (.int p6), .val (.int (p1 &&& (3 : Int32))), .val (.int xa), .val (.int xb), .val (.int xc), .val (.ref b103), .val (.ref b113), .val (.ref b117), .unset] [])) _
                            refine XS.iload X119.here hx rfl (hb hby at_192) rfl ?_
                            show Steps p.tables e below (T119.setTop (mkF m 194 #[.val (.int p1), .val (.int p2), .val (.int p3), .val (.int p4), .val (.int p5), .val (.int p6), .val (.int (p1 &&& (3 : Int32))), .val (.int xa), .val (.int xb), .val (.int xc), .val (.ref b103), .val (.ref b113), .val (.ref b117), .unset] [(.int xc)])) _
                            refine XS.iloadN X119.here hx rfl (hb hby at_194) rfl ?_
                            exact kt
                          show own_End p e below s (T119.setTop (mkF m 195 #[.val (.int p1), .val (.int p2), .val (.int p3), .val (.int p4), .val (.int p5), .val (.int p6), .val (.int (p1 &&& (3 : Int32))), .val (.int xa), .val (.int xb), .val (.int xc), .val (.ref b103), .val (.ref b113), .val (.ref b117), .unset] [(.int p2), (.int xc)])) (Q0 Z p1 p2 p3 p4 p5 p6 h0 n0) room_1.cells room_1.slots
                          by_cases hc195_140 : xc = p2
                          · refine own_pre (A := T119.setTop (mkF m 203 #[.val (.int p1), .val (.int p2), .val (.int p3), .val (.int p4), .val (.int p5), .val (.int p6), .val (.int (p1 &&& (3 : Int32))), .val (.int xa), .val (.int xb), .val (.int xc), .val (.ref b103), .val (.ref b113), .val (.ref b117), .unset] [(.int (1 : Int32))])) (fun tt kt => ?_) ?_
                            · show Steps p.tables e below (T119.setTop (mkF m 195 #[.val (.int p1), .val (.int p2), .val (.int p3), .val (.int p4), .val (.int p5), .val (.int p6), .val (.int (p1 &&& (3 : Int32))), .val (.int xa), .val (.int xb), .val (.int xc), .val (.ref b103), .val (.ref b113), .val (.ref b117), .unset] [(.int p2), (.int xc)])) _
                              refine XS.icmpNo X119.here hx rfl (hb hby at_195) rfl (teq hc195_140).2 ?_
                              show Steps p.tables e below (T119.setTop (mkF m 198 #[.val (.int p1), .val (.int p2), .val (.int p3), .val (.int p4), .val (.int p5), .val (.int p6), .val (.int (p1 &&& (3 : Int32))), .val (.int xa), .val (.int xb), .val (.int xc), .val (.ref b103), .val (.ref b113), .val (.ref b117), .unset] [])) _
                              refine XS.iconst X119.here hx rfl (hb hby at_198) ?_
                              show Steps p.tables e below (T119.setTop (mkF m 199 #[.val (.int p1), .val (.int p2), .val (.int p3), .val (.int p4), .val (.int p5), .val (.int p6), .val (.int (p1 &&& (3 : Int32))), .val (.int xa), .val (.int xb), .val (.int xc), .val (.ref b103), .val (.ref b113), .val (.ref b117), .unset] [(.int (1 : Int32))])) _
                              refine XS.goto X119.here hx rfl (pc0 := 199) (pc' := 203) rfl (hb hby at_199) (by decide) (by decide) ?_
                              exact kt
                            show own_End p e below s (T119.setTop (mkF m 203 #[.val (.int p1), .val (.int p2), .val (.int p3), .val (.int p4), .val (.int p5), .val (.int p6), .val (.int (p1 &&& (3 : Int32))), .val (.int xa), .val (.int xb), .val (.int xc), .val (.ref b103), .val (.ref b113), .val (.ref b117), .unset] [(.int (1 : Int32))])) (Q0 Z p1 p2 p3 p4 p5 p6 h0 n0) room_1.cells room_1.slots
                            exact j203 _ _ X119 rfl N119 (1 : Int32)  (hj.trans (by simp only [own_law_142bbb, if_neg hc165_127, if_neg hc171_134, if_neg hc177_135, if_neg hc183_138, if_neg hc189_139, if_pos hc195_140]))
                          · refine own_pre (A := T119.setTop (mkF m 203 #[.val (.int p1), .val (.int p2), .val (.int p3), .val (.int p4), .val (.int p5), .val (.int p6), .val (.int (p1 &&& (3 : Int32))), .val (.int xa), .val (.int xb), .val (.int xc), .val (.ref b103), .val (.ref b113), .val (.ref b117), .unset] [(.int (0 : Int32))])) (fun tt kt => ?_) ?_
                            · show Steps p.tables e below (T119.setTop (mkF m 195 #[.val (.int p1), .val (.int p2), .val (.int p3), .val (.int p4), .val (.int p5), .val (.int p6), .val (.int (p1 &&& (3 : Int32))), .val (.int xa), .val (.int xb), .val (.int xc), .val (.ref b103), .val (.ref b113), .val (.ref b117), .unset] [(.int p2), (.int xc)])) _
                              refine XS.icmpYes X119.here hx rfl (pc0 := 195) (pc' := 202) rfl (hb hby at_195) rfl (feq hc195_140).2 (by decide) (by decide) ?_
                              show Steps p.tables e below (T119.setTop (mkF m 202 #[.val (.int p1), .val (.int p2), .val (.int p3), .val (.int p4), .val (.int p5), .val (.int p6), .val (.int (p1 &&& (3 : Int32))), .val (.int xa), .val (.int xb), .val (.int xc), .val (.ref b103), .val (.ref b113), .val (.ref b117), .unset] [])) _
                              refine XS.iconst X119.here hx rfl (hb hby at_202) ?_
                              exact kt
                            show own_End p e below s (T119.setTop (mkF m 203 #[.val (.int p1), .val (.int p2), .val (.int p3), .val (.int p4), .val (.int p5), .val (.int p6), .val (.int (p1 &&& (3 : Int32))), .val (.int xa), .val (.int xb), .val (.int xc), .val (.ref b103), .val (.ref b113), .val (.ref b117), .unset] [(.int (0 : Int32))])) (Q0 Z p1 p2 p3 p4 p5 p6 h0 n0) room_1.cells room_1.slots
                            exact j203 _ _ X119 rfl N119 (0 : Int32)  (hj.trans (by simp only [own_law_142bbb, if_neg hc165_127, if_neg hc171_134, if_neg hc177_135, if_neg hc183_138, if_neg hc189_139, if_neg hc195_140]))
              by_cases hc134_141 : (p6 &&& (8 : Int32)) = (0 : Int32)
              · refine own_pre (A := T113.setTop (mkF m 142 #[.val (.int p1), .val (.int p2), .val (.int p3), .val (.int p4), .val (.int p5), .val (.int p6), .val (.int (p1 &&& (3 : Int32))), .val (.int xa), .val (.int xb), .val (.int xc), .val (.ref b103), .unset, .unset, .unset] [(.int p4), (.int (0 : Int32)), (.ref b113), (.ref b113)])) (fun tt kt => ?_) ?_
                · show Steps p.tables e below (T113.setTop (mkF m 134 #[.val (.int p1), .val (.int p2), .val (.int p3), .val (.int p4), .val (.int p5), .val (.int p6), .val (.int (p1 &&& (3 : Int32))), .val (.int xa), .val (.int xb), .val (.int xc), .val (.ref b103), .unset, .unset, .unset] [(.int (p6 &&& (8 : Int32))), (.int (0 : Int32)), (.ref b113), (.ref b113)])) _
                  refine XS.ifYes X113.here hx rfl (pc0 := 134) (pc' := 141) rfl (hb hby at_134) rfl ((if0 _ _).trans (teq hc134_141).1) (by decide) (by decide) ?_
                  show Steps p.tables e below (T113.setTop (mkF m 141 #[.val (.int p1), .val (.int p2), .val (.int p3), .val (.int p4), .val (.int p5), .val (.int p6), .val (.int (p1 &&& (3 : Int32))), .val (.int xa), .val (.int xb), .val (.int xc), .val (.ref b103), .unset, .unset, .unset] [(.int (0 : Int32)), (.ref b113), (.ref b113)])) _
                  refine XS.iloadN X113.here hx rfl (hb hby at_141) rfl ?_
                  exact kt
                show own_End p e below s (T113.setTop (mkF m 142 #[.val (.int p1), .val (.int p2), .val (.int p3), .val (.int p4), .val (.int p5), .val (.int p6), .val (.int (p1 &&& (3 : Int32))), .val (.int xa), .val (.int xb), .val (.int xc), .val (.ref b103), .unset, .unset, .unset] [(.int p4), (.int (0 : Int32)), (.ref b113), (.ref b113)])) (Q0 Z p1 p2 p3 p4 p5 p6 h0 n0) room_1.cells room_1.slots
                exact j142 _ _ X113 e113 N111 p4  (hj.trans (by simp only [own_law_46, if_neg hc50_1, if_neg hc64_32, if_neg hc83_66, if_pos hc134_141]))
              · refine own_pre (A := T113.setTop (mkF m 142 #[.val (.int p1), .val (.int p2), .val (.int p3), .val (.int p4), .val (.int p5), .val (.int p6), .val (.int (p1 &&& (3 : Int32))), .val (.int xa), .val (.int xb), .val (.int xc), .val (.ref b103), .unset, .unset, .unset] [(.int p2), (.int (0 : Int32)), (.ref b113), (.ref b113)])) (fun tt kt => ?_) ?_
                · show Steps p.tables e below (T113.setTop (mkF m 134 #[.val (.int p1), .val (.int p2), .val (.int p3), .val (.int p4), .val (.int p5), .val (.int p6), .val (.int (p1 &&& (3 : Int32))), .val (.int xa), .val (.int xb), .val (.int xc), .val (.ref b103), .unset, .unset, .unset] [(.int (p6 &&& (8 : Int32))), (.int (0 : Int32)), (.ref b113), (.ref b113)])) _
                  refine XS.ifNo X113.here hx rfl (hb hby at_134) rfl ((if0 _ _).trans (feq hc134_141).1) ?_
                  show Steps p.tables e below (T113.setTop (mkF m 137 #[.val (.int p1), .val (.int p2), .val (.int p3), .val (.int p4), .val (.int p5), .val (.int p6), .val (.int (p1 &&& (3 : Int32))), .val (.int xa), .val (.int xb), .val (.int xc), .val (.ref b103), .unset, .unset, .unset] [(.int (0 : Int32)), (.ref b113), (.ref b113)])) _
                  refine XS.iloadN X113.here hx rfl (hb hby at_137) rfl ?_
                  show Steps p.tables e below (T113.setTop (mkF m 138 #[.val (.int p1), .val (.int p2), .val (.int p3), .val (.int p4), .val (.int p5), .val (.int p6), .val (.int (p1 &&& (3 : Int32))), .val (.int xa), .val (.int xb), .val (.int xc), .val (.ref b103), .unset, .unset, .unset] [(.int p2), (.int (0 : Int32)), (.ref b113), (.ref b113)])) _
                  refine XS.goto X113.here hx rfl (pc0 := 138) (pc' := 142) rfl (hb hby at_138) (by decide) (by decide) ?_
                  exact kt
                show own_End p e below s (T113.setTop (mkF m 142 #[.val (.int p1), .val (.int p2), .val (.int p3), .val (.int p4), .val (.int p5), .val (.int p6), .val (.int (p1 &&& (3 : Int32))), .val (.int xa), .val (.int xb), .val (.int xc), .val (.ref b103), .unset, .unset, .unset] [(.int p2), (.int (0 : Int32)), (.ref b113), (.ref b113)])) (Q0 Z p1 p2 p3 p4 p5 p6 h0 n0) room_1.cells room_1.slots
                exact j142 _ _ X113 e113 N111 p2  (hj.trans (by simp only [own_law_46, if_neg hc50_1, if_neg hc64_32, if_neg hc83_66, if_neg hc134_141]))
      by_cases hc37_142 : (p6 &&& (4 : Int32)) = (0 : Int32)
      · refine own_pre (A := Tj31.setTop (mkF m 46 #[.val (.int p1), .val (.int p2), .val (.int p3), .val (.int p4), .val (.int p5), .val (.int p6), .val (.int (p1 &&& (3 : Int32))), .val (.int xa), .val (.int xb), .unset, .unset, .unset, .unset, .unset] [(.int p5)])) (fun tt kt => ?_) ?_
        · show Steps p.tables e below (Tj31.setTop (mkF m 37 #[.val (.int p1), .val (.int p2), .val (.int p3), .val (.int p4), .val (.int p5), .val (.int p6), .val (.int (p1 &&& (3 : Int32))), .val (.int xa), .val (.int xb), .unset, .unset, .unset, .unset, .unset] [(.int (p6 &&& (4 : Int32)))])) _
          refine XS.ifYes Xj31.here hx rfl (pc0 := 37) (pc' := 44) rfl (hb hby at_37) rfl ((if0 _ _).trans (teq hc37_142).1) (by decide) (by decide) ?_
          show Steps p.tables e below (Tj31.setTop (mkF m 44 #[.val (.int p1), .val (.int p2), .val (.int p3), .val (.int p4), .val (.int p5), .val (.int p6), .val (.int (p1 &&& (3 : Int32))), .val (.int xa), .val (.int xb), .unset, .unset, .unset, .unset, .unset] [])) _
          refine XS.iload Xj31.here hx rfl (hb hby at_44) rfl ?_
          exact kt
        show own_End p e below s (Tj31.setTop (mkF m 46 #[.val (.int p1), .val (.int p2), .val (.int p3), .val (.int p4), .val (.int p5), .val (.int p6), .val (.int (p1 &&& (3 : Int32))), .val (.int xa), .val (.int xb), .unset, .unset, .unset, .unset, .unset] [(.int p5)])) (Q0 Z p1 p2 p3 p4 p5 p6 h0 n0) room_1.cells room_1.slots
        exact j46 _ _ Xj31 ej31 Nj31 p5  (hj.trans (by simp only [own_law_31, if_pos hc37_142]))
      · refine own_pre (A := Tj31.setTop (mkF m 46 #[.val (.int p1), .val (.int p2), .val (.int p3), .val (.int p4), .val (.int p5), .val (.int p6), .val (.int (p1 &&& (3 : Int32))), .val (.int xa), .val (.int xb), .unset, .unset, .unset, .unset, .unset] [(.int p2)])) (fun tt kt => ?_) ?_
        · show Steps p.tables e below (Tj31.setTop (mkF m 37 #[.val (.int p1), .val (.int p2), .val (.int p3), .val (.int p4), .val (.int p5), .val (.int p6), .val (.int (p1 &&& (3 : Int32))), .val (.int xa), .val (.int xb), .unset, .unset, .unset, .unset, .unset] [(.int (p6 &&& (4 : Int32)))])) _
          refine XS.ifNo Xj31.here hx rfl (hb hby at_37) rfl ((if0 _ _).trans (feq hc37_142).1) ?_
          show Steps p.tables e below (Tj31.setTop (mkF m 40 #[.val (.int p1), .val (.int p2), .val (.int p3), .val (.int p4), .val (.int p5), .val (.int p6), .val (.int (p1 &&& (3 : Int32))), .val (.int xa), .val (.int xb), .unset, .unset, .unset, .unset, .unset] [])) _
          refine XS.iloadN Xj31.here hx rfl (hb hby at_40) rfl ?_
          show Steps p.tables e below (Tj31.setTop (mkF m 41 #[.val (.int p1), .val (.int p2), .val (.int p3), .val (.int p4), .val (.int p5), .val (.int p6), .val (.int (p1 &&& (3 : Int32))), .val (.int xa), .val (.int xb), .unset, .unset, .unset, .unset, .unset] [(.int p2)])) _
          refine XS.goto Xj31.here hx rfl (pc0 := 41) (pc' := 46) rfl (hb hby at_41) (by decide) (by decide) ?_
          exact kt
        show own_End p e below s (Tj31.setTop (mkF m 46 #[.val (.int p1), .val (.int p2), .val (.int p3), .val (.int p4), .val (.int p5), .val (.int p6), .val (.int (p1 &&& (3 : Int32))), .val (.int xa), .val (.int xb), .unset, .unset, .unset, .unset, .unset] [(.int p2)])) (Q0 Z p1 p2 p3 p4 p5 p6 h0 n0) room_1.cells room_1.slots
        exact j46 _ _ Xj31 ej31 Nj31 p2  (hj.trans (by simp only [own_law_31, if_neg hc37_142]))
    by_cases hc23_143 : (p6 &&& (2 : Int32)) = (0 : Int32)
    · refine own_pre (A := Tj17.setTop (mkF m 31 #[.val (.int p1), .val (.int p2), .val (.int p3), .val (.int p4), .val (.int p5), .val (.int p6), .val (.int (p1 &&& (3 : Int32))), .val (.int xa), .unset, .unset, .unset, .unset, .unset, .unset] [(.int p4)])) (fun tt kt => ?_) ?_
      · show Steps p.tables e below (Tj17.setTop (mkF m 23 #[.val (.int p1), .val (.int p2), .val (.int p3), .val (.int p4), .val (.int p5), .val (.int p6), .val (.int (p1 &&& (3 : Int32))), .val (.int xa), .unset, .unset, .unset, .unset, .unset, .unset] [(.int (p6 &&& (2 : Int32)))])) _
        refine XS.ifYes Xj17.here hx rfl (pc0 := 23) (pc' := 30) rfl (hb hby at_23) rfl ((if0 _ _).trans (teq hc23_143).1) (by decide) (by decide) ?_
        show Steps p.tables e below (Tj17.setTop (mkF m 30 #[.val (.int p1), .val (.int p2), .val (.int p3), .val (.int p4), .val (.int p5), .val (.int p6), .val (.int (p1 &&& (3 : Int32))), .val (.int xa), .unset, .unset, .unset, .unset, .unset, .unset] [])) _
        refine XS.iloadN Xj17.here hx rfl (hb hby at_30) rfl ?_
        exact kt
      show own_End p e below s (Tj17.setTop (mkF m 31 #[.val (.int p1), .val (.int p2), .val (.int p3), .val (.int p4), .val (.int p5), .val (.int p6), .val (.int (p1 &&& (3 : Int32))), .val (.int xa), .unset, .unset, .unset, .unset, .unset, .unset] [(.int p4)])) (Q0 Z p1 p2 p3 p4 p5 p6 h0 n0) room_1.cells room_1.slots
      exact j31 _ _ Xj17 ej17 Nj17 p4  (hj.trans (by simp only [own_law_17, if_pos hc23_143]))
    · refine own_pre (A := Tj17.setTop (mkF m 31 #[.val (.int p1), .val (.int p2), .val (.int p3), .val (.int p4), .val (.int p5), .val (.int p6), .val (.int (p1 &&& (3 : Int32))), .val (.int xa), .unset, .unset, .unset, .unset, .unset, .unset] [(.int p2)])) (fun tt kt => ?_) ?_
      · show Steps p.tables e below (Tj17.setTop (mkF m 23 #[.val (.int p1), .val (.int p2), .val (.int p3), .val (.int p4), .val (.int p5), .val (.int p6), .val (.int (p1 &&& (3 : Int32))), .val (.int xa), .unset, .unset, .unset, .unset, .unset, .unset] [(.int (p6 &&& (2 : Int32)))])) _
        refine XS.ifNo Xj17.here hx rfl (hb hby at_23) rfl ((if0 _ _).trans (feq hc23_143).1) ?_
        show Steps p.tables e below (Tj17.setTop (mkF m 26 #[.val (.int p1), .val (.int p2), .val (.int p3), .val (.int p4), .val (.int p5), .val (.int p6), .val (.int (p1 &&& (3 : Int32))), .val (.int xa), .unset, .unset, .unset, .unset, .unset, .unset] [])) _
        refine XS.iloadN Xj17.here hx rfl (hb hby at_26) rfl ?_
        show Steps p.tables e below (Tj17.setTop (mkF m 27 #[.val (.int p1), .val (.int p2), .val (.int p3), .val (.int p4), .val (.int p5), .val (.int p6), .val (.int (p1 &&& (3 : Int32))), .val (.int xa), .unset, .unset, .unset, .unset, .unset, .unset] [(.int p2)])) _
        refine XS.goto Xj17.here hx rfl (pc0 := 27) (pc' := 31) rfl (hb hby at_27) (by decide) (by decide) ?_
        exact kt
      show own_End p e below s (Tj17.setTop (mkF m 31 #[.val (.int p1), .val (.int p2), .val (.int p3), .val (.int p4), .val (.int p5), .val (.int p6), .val (.int (p1 &&& (3 : Int32))), .val (.int xa), .unset, .unset, .unset, .unset, .unset, .unset] [(.int p2)])) (Q0 Z p1 p2 p3 p4 p5 p6 h0 n0) room_1.cells room_1.slots
      exact j31 _ _ Xj17 ej17 Nj17 p2  (hj.trans (by simp only [own_law_17, if_neg hc23_143]))
  by_cases hc9_144 : (p6 &&& (1 : Int32)) = (0 : Int32)
  · refine own_pre (A := s₁.setTop (mkF m 17 #[.val (.int p1), .val (.int p2), .val (.int p3), .val (.int p4), .val (.int p5), .val (.int p6), .val (.int (p1 &&& (3 : Int32))), .unset, .unset, .unset, .unset, .unset, .unset, .unset] [(.int p3)])) (fun tt kt => ?_) ?_
    · show Steps p.tables e below (s₁.setTop (mkF m 9 #[.val (.int p1), .val (.int p2), .val (.int p3), .val (.int p4), .val (.int p5), .val (.int p6), .val (.int (p1 &&& (3 : Int32))), .unset, .unset, .unset, .unset, .unset, .unset, .unset] [(.int (p6 &&& (1 : Int32)))])) _
      refine XS.ifYes X0.here hx rfl (pc0 := 9) (pc' := 16) rfl (hb hby at_9) rfl ((if0 _ _).trans (teq hc9_144).1) (by decide) (by decide) ?_
      show Steps p.tables e below (s₁.setTop (mkF m 16 #[.val (.int p1), .val (.int p2), .val (.int p3), .val (.int p4), .val (.int p5), .val (.int p6), .val (.int (p1 &&& (3 : Int32))), .unset, .unset, .unset, .unset, .unset, .unset, .unset] [])) _
      refine XS.iloadN X0.here hx rfl (hb hby at_16) rfl ?_
      exact kt
    show own_End p e below s (s₁.setTop (mkF m 17 #[.val (.int p1), .val (.int p2), .val (.int p3), .val (.int p4), .val (.int p5), .val (.int p6), .val (.int (p1 &&& (3 : Int32))), .unset, .unset, .unset, .unset, .unset, .unset, .unset] [(.int p3)])) (Q0 Z p1 p2 p3 p4 p5 p6 h0 n0) room_1.cells room_1.slots
    exact j17 _ _ X0 e0 N0 p3  (hj.trans (by simp only [own_law, if_pos hc9_144]))
  · refine own_pre (A := s₁.setTop (mkF m 17 #[.val (.int p1), .val (.int p2), .val (.int p3), .val (.int p4), .val (.int p5), .val (.int p6), .val (.int (p1 &&& (3 : Int32))), .unset, .unset, .unset, .unset, .unset, .unset, .unset] [(.int p2)])) (fun tt kt => ?_) ?_
    · show Steps p.tables e below (s₁.setTop (mkF m 9 #[.val (.int p1), .val (.int p2), .val (.int p3), .val (.int p4), .val (.int p5), .val (.int p6), .val (.int (p1 &&& (3 : Int32))), .unset, .unset, .unset, .unset, .unset, .unset, .unset] [(.int (p6 &&& (1 : Int32)))])) _
      refine XS.ifNo X0.here hx rfl (hb hby at_9) rfl ((if0 _ _).trans (feq hc9_144).1) ?_
      show Steps p.tables e below (s₁.setTop (mkF m 12 #[.val (.int p1), .val (.int p2), .val (.int p3), .val (.int p4), .val (.int p5), .val (.int p6), .val (.int (p1 &&& (3 : Int32))), .unset, .unset, .unset, .unset, .unset, .unset, .unset] [])) _
      refine XS.iloadN X0.here hx rfl (hb hby at_12) rfl ?_
      show Steps p.tables e below (s₁.setTop (mkF m 13 #[.val (.int p1), .val (.int p2), .val (.int p3), .val (.int p4), .val (.int p5), .val (.int p6), .val (.int (p1 &&& (3 : Int32))), .unset, .unset, .unset, .unset, .unset, .unset, .unset] [(.int p2)])) _
      refine XS.goto X0.here hx rfl (pc0 := 13) (pc' := 17) rfl (hb hby at_13) (by decide) (by decide) ?_
      exact kt
    show own_End p e below s (s₁.setTop (mkF m 17 #[.val (.int p1), .val (.int p2), .val (.int p3), .val (.int p4), .val (.int p5), .val (.int p6), .val (.int (p1 &&& (3 : Int32))), .unset, .unset, .unset, .unset, .unset, .unset, .unset] [(.int p2)])) (Q0 Z p1 p2 p3 p4 p5 p6 h0 n0) room_1.cells room_1.slots
    exact j17 _ _ X0 e0 N0 p2  (hj.trans (by simp only [own_law, if_neg hc9_144]))
theorem own_sh (g : Nat → Int32) (vb : Int32) : own_shows g (0 : Int32) vb = 0 ∧ own_shows g (1 : Int32) vb = (if g 0 = vb then 1 else 0) ∧ own_shows g (2 : Int32) vb = (if g 0 = vb then 1 else if g 1 = vb then 1 else 0) ∧ own_shows g (3 : Int32) vb = (if g 0 = vb then 1 else if g 1 = vb then 1 else if g 2 = vb then 1 else 0) := by
  have f0 : (0 : Int32).toNatClampNeg = 0 := by decide
  have f1 : (1 : Int32).toNatClampNeg = 1 := by decide
  have f2 : (2 : Int32).toNatClampNeg = 2 := by decide
  have f3 : (3 : Int32).toNatClampNeg = 3 := by decide
  have e1 : (0 : Int32) + 1 = 1 := by decide
  have e2 : (1 : Int32) + 1 = 2 := by decide
  have e3 : (2 : Int32) + 1 = 3 := by decide
  have l00 : ¬ (0 : Int32) < 0 := by decide
  have l01 : (0 : Int32) < 1 := by decide
  have l11 : ¬ (1 : Int32) < 1 := by decide
  have l02 : (0 : Int32) < 2 := by decide
  have l12 : (1 : Int32) < 2 := by decide
  have l22 : ¬ (2 : Int32) < 2 := by decide
  have l0 : (0 : Int32) < 3 := by decide
  have l1 : (1 : Int32) < 3 := by decide
  have l2 : (2 : Int32) < 3 := by decide
  have l3 : ¬ (3 : Int32) < 3 := by decide
  have z : ¬ ((1 : Int32) = 0) := by decide
  have a1 : (1 : Int32) &&& 1 = 1 := by decide
  have a0 : (0 : Int32) &&& 1 = 0 := by decide
  refine ⟨?_, ?_, ?_, ?_⟩
  · simp only [own_shows, f0, own_shows_4, if_neg l00, a0]
  · simp only [own_shows, f0, f1, own_shows_4, e1, if_pos l01, if_neg l11, if_neg z, a1, a0, if_true, ite_self]
  · simp only [own_shows, f0, f1, f2, own_shows_4, e1, e2, if_pos l02, if_pos l12, if_neg l22, if_neg z, a1, a0, if_true, ite_self]
  · simp only [own_shows, f0, f1, f2, f3, own_shows_4, e1, e2, e3, if_pos l0, if_pos l1, if_pos l2, if_neg l3, if_neg z, a1, a0, if_true, ite_self]
theorem own_len (x : Int32) (h0 : ¬ (x &&& (3 : Int32)) = (0 : Int32)) (h1 : ¬ (x &&& (3 : Int32)) = (1 : Int32)) (h2 : ¬ (x &&& (3 : Int32)) = (2 : Int32)) : (x &&& (3 : Int32)) = 3 := by
  have e : (x &&& (3 : Int32)).toInt = x.toInt % (2 ^ 2 : Nat) := c_mask x 3 2 (by decide) (by decide)
  generalize (x &&& (3 : Int32)) = y at *
  have q : ∀ (i : Int), y.toInt = i → y = Int32.ofInt i := fun i h => by rw [← h, Int32.ofInt_toInt]
  have r : y.toInt = 0 ∨ y.toInt = 1 ∨ y.toInt = 2 ∨ y.toInt = 3 := by omega
  rcases r with r | r | r | r
  · exact absurd (q _ r) h0
  · exact absurd (q _ r) h1
  · exact absurd (q _ r) h2
  · exact q _ r
theorem own_46 (p1 p2 p3 p4 p5 p6 a b c : Int32) : own_law_46 p1 p2 p3 p4 p5 p6 a b c = 1 := by
  have t01 : (0 : Int32) < 1 := by decide
  have t02 : (0 : Int32) < 2 := by decide
  have t03 : (0 : Int32) < 3 := by decide
  have t11 : ¬ (1 : Int32) < 1 := by decide
  have t12 : (1 : Int32) < 2 := by decide
  have t13 : (1 : Int32) < 3 := by decide
  have t21 : ¬ (2 : Int32) < 1 := by decide
  have t22 : ¬ (2 : Int32) < 2 := by decide
  have t23 : (2 : Int32) < 3 := by decide
  have t31 : ¬ (3 : Int32) < 1 := by decide
  have t32 : ¬ (3 : Int32) < 2 := by decide
  have t33 : ¬ (3 : Int32) < 3 := by decide
  have z1 : ¬ ((0 : Int32) = 1) := by decide
  unfold own_law_46
  by_cases h0 : (p1 &&& (3 : Int32)) = (0 : Int32)
  · have k : ∀ wv, own_law_142 p1 p2 p3 p4 p5 p6 a b c wv = 1 := fun wv => by
      simp only [own_law_142, own_law_203, h0, if_pos t01, if_pos t02, if_pos t03, (own_sh _ _).1, if_true]
    simp only [if_pos h0, k, ite_self]
  rw [if_neg h0]
  by_cases h1 : (p1 &&& (3 : Int32)) = (1 : Int32)
  · have k : ∀ wv, own_law_142b p1 p2 p3 p4 p5 p6 a b c wv = 1 := fun wv => by
      have g0 : own_law0_g36 p1 p2 p3 p4 p5 p6 a b c 0 = a := rfl
      simp only [own_law_142b, own_law_203b, h1, if_neg t11, if_pos t12, if_pos t13, (own_sh _ _).2.1, g0]
      by_cases q : a = p2
      · simp only [if_pos q, if_true]
      · simp only [if_neg q, if_true]
    simp only [if_pos h1, k, ite_self]
  rw [if_neg h1]
  by_cases h2 : (p1 &&& (3 : Int32)) = (2 : Int32)
  · have k : ∀ wv, own_law_142bb p1 p2 p3 p4 p5 p6 a b c wv = 1 := fun wv => by
      have g0 : own_law0_g73 p1 p2 p3 p4 p5 p6 a b c 0 = a := rfl
      have g1 : own_law0_g73 p1 p2 p3 p4 p5 p6 a b c 1 = b := rfl
      simp only [own_law_142bb, own_law_203bb, h2, if_neg t21, if_neg t22, if_pos t23, (own_sh _ _).2.2.1, g0, g1]
      by_cases q : a = p2
      · simp only [if_pos q, if_true]
      · simp only [if_neg q]
        by_cases q2 : b = p2
        · simp only [if_pos q2, if_true]
        · simp only [if_neg q2, if_true]
    simp only [if_pos h2, k, ite_self]
  rw [if_neg h2]
  have h3 := own_len p1 h0 h1 h2
  have k : ∀ wv, own_law_142bbb p1 p2 p3 p4 p5 p6 a b c wv = 1 := fun wv => by
    have g0 : own_law0_g112 p1 p2 p3 p4 p5 p6 a b c 0 = a := rfl
    have g1 : own_law0_g112 p1 p2 p3 p4 p5 p6 a b c 1 = b := rfl
    have g2 : own_law0_g112 p1 p2 p3 p4 p5 p6 a b c 2 = c := rfl
    simp only [own_law_142bbb, own_law_203bbb, h3, if_neg t31, if_neg t32, if_neg t33, (own_sh _ _).2.2.2, g0, g1, g2]
    by_cases q : a = p2
    · simp only [if_pos q, if_true]
    · simp only [if_neg q]
      by_cases q2 : b = p2
      · simp only [if_pos q2, if_true]
      · simp only [if_neg q2]
        by_cases q3 : c = p2
        · simp only [if_pos q3, if_true]
        · simp only [if_neg q3, if_true]
  simp only [k, ite_self]
theorem own_true (n bonus s0 s1 s2 pick : Int32) : own_law n bonus s0 s1 s2 pick = 1 := by
  simp only [own_law, own_law_17, own_law_31, own_46, ite_self]

set_option maxRecDepth 65536 in
set_option maxHeartbeats 40000000 in
theorem comes_1 {Post : Tables → Env → Array Value → State → Outcome → State → Prop} (hpost : ∀ tb e args s v u, (limb_1_1.after args s (.returned v) u = true ∧ limb_1_2.after args s (.returned v) u = true ∧ True) → FrameEnd s (.returned v) u (Jvm.fieldLocs frame_1_writes args s ++ Jvm.arrayLocs frame_1_arrays args s ++ Jvm.staticLocs frame_1_statics s) 16 128 → Post tb e args s (.returned v) u) :
    ArmFor flags0 classFile x code maxLocals ret World_1 tables_1 room_1 Calls_1 rest_1 Pre_1 Post := by
  intro l hfl _ _ p e ha hc hk s m args below hf hA hF happ hP
  obtain ⟨hcalls, hrest, hpre⟩ := hP
  obtain ⟨-, -, -, hnamed, -, -, -, hat⟩ := (Spec.applies_iff hf).mp happ
  obtain ⟨hg, hn⟩ := and_e (Cond.before_iff.mp (show (Jvm.Cond.and given_1 narrow_1).before args s = true from hpre))
  obtain ⟨g1, g2⟩ := and_e hg
  obtain ⟨g3, g4⟩ := and_e g2
  obtain ⟨g5, g6⟩ := and_e g4
  obtain ⟨g7, g8⟩ := and_e g6
  obtain ⟨g9, g10⟩ := and_e g8
  obtain ⟨g11, g12⟩ := and_e g10
  obtain ⟨w0, w1, w2, w3, w4, w5, rfl⟩ : ∃ w0 w1 w2 w3 w4 w5 : Value, args = #[w0, w1, w2, w3, w4, w5] := by
    have hs : args.size = 6 := by simpa [Cond.value, given_1] using g1
    obtain ⟨L⟩ := args
    match L, hs with
    | [w0, w1, w2, w3, w4, w5], _ => exact ⟨w0, w1, w2, w3, w4, w5, rfl⟩
  have hw := fun d (hd : d ∈ tables_1) => atoms_spec (ws := Jvm.Cond.code x code maxLocals ret :: tables_1) hat d (List.mem_cons_of_mem _ hd)
  have hfit : Fit s := fun {y c} hc i hi => by
    obtain ⟨ha, rfl⟩ := Array.getElem?_eq_some_iff.mp hc
    have q := List.all_eq_true.mp ((Array.all_eq_true_iff_forall_mem.mp hF) _ (Array.getElem_mem ha)) i (List.mem_range.mpr hi)
    simpa [Array.getElem?_eq_getElem hi] using q
  obtain ⟨i0, ei0⟩ := is_v g3
  obtain rfl : w0 = (.int i0) := Option.some.inj ei0
  obtain ⟨i1, ei1⟩ := is_v g5
  obtain rfl : w1 = (.int i1) := Option.some.inj ei1
  obtain ⟨i2, ei2⟩ := is_v g7
  obtain rfl : w2 = (.int i2) := Option.some.inj ei2
  obtain ⟨i3, ei3⟩ := is_v g9
  obtain rfl : w3 = (.int i3) := Option.some.inj ei3
  obtain ⟨i4, ei4⟩ := is_v g11
  obtain rfl : w4 = (.int i4) := Option.some.inj ei4
  obtain ⟨i5, ei5⟩ := is_v g12
  obtain rfl : w5 = (.int i5) := Option.some.inj ei5
  obtain ⟨n, o, h1, h2, h3, _, L, rfl, ⟨rfl, N⟩, hq⟩ := rm0 l s _ hw tables_1 i0 i1 i2 i3 i4 i5 s.heap s.heap.size (Nat.le_refl _)  p e ha hc hk s m _ below hf ((Spec.applies_iff_loose hf).mp happ).1 ⟨rfl, State.Warmed39.refl s, rfl⟩ trivial
  refine ⟨n, _, h1, h2, h3, hpost _ _ _ _ _ _ ⟨Cond.after_iff.mpr rfl, Cond.after_iff.mpr (eq_i res_at (Term.int_eval (1)) (congrArg Value.int (own_true i0 i1 i2 i3 i4 i5))), trivial⟩ ⟨hq.1, hq.2.1, (hq.2.2.sift fun y hy => Or.inr (N y hy)).mono (by decide) (by decide)⟩⟩
theorem main_1_1 : Claimed_1_1 := comes_1 fun _ _ _ _ _ _ h hF => ⟨h.1, hF⟩
theorem main_1_2 : Claimed_1_2 := comes_1 fun _ _ _ _ _ _ h hF => ⟨h.2.1, hF⟩
end Jvm.Pilot.@@N@@
namespace Jvm.Pilot.@@N@@
open Jvm Jvm.ClassFile Sem Op Lib Jvm.Free Jvm.Stand Jvm.Pilot.@@N@@.Jvm.D
/-! MADE BY PROGRAM (witnessworld.py) out of the Statement's table words and the real class files: 11 classes; the members and pool entries that the words name. The judged class is class 1, her method 1. -/
namespace start1
open Jvm.ClassFile
def u (s : String) : CpInfo := .utf8 (stringToUtf16 s)
/-- a pool by its gaps: so many unusable entries, then the entry; so many at the end -/
def gap : Nat → List CpInfo → List CpInfo
  | 0, r => r
  | n + 1, r => .unusable :: gap n r
def poolList (es : List (Nat × CpInfo)) (last : Nat) : List CpInfo := es.foldr (fun e r => gap e.1 (e.2 :: r)) (gap last [])
def pool (es : List (Nat × CpInfo)) (last : Nat) : Array CpInfo := ⟨poolList es last⟩
def fileOf (pool : Array CpInfo) (this : Nat) (attrs : Array Attribute := #[]) (ms : Array MethodInfo := #[]) (fl : Nat := 33) (sup : Nat := 0) (ifs : Array Nat := #[]) (fds : Array FieldInfo := #[]) : ClassFile where
  minorVersion := 0
  majorVersion := 65
  constantPool := pool
  accessFlags := fl
  thisClass := this
  superClass := sup
  interfaces := ifs
  fields := fds
  methods := ms
  attributes := attrs
def plain (name : String) (sup : Option ClassId) : Class where
  name := name
  kind := .ordinary
  loader := none
  accessFlags := 33
  super := sup
  interfaces := #[]
  cf := none
  fields := #[]
  methods := #[]
  instanceTypes := #[]
  staticTypes := #[]
  resolved := #[]
  callSites := []
  init := .initialized
  statics := none
  mirror := none

def pool0 : Array CpInfo := pool [(5, u "<init>"), (0, u "()V"), (1, .class_ 10), (1, u "java/lang/Object")] 113

def k0c0 : Code := { maxStack := 0, maxLocals := 1, code := object_method_1_code, exceptionTable := #[], attributes := #[] }
def k0m0 : Method := { name := "<init>", desc := "()V", sig := { parameters := [], returnType := none }, accessFlags := 1, code := some k0c0 }
/-- java/lang/Object -/
def k0 : Class := { plain "java/lang/Object" none with
  accessFlags := 33
  interfaces := #[]
  cf := some (fileOf pool0 8 #[] #[{ accessFlags := 1, nameIndex := 5, descriptorIndex := 6, attributes := #[] }] 33 0 #[] #[])
  fields := #[]
  methods := #[k0m0]
  instanceTypes := #[]
  staticTypes := #[]
  resolved := Array.replicate 124 none
  statics := none }

def pool1 : Array CpInfo := pool [(2, .class_ 4), (1, u "java/lang/Object"), (0, u "<init>"), (0, u "()V"), (0, .class_ 8), (0, u "com/example/scratchline/scratchline/game/Face"), (0, .methodref 7 10), (0, .nameAndType 5 11), (0, u "([II[I[J)V"), (0, .methodref 7 13), (0, .nameAndType 14 15), (0, u "showsBonus"), (0, u "()Z"), (0, .class_ 17), (0, u "com/example/scratchline/scratchline/game/FaceShowsBonusPinLaw"), (2, u "law"), (0, u "(IIIIII)Z")] 5

def k1m0 : Method := { name := "<init>", desc := "()V", sig := { parameters := [], returnType := none }, accessFlags := 1, code := none }
def k1c1 : Code := { maxStack := 6, maxLocals := 14, code := code, exceptionTable := #[], attributes := #[] }
def k1m1 : Method := { name := "law", desc := "(IIIIII)Z", sig := { parameters := [.int, .int, .int, .int, .int, .int], returnType := some .boolean }, accessFlags := 9, code := some k1c1 }
/-- com/example/scratchline/scratchline/game/FaceShowsBonusPinLaw -/
def k1 : Class := { plain "com/example/scratchline/scratchline/game/FaceShowsBonusPinLaw" (some 0) with
  accessFlags := 49
  interfaces := #[]
  cf := some (fileOf pool1 16 #[] #[{ accessFlags := 1, nameIndex := 5, descriptorIndex := 6, attributes := #[] }, { accessFlags := 9, nameIndex := 20, descriptorIndex := 21, attributes := #[] }] 49 2 #[] #[])
  fields := #[]
  methods := #[k1m0, k1m1]
  instanceTypes := #[]
  staticTypes := #[]
  resolved := Array.replicate 27 none
  statics := none }

def pool2 : Array CpInfo := pool [(3, .methodref 4 5), (0, .class_ 6), (0, .nameAndType 7 8), (0, u "java/lang/Object"), (0, u "<init>"), (0, u "()V"), (0, .fieldref 10 11), (0, .class_ 12), (0, .nameAndType 13 14), (0, u "com/example/scratchline/scratchline/game/Face"), (0, u "winning"), (0, u "[I"), (0, .fieldref 10 16), (0, .nameAndType 17 18), (0, u "bonus"), (0, u "I"), (0, .fieldref 10 20), (0, .nameAndType 21 14), (0, u "spots"), (0, .fieldref 10 23), (0, .nameAndType 24 25), (0, u "prizes"), (0, u "[J"), (64, u "([II[I[J)V"), (70, u "TOO_LARGE"), (0, u "J"), (15, u "showsBonus"), (0, u "()Z")] 28

def k2c0 : Code := { maxStack := 2, maxLocals := 5, code := prog_31_method_1_code, exceptionTable := #[], attributes := #[] }
def k2m0 : Method := { name := "<init>", desc := "([II[I[J)V", sig := { parameters := [(.array .int), .int, (.array .int), (.array .long)], returnType := none }, accessFlags := 0, code := some k2c0 }
def k2c1 : Code := { maxStack := 2, maxLocals := 3, code := prog_31_method_8_code, exceptionTable := #[], attributes := #[] }
def k2m1 : Method := { name := "showsBonus", desc := "()Z", sig := { parameters := [], returnType := some .boolean }, accessFlags := 0, code := some k2c1 }
/-- com/example/scratchline/scratchline/game/Face -/
def k2 : Class := { plain "com/example/scratchline/scratchline/game/Face" (some 0) with
  accessFlags := 49
  interfaces := #[]
  cf := some (fileOf pool2 10 #[] #[{ accessFlags := 0, nameIndex := 7, descriptorIndex := 90, attributes := #[] }, { accessFlags := 0, nameIndex := 178, descriptorIndex := 179, attributes := #[] }] 49 4 #[] #[{ accessFlags := 26, nameIndex := 161, descriptorIndex := 162, attributes := #[] }, { accessFlags := 18, nameIndex := 13, descriptorIndex := 14, attributes := #[] }, { accessFlags := 18, nameIndex := 17, descriptorIndex := 18, attributes := #[] }, { accessFlags := 18, nameIndex := 21, descriptorIndex := 14, attributes := #[] }, { accessFlags := 18, nameIndex := 24, descriptorIndex := 25, attributes := #[] }])
  fields := #[{ name := "TOO_LARGE", type := .long, accessFlags := 26, slot := 0, constantValue := 0 }, { name := "winning", type := (.array .int), accessFlags := 18, slot := 0, constantValue := 0 }, { name := "bonus", type := .int, accessFlags := 18, slot := 1, constantValue := 0 }, { name := "spots", type := (.array .int), accessFlags := 18, slot := 2, constantValue := 0 }, { name := "prizes", type := (.array .long), accessFlags := 18, slot := 3, constantValue := 0 }]
  methods := #[k2m0, k2m1]
  instanceTypes := #[(.array .int), .int, (.array .int), (.array .long)]
  staticTypes := #[.long]
  resolved := Array.replicate 208 none
  statics := none }

def pool3 : Array CpInfo := pool [(1, u "java/lang/Cloneable"), (0, .class_ 1), (0, u "java/lang/Object"), (0, .class_ 3)] 3

/-- java/lang/Cloneable -/
def k3 : Class := { plain "java/lang/Cloneable" (some 0) with
  accessFlags := 1537
  interfaces := #[]
  cf := some (fileOf pool3 2 #[] #[] 1537 4 #[] #[])
  fields := #[]
  methods := #[]
  instanceTypes := #[]
  staticTypes := #[]
  resolved := Array.replicate 8 none
  statics := none }

def pool4 : Array CpInfo := pool [(1, u "java/io/Serializable"), (0, .class_ 1), (0, u "java/lang/Object"), (0, .class_ 3)] 3

/-- java/io/Serializable -/
def k4 : Class := { plain "java/io/Serializable" (some 0) with
  accessFlags := 1537
  interfaces := #[]
  cf := some (fileOf pool4 2 #[] #[] 1537 4 #[] #[])
  fields := #[]
  methods := #[]
  instanceTypes := #[]
  staticTypes := #[]
  resolved := Array.replicate 8 none
  statics := none }

/-- the primitive byte -/
def k5 : Class := { plain "byte" none with kind := .primitive 'B', accessFlags := 0x411 }
/-- [B -/
def k6 : Class := { plain "[B" (some 0) with kind := .array 5 .byte, interfaces := #[3, 4], accessFlags := 1041 }

/-- the primitive int -/
def k7 : Class := { plain "int" none with kind := .primitive 'I', accessFlags := 0x411 }
/-- [I -/
def k8 : Class := { plain "[I" (some 0) with kind := .array 7 .int, interfaces := #[3, 4], accessFlags := 1041 }

/-- the primitive long -/
def k9 : Class := { plain "long" none with kind := .primitive 'J', accessFlags := 0x411 }
/-- [J -/
def k10 : Class := { plain "[J" (some 0) with kind := .array 9 .long, interfaces := #[3, 4], accessFlags := 1041 }

def heap : Heap := #[]
def classes : Array Class := #[k0, k1, k2, k3, k4, k5, k6, k7, k8, k9, k10]
def interned : List (Array UInt16 × Addr) := []
def slotsUsed : Nat := 0
def theMethod : MethodId := ⟨1, 1⟩
def args0 : Array Value := #[.int 5, .int 9, .int 3, .int 9, .int 3, .int 2]
def aboutOver (below : List Frame) : State where
  vm := { classes := classes, interned := interned.toArray }
  heap := heap
  slotsUsed := slotsUsed
  threads := #[{ frames := .invoking theMethod args0 :: below }]
def below0 : List Frame := [.native { method := ⟨0, 0⟩, args := #[] }]
def about1 : State := aboutOver below0
def p0 : Program := .bare "" "" ""
def e0 : Env := launch0.env 0 0 0
theorem w_frames : about1.frames = Frame.invoking theMethod args0 :: below0 := rfl
set_option maxRecDepth 65536 in
theorem w_args : argsFit about1.vm theMethod args0 = true := by decide +kernel
set_option maxRecDepth 65536 in
theorem w_heap : heapFits about1 = true := by decide +kernel
set_option maxRecDepth 65536 in
theorem w_runnable : about1.curStatus? = some .runnable := by decide +kernel
set_option maxRecDepth 65536 in
theorem w_alone : about1.alone = true := by decide +kernel
set_option maxRecDepth 65536 in
theorem w_named : about1.methodNamed? x = some theMethod := by decide +kernel
set_option maxRecDepth 65536 in
theorem w_hears : about1.hears theMethod below0 = true := by decide +kernel
set_option maxRecDepth 65536 in
theorem w_ripe : about1.ripe theMethod args0 below0 = true := by decide +kernel
theorem w_running : about1.status = .running := rfl
set_option maxRecDepth 65536 in
theorem w_room : about1.hasRoom e0.platform room_1 = true :=
  launch0.hasRoom_least _ room_1 (by decide +kernel) (by decide +kernel) (by decide +kernel) (by decide +kernel) (by decide +kernel) (by decide +kernel)
theorem allAtoms_all (ts : List Jvm.Cond) (a : Array Jvm.Value) (st : Jvm.State) : (allAtoms ts).before a st = ts.all (fun c => c.before a st) := by
  induction ts with
  | nil => rfl
  | cons c t ih =>
    show (Jvm.Cond.and c (allAtoms t)).before a st = _
    rw [Jvm.Cond.before_and, ih, List.all_cons]
def words1 : List Jvm.Cond := Jvm.Cond.code x code maxLocals ret :: tables_1
/-- a 'code' word, met by the world's own term for the bytes: nothing is compared byte by byte -/
theorem code_word {y : MethodName} {bytes : ByteArray} {mx : Nat} {rt : Option FieldType} {a : Array Value} {s : State} {m : MethodId} {meth : Method} {c : Code} (h1 : s.methodNamed? y = some m) (h2 : s.vm.method? m = some meth) (h3 : meth.code = some c) (h4 : c.code = bytes)
    (h5 : (c.maxLocals == mx && c.exceptionTable.isEmpty && decide (c.maxStack ≤ mostOperands) && decide (meth.sig.returnType = rt) && !meth.locks && decide (parseMethodDescriptor y.desc = some meth.sig)) = true) : (Jvm.Cond.code y bytes mx rt).before a s = true := by
  simp only [Bool.and_eq_true, beq_iff_eq, Bool.not_eq_true', decide_eq_true_eq] at h5
  obtain ⟨⟨⟨⟨⟨g1, g2⟩, g3⟩, g4⟩, g5⟩, g6⟩ := h5
  simp [Cond.before, Cond.holds, Cond.value, h1, h2, h3, h4, g1, g2, g3, g4, g5, g6]
def isCode : Jvm.Cond → Bool
  | .code _ _ _ _ => true
  | _ => false
theorem all_split {L : List Jvm.Cond} {P : Jvm.Cond → Bool} (h1 : L.all (fun c => isCode c || P c) = true) (h2 : ∀ c ∈ L.filter isCode, P c = true) : L.all P = true := by
  refine List.all_eq_true.mpr fun c hc => ?_
  have h := List.all_eq_true.mp h1 c hc
  rcases Bool.eq_false_or_eq_true (isCode c) with hi | hi
  · exact h2 c (List.mem_filter.mpr ⟨hc, hi⟩)
  · simpa [hi] using h
set_option maxRecDepth 65536 in
theorem w_c0 : (Jvm.Cond.code x code maxLocals ret).before args0 about1 = true := code_word (m := ⟨1, 1⟩) (meth := k1m1) (c := k1c1) (by decide +kernel) rfl rfl rfl (by decide +kernel)
set_option maxRecDepth 65536 in
theorem w_c1 : (Jvm.Cond.code ({ cls := "com/example/scratchline/scratchline/game/Face", name := "<init>", desc := "([II[I[J)V" } : Jvm.MethodName) prog_31_method_1_code (5 : Nat) (Option.none : Option Jvm.ClassFile.FieldType)).before args0 about1 = true := code_word (m := ⟨2, 0⟩) (meth := k2m0) (c := k2c0) (by decide +kernel) rfl rfl rfl (by decide +kernel)
set_option maxRecDepth 65536 in
theorem w_c2 : (Jvm.Cond.code ({ cls := "java/lang/Object", name := "<init>", desc := "()V" } : Jvm.MethodName) object_method_1_code (1 : Nat) (Option.none : Option Jvm.ClassFile.FieldType)).before args0 about1 = true := code_word (m := ⟨0, 0⟩) (meth := k0m0) (c := k0c0) (by decide +kernel) rfl rfl rfl (by decide +kernel)
set_option maxRecDepth 65536 in
theorem w_c3 : (Jvm.Cond.code ({ cls := "com/example/scratchline/scratchline/game/Face", name := "showsBonus", desc := "()Z" } : Jvm.MethodName) prog_31_method_8_code (3 : Nat) (Option.some Jvm.ClassFile.FieldType.boolean)).before args0 about1 = true := code_word (m := ⟨2, 1⟩) (meth := k2m1) (c := k2c1) (by decide +kernel) rfl rfl rfl (by decide +kernel)
def codes1 : List Jvm.Cond := [Jvm.Cond.code x code maxLocals ret, Jvm.Cond.code ({ cls := "com/example/scratchline/scratchline/game/Face", name := "<init>", desc := "([II[I[J)V" } : Jvm.MethodName) prog_31_method_1_code (5 : Nat) (Option.none : Option Jvm.ClassFile.FieldType), Jvm.Cond.code ({ cls := "java/lang/Object", name := "<init>", desc := "()V" } : Jvm.MethodName) object_method_1_code (1 : Nat) (Option.none : Option Jvm.ClassFile.FieldType), Jvm.Cond.code ({ cls := "com/example/scratchline/scratchline/game/Face", name := "showsBonus", desc := "()Z" } : Jvm.MethodName) prog_31_method_8_code (3 : Nat) (Option.some Jvm.ClassFile.FieldType.boolean)]
set_option maxRecDepth 65536 in
theorem codes_eq : words1.filter isCode = codes1 := rfl
theorem w_codes : ∀ c ∈ words1.filter isCode, c.before args0 about1 = true := by
  rw [codes_eq]
  intro c hc
  simp only [codes1, List.mem_cons, List.not_mem_nil, or_false] at hc
  rcases hc with rfl | rfl | rfl | rfl
  · exact w_c0
  · exact w_c1
  · exact w_c2
  · exact w_c3
set_option maxRecDepth 65536 in
theorem w_t1 : (words1.take 24).all (fun c => isCode c || c.before args0 about1) = true := by decide +kernel
set_option maxRecDepth 65536 in
theorem w_t2 : (words1.drop 24).all (fun c => isCode c || c.before args0 about1) = true := by decide +kernel
theorem w_tables : (allAtoms (Jvm.Cond.code x code maxLocals ret :: tables_1)).before args0 about1 = true := by
  rw [allAtoms_all]
  show words1.all (fun c => c.before args0 about1) = true
  refine all_split ?_ w_codes
  rw [← List.take_append_drop 24 words1, List.all_append, w_t1, w_t2]
  rfl
set_option maxRecDepth 65536 in
theorem w_case : (Jvm.Cond.and given_1 narrow_1).before args0 about1 = true := by decide +kernel
theorem w_applies : (headSpec (Jvm.Cond.code x code maxLocals ret :: tables_1) room_1).applies x e0.platform about1 = true :=
  (Spec.applies_iff w_frames).mpr ⟨w_running, w_runnable, w_alone, w_named, w_hears, w_ripe, w_room, w_tables⟩
theorem atStart : AtStart classFile x code maxLocals ret World_1 tables_1 room_1 Calls_1 rest_1 Pre_1 launch0 p0 e0 about1 theMethod args0 below0 :=
  ⟨lists_1, trivial, launch0.admits_env _ _ _, launch0.least_env, fairChoices_fair.cas, fairChoices_fair.clock, w_frames, w_args, w_heap, w_applies, trivial, trivial, w_case⟩
end start1
theorem witness_1 : WitnessClaimed_1 := ⟨start1.p0, start1.e0, start1.about1, start1.theMethod, start1.args0, start1.below0, start1.atStart⟩
end Jvm.Pilot.@@N@@
