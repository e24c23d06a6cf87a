import JvmDerived
import JvmDerived.Pilot.@@N@@Statement
import JvmDerived.Pilot.@@N@@Code
set_option linter.unusedVariables false
set_option linter.unusedSimpArgs false
namespace Jvm.RoadKit
open Sem ClassFile Op Lib Jvm.Stand Jvm.Free Jvm.LawKit
section New
variable {p : Program} {l : Launch} {e : Env} {R : Room} {s : State} {m : MethodId} {args : Array Value} {below : List Frame} {meth : Method} {c : Code} {T : State} {locs : List Loc} {cells slots : Nat}
theorem retI (X : Stand p l e R s m args below meth c T locs cells slots) (hx : p.tables.exec = Jvm.exec) {pc : Nat} {Ls : Array Slot} {z : Int32} {rest : List Value} (hret : meth.sig.returnType = some .int) (hd : decode c.code pc = .ok (.ireturn, 1)) {fs : List Frame}
    (hl : ∀ (f : JFrame) (acts : List Action), f.method = m → f.locked = none → f.entered = [] → (doReturn e (T.setTop f) acts (some (.int z))).1 = T.setFrames fs) : Steps p.tables e below (T.setTop (mkF m pc Ls (.int z :: rest))) (T.setFrames fs) := by
  have hm' : T.vm.method? m = some meth := X.method'
  have hn : narrow .int (.int z) = .int z := rfl
  show Steps p.tables e below (T.setTop { method := m, pc := pc, locals := Ls, stack := _ :: rest, locked := none }) _
  jvm_step X.here [X.here.top, hx, hd, hm', hret, hn]
  first | (intro acts; rw [hl _ acts rfl rfl rfl]) | rw [hl _ _ rfl rfl rfl]
  exact Steps.refl _
end New
/-- the run from the state A ends as asked: what is left of the goal while one walks -/
def own_End (p : Program) (e : Env) (below : List Frame) (s A : State) (W : Option Value → Heap → List Loc → Prop) (k n : Nat) : Prop :=
  ∃ s₂ o, Steps p.tables e below A s₂ ∧ s₂.status = .running ∧ Ended s₂ below o ∧ ∃ v L, o = .returned v ∧ W v s₂.heap L ∧ FrameEnd s o s₂ L k n
theorem own_pre {p : Program} {e : Env} {below : List Frame} {s A B : State} {W : Option Value → Heap → List Loc → Prop} {k n : Nat} (f : ∀ t, Steps p.tables e below A t → Steps p.tables e below B t) (h : own_End p e below s A W k n) : own_End p e below s B W k n := by
  obtain ⟨s₂, o, h1, h2⟩ := h; exact ⟨s₂, o, f _ h1, h2⟩
end Jvm.RoadKit
namespace Jvm.RoadKit
open Sem ClassFile Op Lib Jvm.Stand Jvm.Free Jvm.LawKit
/-- an array of n places, the i-th of which holds f i -/
def own_Arr (Z : State) (h : Heap) (a : Addr) (ty : FieldType) (n : Int32) (f : Nat → Value) : Prop := ∃ c : Cell, Arr Z h a c ty ∧ c.slots.size = n.toNatClampNeg ∧ ¬ n < 0 ∧ ∀ i, i < n.toNatClampNeg → c.slots[i]? = some (f i)
section Arrays
variable {Z : State} {h h' : Heap} {a b : Addr} {ty : FieldType} {n j : Int32} {f f' : Nat → Value} {sl : Nat} {v : Value} {ws : List Addr}
theorem own_Arr.lt (F : own_Arr Z h a ty n f) : a < h.size := by obtain ⟨c, A, -⟩ := F; exact A.lt
theorem own_Arr.ext (F : own_Arr Z h a ty n f) (E : Ext h h') : own_Arr Z h' a ty n f := by obtain ⟨c, A, r⟩ := F; exact ⟨c, A.ext E, r⟩
theorem own_Arr.other (F : own_Arr Z h b ty n f) (W : Wr h h' a sl v) (q : b ≠ a) : own_Arr Z h' b ty n f := by obtain ⟨c, A, r⟩ := F; exact ⟨c, A.other W q, r⟩
theorem own_Arr.keep (F : own_Arr Z h a ty n f) (K : Keep h h' ws) (q : a ∉ ws) : own_Arr Z h' a ty n f := by obtain ⟨c, A, r⟩ := F; exact ⟨c, ⟨K.2.1 a c A.1 q, A.2⟩, r⟩
theorem own_Arr.new {k : ClassId} (A : Arr Z h a (newA k ty n) ty) (q : ¬ n < 0) (hf : ∀ i, f i = defaultValue ty) : own_Arr Z h a ty n f :=
  ⟨_, A, sz_new _ _ _, q, fun i hi => by rw [hf]; simp [newA, hi]⟩
theorem own_Arr.set {α : Type} (w : α → Value) {g g' : Nat → α} {x : α} {q : Nat} (F : own_Arr Z h a ty n (fun i => w (g i))) (W : Wr h h' a j.toNatClampNeg (w x)) (hj : j.toNatClampNeg = q) (hg : ∀ i, g' i = if i = q then x else g i) : own_Arr Z h' a ty n (fun i => w (g' i)) := by
  obtain ⟨c, A, r1, r2, r3⟩ := F
  subst hj
  refine ⟨_, A.same W, by rw [sz_set]; exact r1, r2, fun i hi => ?_⟩
  show _ = some (w (g' i))
  rw [hg]
  by_cases e : i = j.toNatClampNeg
  · subst e
    rw [if_pos rfl]; simp [Cell.setSlot, r1, hi]
  · rw [if_neg e]
    rw [← r3 i hi]; exact Array.getElem?_setIfInBounds_ne (Ne.symm e)
theorem own_Arr.congr {α : Type} (w : α → Value) {g g' : Nat → α} (F : own_Arr Z h a ty n (fun i => w (g i))) (hg : ∀ i, i < n.toNatClampNeg → g' i = g i) : own_Arr Z h a ty n (fun i => w (g' i)) := by
  obtain ⟨c, A, r1, r2, r3⟩ := F
  exact ⟨c, A, r1, r2, fun i hi => by show _ = some (w (g' i)); rw [hg i hi]; exact r3 i hi⟩
theorem own_at {c : Cell} (S : c.slots.size = n.toNatClampNeg) (G : ∀ i, i < n.toNatClampNeg → c.slots[i]? = some (f i)) (hj : ¬ (j < 0 ∨ c.slots.size ≤ j.toNatClampNeg)) : c.slots[j.toNatClampNeg]? = some (f j.toNatClampNeg) := G _ (by rw [← S]; exact Nat.lt_of_not_le fun y => hj (Or.inr y))
theorem own_nn {n : Int32} (h : ¬ n < 0) : 0 ≤ n.toInt ∧ n.toInt = n.toNatClampNeg := by
  have e := nat_of h
  exact ⟨by omega, e⟩
theorem own_Arr.nn (F : own_Arr Z h a ty n f) : 0 ≤ n.toInt ∧ n.toInt = n.toNatClampNeg := by obtain ⟨c, A, r1, r2, r3⟩ := F; exact own_nn r2
theorem own_ge0 {i : Int32} (h : 0 ≤ i.toInt) : ¬ i < 0 := fun q => by
  have := Int32.lt_iff_toInt_lt.mp q
  have z : (0 : Int32).toInt = 0 := by decide
  omega
theorem own_inb {i n : Int32} (h0 : 0 ≤ i.toInt) (h : i < n) : ¬ i < 0 ∧ i < n := ⟨own_ge0 h0, h⟩
theorem own_inb2 {i n : Int32} (h0 : 0 ≤ i.toInt) (h : i.toInt < n.toInt) : ¬ i < 0 ∧ i < n := ⟨own_ge0 h0, Int32.lt_iff_toInt_lt.mpr h⟩
theorem own_next {i n : Int32} (h0 : 0 ≤ i.toInt) (h : i < n) : (i + 1).toInt = i.toInt + 1 ∧ i.toInt < n.toInt := by
  have q := Int32.lt_iff_toInt_lt.mp h
  have a := c_iadd i 1
  have z : (1 : Int32).toInt = 1 := by decide
  have r1 := rng32 (i + 1)
  have r2 := rng32 n
  omega
end Arrays
end Jvm.RoadKit
namespace Jvm.Pilot.@@N@@
open Jvm Jvm.ClassFile Sem Op Lib Jvm.Free Jvm.Stand Jvm.LawKit Jvm.RoadKit Bundle Jvm.Pilot.@@N@@.Jvm.D
def own_Obj0 (Z : State) (h : Heap) (a : Addr) (v1 : Int32) : Prop := Exa Z h a "com/example/scratchline/scratchline/game/Face" ∧ Fld Z h a "com/example/scratchline/scratchline/game/Face" "winning" "[I" .null ∧ Fld Z h a "com/example/scratchline/scratchline/game/Face" "bonus" "I" (.int v1) ∧ Fld Z h a "com/example/scratchline/scratchline/game/Face" "spots" "[I" .null ∧ Fld Z h a "com/example/scratchline/scratchline/game/Face" "prizes" "[J" .null
def own_Obj (Z : State) (h : Heap) (a : Addr) (v0 : Addr) (v1 : Int32) (v2 : Addr) (v3 : Addr) : Prop := Exa Z h a "com/example/scratchline/scratchline/game/Face" ∧ Fld Z h a "com/example/scratchline/scratchline/game/Face" "winning" "[I" (.ref v0) ∧ Fld Z h a "com/example/scratchline/scratchline/game/Face" "bonus" "I" (.int v1) ∧ Fld Z h a "com/example/scratchline/scratchline/game/Face" "spots" "[I" (.ref v2) ∧ Fld Z h a "com/example/scratchline/scratchline/game/Face" "prizes" "[J" (.ref v3)
theorem d1_0 : decode prog_31_method_1_code 0 = .ok (.aload_n 0, 1) := by decide +kernel
theorem d1_1 : decode prog_31_method_1_code 1 = .ok (.invokespecial 3, 3) := by decide +kernel
theorem d1_4 : decode prog_31_method_1_code 4 = .ok (.aload_n 0, 1) := by decide +kernel
theorem d1_5 : decode prog_31_method_1_code 5 = .ok (.aload_n 1, 1) := by decide +kernel
theorem d1_6 : decode prog_31_method_1_code 6 = .ok (.putfield 9, 3) := by decide +kernel
theorem d1_9 : decode prog_31_method_1_code 9 = .ok (.aload_n 0, 1) := by decide +kernel
theorem d1_10 : decode prog_31_method_1_code 10 = .ok (.iload_n 2, 1) := by decide +kernel
theorem d1_11 : decode prog_31_method_1_code 11 = .ok (.putfield 15, 3) := by decide +kernel
theorem d1_14 : decode prog_31_method_1_code 14 = .ok (.aload_n 0, 1) := by decide +kernel
theorem d1_15 : decode prog_31_method_1_code 15 = .ok (.aload_n 3, 1) := by decide +kernel
theorem d1_16 : decode prog_31_method_1_code 16 = .ok (.putfield 19, 3) := by decide +kernel
theorem d1_19 : decode prog_31_method_1_code 19 = .ok (.aload_n 0, 1) := by decide +kernel
theorem d1_20 : decode prog_31_method_1_code 20 = .ok (.aload 4, 2) := by decide +kernel
theorem d1_22 : decode prog_31_method_1_code 22 = .ok (.putfield 22, 3) := by decide +kernel
theorem d1_25 : decode prog_31_method_1_code 25 = .ok (.return_, 1) := by decide +kernel
theorem pn_1 : plainName "com/example/scratchline/scratchline/game/Face" = true := by first | (simp [plainName, overriddenIn]; done) | decide +kernel
theorem ef_1 (m : MethodId) (x0 : Addr) (x1 : Addr) (x2 : Int32) (x3 : Addr) (x4 : Addr) : entryFrame m #[(.ref x0), (.ref x1), (.int x2), (.ref x3), (.ref x4)] 5 = mkF m 0 #[.val (.ref x0), .val (.ref x1), .val (.int x2), .val (.ref x3), .val (.ref x4)] [] := by first | (simp [entryFrame, mkF, argsToLocals, Value.category]; done) | rfl
def Q1 (Z : State) (a1 : Addr) (a2 : Addr) (p3 : Int32) (a4 : Addr) (a5 : Addr) (vb : Int32) (h0 : Heap) (n0 : Nat) (v : Option Value) (h : Heap) (L : List Loc) : Prop := v = none ∧ Fr n0 L ∧ Keep h0 h [a1] ∧ own_Obj Z h a1 a2 p3 a4 a5
set_option maxRecDepth 65536 in
set_option maxHeartbeats 40000000 in
theorem rm1 (l : Launch) (Z : State) (a0 : Array Value) (hw : ∀ d ∈ tables_1, d.before a0 Z = true) (ws : List Jvm.Cond) (a1 : Addr) (a2 : Addr) (p3 : Int32) (a4 : Addr) (a5 : Addr) (vb : Int32) (h0 : Heap) (n0 : Nat) (Z0 : n0 ≤ h0.size) (O_a1 : own_Obj0 Z h0 a1 vb) (g_a1 : n0 ≤ a1) :
    MetFree l (⟨"com/example/scratchline/scratchline/game/Face", "<init>", "([II[I[J)V"⟩ : MethodName) (head1 (Jvm.Cond.code (⟨"com/example/scratchline/scratchline/game/Face", "<init>", "([II[I[J)V"⟩ : MethodName) prog_31_method_1_code 5 none :: ws) ({ frames := 1, cells := 0, slots := 0, locals := 12 } : Room)) (fun a U => a = #[(.ref a1), (.ref a2), (.int p3), (.ref a4), (.ref a5)] ∧ Z.Warmed39 U.vm ∧ U.heap = h0) (fun _ _ _ _ _ => True) (fun _ U o U' => ∃ v L, o = .returned v ∧ Q1 Z a1 a2 p3 a4 a5 vb h0 n0 v U'.heap L ∧ FrameEnd U o U' L ({ frames := 1, cells := 0, slots := 0, locals := 12 } : Room).cells ({ frames := 1, cells := 0, slots := 0, locals := 12 } : Room).slots) := by
  refine MetFree.of_bodySF (plainFor_of_name pn_1) hisR ?_
  intro p e s m args below meth c s₁ Bd hml0 hP hK
  obtain ⟨rfl, hZ, hh⟩ := hP
  have hx := Bd.exec
  have hby := Bd.bytes
  have hml : c.maxLocals = 5 := hml0
  have hown : s.vm.findClass "com/example/scratchline/scratchline/game/Face" = some m.cls := findClass_of_methodNamed Bd.named
  have hnm := (name_of_methodNamed Bd.named Bd.method).1
  have X0 : Stand p l e ({ frames := 1, cells := 0, slots := 0, locals := 12 } : Room) s m #[(.ref a1), (.ref a2), (.int p3), (.ref a4), (.ref a5)] below meth c s₁ [] 0 0 := Stand.of_body Bd
  have e0 : s₁.heap = h0 := by rw [← hh, Bd.state]; rfl
  have N0 := Fr.nil n0
  show own_End p e below s (s₁.setTop (entryFrame m #[(.ref a1), (.ref a2), (.int p3), (.ref a4), (.ref a5)] 5)) (Q1 Z a1 a2 p3 a4 a5 vb h0 n0) ({ frames := 1, cells := 0, slots := 0, locals := 12 } : Room).cells ({ frames := 1, cells := 0, slots := 0, locals := 12 } : Room).slots
  obtain ⟨E_a1_1, F_winning_a1_2, F_bonus_a1_3, F_spots_a1_4, F_prizes_a1_5⟩ := O_a1
  refine own_pre (A := s₁.setTop (mkF m 0 #[.val (.ref a1), .val (.ref a2), .val (.int p3), .val (.ref a4), .val (.ref a5)] [])) (fun tt kt => castTop (ef_1 m a1 a2 p3 a4 a5) kt) ?_
  show own_End p e below s (s₁.setTop (mkF m 0 #[.val (.ref a1), .val (.ref a2), .val (.int p3), .val (.ref a4), .val (.ref a5)] [])) (Q1 Z a1 a2 p3 a4 a5 vb h0 n0) ({ frames := 1, cells := 0, slots := 0, locals := 12 } : Room).cells ({ frames := 1, cells := 0, slots := 0, locals := 12 } : Room).slots
  obtain ⟨T6, X6, e6, st6⟩ := initO X0 hx hZ hown (hw _ (List.mem_of_getElem? (i := 8) rfl)) (hw _ (List.mem_of_getElem? (i := 9) rfl)) (hw _ (List.mem_of_getElem? (i := 10) rfl)) e0 (g := (mkF m 1 #[.val (.ref a1), .val (.ref a2), .val (.int p3), .val (.ref a4), .val (.ref a5)] [(.ref a1)])) rfl (by rw [hml]; rfl) rfl (hb hby d1_1) (by decide) (W := 0) (by show 2 * 0 + _ ≤ _; exact Nat.le_of_eq rfl) (by decide)
  obtain ⟨T7, h7, X7, e7, W7, st7⟩ := putF X6 hx hZ hown (host := "") (Or.inl (hw _ (List.mem_of_getElem? (i := 11) rfl))) Via.refl e6 F_winning_a1_2 E_a1_1 (Or.inr ⟨(hw _ (List.mem_of_getElem? (i := 12) rfl)), rfl, hnm⟩) (hw _ (List.mem_of_getElem? (i := 2) rfl)) (ty := (.array .int)) (by decide) rfl rfl (g := (mkF m 6 #[.val (.ref a1), .val (.ref a2), .val (.int p3), .val (.ref a4), .val (.ref a5)] [(.ref a2), (.ref a1)])) rfl rfl (hb hby d1_6)
  have Fw7 := Fld.same W7 F_winning_a1_2
  have fE_a1_x7 := (E_a1_1.wr W7)
  have fF_a1_bonus_x7 := (Fld.other W7 F_bonus_a1_3 (Or.inr (slot_ne (Or.inr (hw _ (List.mem_of_getElem? (i := 14) rfl))) (Or.inr (hw _ (List.mem_of_getElem? (i := 12) rfl))) (by decide) (t := .int) (t' := (.array .int)) (by decide) (by decide))))
  have fF_a1_spots_x7 := (Fld.other W7 F_spots_a1_4 (Or.inr (slot_ne (Or.inr (hw _ (List.mem_of_getElem? (i := 16) rfl))) (Or.inr (hw _ (List.mem_of_getElem? (i := 12) rfl))) (by decide) (t := (.array .int)) (t' := (.array .int)) (by decide) (by decide))))
  have fF_a1_prizes_x7 := (Fld.other W7 F_prizes_a1_5 (Or.inr (slot_ne (Or.inr (hw _ (List.mem_of_getElem? (i := 18) rfl))) (Or.inr (hw _ (List.mem_of_getElem? (i := 12) rfl))) (by decide) (t := (.array .long)) (t' := (.array .int)) (by decide) (by decide))))
  have N7 := Fr.snoc X7 N0 g_a1
  have K7 : Keep h0 h7 [a1] := Keep.wr (Keep.refl h0 _) W7 (Or.inl (List.mem_of_getElem? (i := 0) rfl))
  have Z7 : n0 ≤ h7.size := Nat.le_trans Z0 (Nat.le_of_eq W7.size.symm)
  obtain ⟨T8, h8, X8, e8, W8, st8⟩ := putF X7 hx hZ hown (host := "") (Or.inl (hw _ (List.mem_of_getElem? (i := 13) rfl))) Via.refl e7 fF_a1_bonus_x7 fE_a1_x7 (Or.inr ⟨(hw _ (List.mem_of_getElem? (i := 14) rfl)), rfl, hnm⟩) (hw _ (List.mem_of_getElem? (i := 2) rfl)) (ty := .int) (by decide) rfl rfl (g := (mkF m 11 #[.val (.ref a1), .val (.ref a2), .val (.int p3), .val (.ref a4), .val (.ref a5)] [(.int p3), (.ref a1)])) rfl rfl (hb hby d1_11)
  have Fw8 := Fld.same W8 fF_a1_bonus_x7
  have fE_a1_x8 := (fE_a1_x7.wr W8)
  have fF_a1_winning_x8 := (Fld.other W8 Fw7 (Or.inr (slot_ne (Or.inr (hw _ (List.mem_of_getElem? (i := 12) rfl))) (Or.inr (hw _ (List.mem_of_getElem? (i := 14) rfl))) (by decide) (t := (.array .int)) (t' := .int) (by decide) (by decide))))
  have fF_a1_spots_x8 := (Fld.other W8 fF_a1_spots_x7 (Or.inr (slot_ne (Or.inr (hw _ (List.mem_of_getElem? (i := 16) rfl))) (Or.inr (hw _ (List.mem_of_getElem? (i := 14) rfl))) (by decide) (t := (.array .int)) (t' := .int) (by decide) (by decide))))
  have fF_a1_prizes_x8 := (Fld.other W8 fF_a1_prizes_x7 (Or.inr (slot_ne (Or.inr (hw _ (List.mem_of_getElem? (i := 18) rfl))) (Or.inr (hw _ (List.mem_of_getElem? (i := 14) rfl))) (by decide) (t := (.array .long)) (t' := .int) (by decide) (by decide))))
  have N8 := Fr.snoc X8 N7 g_a1
  have K8 : Keep h0 h8 [a1] := Keep.wr K7 W8 (Or.inl (List.mem_of_getElem? (i := 0) rfl))
  have Z8 : n0 ≤ h8.size := Nat.le_trans Z7 (Nat.le_of_eq W8.size.symm)
  obtain ⟨T9, h9, X9, e9, W9, st9⟩ := putF X8 hx hZ hown (host := "") (Or.inl (hw _ (List.mem_of_getElem? (i := 15) rfl))) Via.refl e8 fF_a1_spots_x8 fE_a1_x8 (Or.inr ⟨(hw _ (List.mem_of_getElem? (i := 16) rfl)), rfl, hnm⟩) (hw _ (List.mem_of_getElem? (i := 2) rfl)) (ty := (.array .int)) (by decide) rfl rfl (g := (mkF m 16 #[.val (.ref a1), .val (.ref a2), .val (.int p3), .val (.ref a4), .val (.ref a5)] [(.ref a4), (.ref a1)])) rfl rfl (hb hby d1_16)
  have Fw9 := Fld.same W9 fF_a1_spots_x8
  have fE_a1_x9 := (fE_a1_x8.wr W9)
  have fF_a1_winning_x9 := (Fld.other W9 fF_a1_winning_x8 (Or.inr (slot_ne (Or.inr (hw _ (List.mem_of_getElem? (i := 12) rfl))) (Or.inr (hw _ (List.mem_of_getElem? (i := 16) rfl))) (by decide) (t := (.array .int)) (t' := (.array .int)) (by decide) (by decide))))
  have fF_a1_bonus_x9 := (Fld.other W9 Fw8 (Or.inr (slot_ne (Or.inr (hw _ (List.mem_of_getElem? (i := 14) rfl))) (Or.inr (hw _ (List.mem_of_getElem? (i := 16) rfl))) (by decide) (t := .int) (t' := (.array .int)) (by decide) (by decide))))
  have fF_a1_prizes_x9 := (Fld.other W9 fF_a1_prizes_x8 (Or.inr (slot_ne (Or.inr (hw _ (List.mem_of_getElem? (i := 18) rfl))) (Or.inr (hw _ (List.mem_of_getElem? (i := 16) rfl))) (by decide) (t := (.array .long)) (t' := (.array .int)) (by decide) (by decide))))
  have N9 := Fr.snoc X9 N8 g_a1
  have K9 : Keep h0 h9 [a1] := Keep.wr K8 W9 (Or.inl (List.mem_of_getElem? (i := 0) rfl))
  have Z9 : n0 ≤ h9.size := Nat.le_trans Z8 (Nat.le_of_eq W9.size.symm)
  obtain ⟨T10, h10, X10, e10, W10, st10⟩ := putF X9 hx hZ hown (host := "") (Or.inl (hw _ (List.mem_of_getElem? (i := 17) rfl))) Via.refl e9 fF_a1_prizes_x9 fE_a1_x9 (Or.inr ⟨(hw _ (List.mem_of_getElem? (i := 18) rfl)), rfl, hnm⟩) (hw _ (List.mem_of_getElem? (i := 2) rfl)) (ty := (.array .long)) (by decide) rfl rfl (g := (mkF m 22 #[.val (.ref a1), .val (.ref a2), .val (.int p3), .val (.ref a4), .val (.ref a5)] [(.ref a5), (.ref a1)])) rfl rfl (hb hby d1_22)
  have Fw10 := Fld.same W10 fF_a1_prizes_x9
  have fE_a1_x10 := (fE_a1_x9.wr W10)
  have fF_a1_winning_x10 := (Fld.other W10 fF_a1_winning_x9 (Or.inr (slot_ne (Or.inr (hw _ (List.mem_of_getElem? (i := 12) rfl))) (Or.inr (hw _ (List.mem_of_getElem? (i := 18) rfl))) (by decide) (t := (.array .int)) (t' := (.array .long)) (by decide) (by decide))))
  have fF_a1_bonus_x10 := (Fld.other W10 fF_a1_bonus_x9 (Or.inr (slot_ne (Or.inr (hw _ (List.mem_of_getElem? (i := 14) rfl))) (Or.inr (hw _ (List.mem_of_getElem? (i := 18) rfl))) (by decide) (t := .int) (t' := (.array .long)) (by decide) (by decide))))
  have fF_a1_spots_x10 := (Fld.other W10 Fw9 (Or.inr (slot_ne (Or.inr (hw _ (List.mem_of_getElem? (i := 16) rfl))) (Or.inr (hw _ (List.mem_of_getElem? (i := 18) rfl))) (by decide) (t := (.array .int)) (t' := (.array .long)) (by decide) (by decide))))
  have N10 := Fr.snoc X10 N9 g_a1
  have K10 : Keep h0 h10 [a1] := Keep.wr K9 W10 (Or.inl (List.mem_of_getElem? (i := 0) rfl))
  have Z10 : n0 ≤ h10.size := Nat.le_trans Z9 (Nat.le_of_eq W10.size.symm)
  refine own_pre (A := T10.setTop (mkF m 25 #[.val (.ref a1), .val (.ref a2), .val (.int p3), .val (.ref a4), .val (.ref a5)] [])) (fun tt kt => ?_) ?_
  · show Steps p.tables e below (s₁.setTop (mkF m 0 #[.val (.ref a1), .val (.ref a2), .val (.int p3), .val (.ref a4), .val (.ref a5)] [])) _
    refine XS.aloadN X0.here hx rfl (hb hby d1_0) rfl rfl ?_
    show Steps p.tables e below (s₁.setTop (mkF m 1 #[.val (.ref a1), .val (.ref a2), .val (.int p3), .val (.ref a4), .val (.ref a5)] [(.ref a1)])) _
    refine st6 _ ?_
    show Steps p.tables e below (T6.setTop (mkF m 4 #[.val (.ref a1), .val (.ref a2), .val (.int p3), .val (.ref a4), .val (.ref a5)] [])) _
    refine XS.aloadN X6.here hx rfl (hb hby d1_4) rfl rfl ?_
    show Steps p.tables e below (T6.setTop (mkF m 5 #[.val (.ref a1), .val (.ref a2), .val (.int p3), .val (.ref a4), .val (.ref a5)] [(.ref a1)])) _
    refine XS.aloadN X6.here hx rfl (hb hby d1_5) rfl rfl ?_
    show Steps p.tables e below (T6.setTop (mkF m 6 #[.val (.ref a1), .val (.ref a2), .val (.int p3), .val (.ref a4), .val (.ref a5)] [(.ref a2), (.ref a1)])) _
    refine st7 _ ?_
    show Steps p.tables e below (T7.setTop (mkF m 9 #[.val (.ref a1), .val (.ref a2), .val (.int p3), .val (.ref a4), .val (.ref a5)] [])) _
    refine XS.aloadN X7.here hx rfl (hb hby d1_9) rfl rfl ?_
    show Steps p.tables e below (T7.setTop (mkF m 10 #[.val (.ref a1), .val (.ref a2), .val (.int p3), .val (.ref a4), .val (.ref a5)] [(.ref a1)])) _
    refine XS.iloadN X7.here hx rfl (hb hby d1_10) rfl ?_
    show Steps p.tables e below (T7.setTop (mkF m 11 #[.val (.ref a1), .val (.ref a2), .val (.int p3), .val (.ref a4), .val (.ref a5)] [(.int p3), (.ref a1)])) _
    refine st8 _ ?_
    show Steps p.tables e below (T8.setTop (mkF m 14 #[.val (.ref a1), .val (.ref a2), .val (.int p3), .val (.ref a4), .val (.ref a5)] [])) _
    refine XS.aloadN X8.here hx rfl (hb hby d1_14) rfl rfl ?_
    show Steps p.tables e below (T8.setTop (mkF m 15 #[.val (.ref a1), .val (.ref a2), .val (.int p3), .val (.ref a4), .val (.ref a5)] [(.ref a1)])) _
    refine XS.aloadN X8.here hx rfl (hb hby d1_15) rfl rfl ?_
    show Steps p.tables e below (T8.setTop (mkF m 16 #[.val (.ref a1), .val (.ref a2), .val (.int p3), .val (.ref a4), .val (.ref a5)] [(.ref a4), (.ref a1)])) _
    refine st9 _ ?_
    show Steps p.tables e below (T9.setTop (mkF m 19 #[.val (.ref a1), .val (.ref a2), .val (.int p3), .val (.ref a4), .val (.ref a5)] [])) _
    refine XS.aloadN X9.here hx rfl (hb hby d1_19) rfl rfl ?_
    show Steps p.tables e below (T9.setTop (mkF m 20 #[.val (.ref a1), .val (.ref a2), .val (.int p3), .val (.ref a4), .val (.ref a5)] [(.ref a1)])) _
    refine XS.aload X9.here hx rfl (hb hby d1_20) rfl rfl ?_
    show Steps p.tables e below (T9.setTop (mkF m 22 #[.val (.ref a1), .val (.ref a2), .val (.int p3), .val (.ref a4), .val (.ref a5)] [(.ref a5), (.ref a1)])) _
    refine st10 _ ?_
    exact kt
  show own_End p e below s (T10.setTop (mkF m 25 #[.val (.ref a1), .val (.ref a2), .val (.int p3), .val (.ref a4), .val (.ref a5)] [])) (Q1 Z a1 a2 p3 a4 a5 vb h0 n0) ({ frames := 1, cells := 0, slots := 0, locals := 12 } : Room).cells ({ frames := 1, cells := 0, slots := 0, locals := 12 } : Room).slots
  obtain ⟨fs, hr, hrun, hended, hW, hsame⟩ := X10.leave (v := none) (fun _ => rfl)
  refine ⟨_, _, ?_, hrun, hended, _, _, rfl, ?_, ⟨_, rfl⟩, hW, hsame.mono (by decide) (by decide)⟩
  · exact X10.returnOut hx Bd.returns (hb hby d1_25) hr
  · show Q1 Z a1 a2 p3 a4 a5 vb h0 n0 _ T10.heap _
    rw [e10]
    exact ⟨rfl, N10, K10, ⟨fE_a1_x10, fF_a1_winning_x10, fF_a1_bonus_x10, fF_a1_spots_x10, Fw10⟩⟩
def own_win_4 (p2 : Int32) (g : Nat → Int32) (n : Int32) (vb : Int32) (won : Int32) (i : Int32) : Nat → Int32
  | 0 => 0
  | k + 1 => (if i < n then (if won = (0 : Int32) then (if (g i.toNatClampNeg) = p2 then (own_win_4 p2 g n vb (1 : Int32) (i + (1 : Int32)) k) else (own_win_4 p2 g n vb (0 : Int32) (i + (1 : Int32)) k)) else (won &&& (1 : Int32))) else (won &&& (1 : Int32)))
def own_win (p2 : Int32) (g : Nat → Int32) (n : Int32) (vb : Int32) : Int32 := (own_win_4 p2 g n vb (0 : Int32) (0 : Int32) (n.toNatClampNeg + 1))
theorem d3_0 : decode prog_31_method_7_code 0 = .ok (.iconst 0, 1) := by decide +kernel
theorem d3_1 : decode prog_31_method_7_code 1 = .ok (.istore_n 2, 1) := by decide +kernel
theorem d3_2 : decode prog_31_method_7_code 2 = .ok (.iconst 0, 1) := by decide +kernel
theorem d3_3 : decode prog_31_method_7_code 3 = .ok (.istore_n 3, 1) := by decide +kernel
theorem d3_4 : decode prog_31_method_7_code 4 = .ok (.iload_n 3, 1) := by decide +kernel
theorem d3_5 : decode prog_31_method_7_code 5 = .ok (.aload_n 0, 1) := by decide +kernel
theorem d3_6 : decode prog_31_method_7_code 6 = .ok (.getfield 9, 3) := by decide +kernel
theorem d3_9 : decode prog_31_method_7_code 9 = .ok (.arraylength, 1) := by decide +kernel
theorem d3_10 : decode prog_31_method_7_code 10 = .ok (.if_icmp .ge 29, 3) := by decide +kernel
theorem d3_13 : decode prog_31_method_7_code 13 = .ok (.iload_n 2, 1) := by decide +kernel
theorem d3_14 : decode prog_31_method_7_code 14 = .ok (.ifCond .ne 25, 3) := by decide +kernel
theorem d3_17 : decode prog_31_method_7_code 17 = .ok (.aload_n 0, 1) := by decide +kernel
theorem d3_18 : decode prog_31_method_7_code 18 = .ok (.getfield 9, 3) := by decide +kernel
theorem d3_21 : decode prog_31_method_7_code 21 = .ok (.iload_n 3, 1) := by decide +kernel
theorem d3_22 : decode prog_31_method_7_code 22 = .ok (.iaload, 1) := by decide +kernel
theorem d3_23 : decode prog_31_method_7_code 23 = .ok (.iload_n 1, 1) := by decide +kernel
theorem d3_24 : decode prog_31_method_7_code 24 = .ok (.if_icmp .ne 7, 3) := by decide +kernel
theorem d3_27 : decode prog_31_method_7_code 27 = .ok (.iconst 1, 1) := by decide +kernel
theorem d3_28 : decode prog_31_method_7_code 28 = .ok (.goto 4, 3) := by decide +kernel
theorem d3_31 : decode prog_31_method_7_code 31 = .ok (.iconst 0, 1) := by decide +kernel
theorem d3_32 : decode prog_31_method_7_code 32 = .ok (.istore_n 2, 1) := by decide +kernel
theorem d3_33 : decode prog_31_method_7_code 33 = .ok (.iinc 3 1, 3) := by decide +kernel
theorem d3_36 : decode prog_31_method_7_code 36 = .ok (.goto (-32), 3) := by decide +kernel
theorem d3_39 : decode prog_31_method_7_code 39 = .ok (.iload_n 2, 1) := by decide +kernel
theorem d3_40 : decode prog_31_method_7_code 40 = .ok (.ireturn, 1) := by decide +kernel
theorem pn_3 : plainName "com/example/scratchline/scratchline/game/Face" = true := by first | (simp [plainName, overriddenIn]; done) | decide +kernel
theorem ef_3 (m : MethodId) (x0 : Addr) (x1 : Int32) : entryFrame m #[(.ref x0), (.int x1)] 4 = mkF m 0 #[.val (.ref x0), .val (.int x1), .unset, .unset] [] := by first | (simp [entryFrame, mkF, argsToLocals, Value.category]; done) | rfl
def Q3 (Z : State) (a1 : Addr) (p2 : Int32) (vw : Addr) (vb : Int32) (vs : Addr) (vp : Addr) (g : Nat → Int32) (n : Int32) (h0 : Heap) (n0 : Nat) (v : Option Value) (h : Heap) (L : List Loc) : Prop := v = some (.int (own_win p2 g n vb)) ∧ Fr n0 L ∧ h = h0
set_option maxRecDepth 65536 in
set_option maxHeartbeats 40000000 in
theorem rm3 (l : Launch) (Z : State) (a0 : Array Value) (hw : ∀ d ∈ tables_1, d.before a0 Z = true) (ws : List Jvm.Cond) (a1 : Addr) (p2 : Int32) (vw : Addr) (vb : Int32) (vs : Addr) (vp : Addr) (g : Nat → Int32) (n : Int32) (h0 : Heap) (n0 : Nat) (Z0 : n0 ≤ h0.size) (O_a1 : own_Obj Z h0 a1 vw vb vs vp) (V_vw : own_Arr Z h0 vw .int n (fun i => Value.int (g i))) :
    MetFree l (⟨"com/example/scratchline/scratchline/game/Face", "isWinning", "(I)Z"⟩ : MethodName) (head1 (Jvm.Cond.code (⟨"com/example/scratchline/scratchline/game/Face", "isWinning", "(I)Z"⟩ : MethodName) prog_31_method_7_code 4 (some .boolean) :: ws) ({ frames := 0, cells := 0, slots := 0, locals := 0 } : Room)) (fun a U => a = #[(.ref a1), (.int p2)] ∧ Z.Warmed39 U.vm ∧ U.heap = h0) (fun _ _ _ _ _ => True) (fun _ U o U' => ∃ v L, o = .returned v ∧ Q3 Z a1 p2 vw vb vs vp g n h0 n0 v U'.heap L ∧ FrameEnd U o U' L ({ frames := 0, cells := 0, slots := 0, locals := 0 } : Room).cells ({ frames := 0, cells := 0, slots := 0, locals := 0 } : Room).slots) := by
  refine MetFree.of_bodySF (plainFor_of_name pn_3) hisR ?_
  intro p e s m args below meth c s₁ Bd hml0 hP hK
  obtain ⟨rfl, hZ, hh⟩ := hP
  have hx := Bd.exec
  have hby := Bd.bytes
  have hml : c.maxLocals = 4 := hml0
  have hown : s.vm.findClass "com/example/scratchline/scratchline/game/Face" = some m.cls := findClass_of_methodNamed Bd.named
  have hnm := (name_of_methodNamed Bd.named Bd.method).1
  have X0 : Stand p l e ({ frames := 0, cells := 0, slots := 0, locals := 0 } : Room) s m #[(.ref a1), (.int p2)] below meth c s₁ [] 0 0 := Stand.of_body Bd
  have e0 : s₁.heap = h0 := by rw [← hh, Bd.state]; rfl
  have N0 := Fr.nil n0
  show own_End p e below s (s₁.setTop (entryFrame m #[(.ref a1), (.int p2)] 4)) (Q3 Z a1 p2 vw vb vs vp g n h0 n0) ({ frames := 0, cells := 0, slots := 0, locals := 0 } : Room).cells ({ frames := 0, cells := 0, slots := 0, locals := 0 } : Room).slots
  obtain ⟨E_a1_1, F_winning_a1_2, F_bonus_a1_3, F_spots_a1_4, F_prizes_a1_5⟩ := O_a1
  refine own_pre (A := s₁.setTop (mkF m 0 #[.val (.ref a1), .val (.int p2), .unset, .unset] [])) (fun tt kt => castTop (ef_3 m a1 p2) kt) ?_
  show own_End p e below s (s₁.setTop (mkF m 0 #[.val (.ref a1), .val (.int p2), .unset, .unset] [])) (Q3 Z a1 p2 vw vb vs vp g n h0 n0) ({ frames := 0, cells := 0, slots := 0, locals := 0 } : Room).cells ({ frames := 0, cells := 0, slots := 0, locals := 0 } : Room).slots
  have hj : own_win p2 g n vb = own_win p2 g n vb := rfl
  refine own_pre (A := s₁.setTop (mkF m 4 #[.val (.ref a1), .val (.int p2), .val (.int (0 : Int32)), .val (.int (0 : Int32))] [])) (fun tt kt => ?_) ?_
  · show Steps p.tables e below (s₁.setTop (mkF m 0 #[.val (.ref a1), .val (.int p2), .unset, .unset] [])) _
    refine XS.iconst X0.here hx rfl (hb hby d3_0) ?_
    show Steps p.tables e below (s₁.setTop (mkF m 1 #[.val (.ref a1), .val (.int p2), .unset, .unset] [(.int (0 : Int32))])) _
    refine XS.istoreN X0.here hx rfl (hb hby d3_1) rfl (l' := #[.val (.ref a1), .val (.int p2), .val (.int (0 : Int32)), .unset]) rfl ?_
    show Steps p.tables e below (s₁.setTop (mkF m 2 #[.val (.ref a1), .val (.int p2), .val (.int (0 : Int32)), .unset] [])) _
    refine XS.iconst X0.here hx rfl (hb hby d3_2) ?_
    show Steps p.tables e below (s₁.setTop (mkF m 3 #[.val (.ref a1), .val (.int p2), .val (.int (0 : Int32)), .unset] [(.int (0 : Int32))])) _
    refine XS.istoreN X0.here hx rfl (hb hby d3_3) rfl (l' := #[.val (.ref a1), .val (.int p2), .val (.int (0 : Int32)), .val (.int (0 : Int32))]) rfl ?_
    exact kt
  show own_End p e below s (s₁.setTop (mkF m 4 #[.val (.ref a1), .val (.int p2), .val (.int (0 : Int32)), .val (.int (0 : Int32))] [])) (Q3 Z a1 p2 vw vb vs vp g n h0 n0) ({ frames := 0, cells := 0, slots := 0, locals := 0 } : Room).cells ({ frames := 0, cells := 0, slots := 0, locals := 0 } : Room).slots
  have j4 : ∀ (k : Nat)  (Tj4 : State) (Lj4 : List Loc) (Xj4 : Stand p l e ({ frames := 0, cells := 0, slots := 0, locals := 0 } : Room) s m #[(.ref a1), (.int p2)] below meth c Tj4 Lj4 0 0) (ej4 : Tj4.heap = h0) (Nj4 : Fr n0 Lj4) (won : Int32) (i : Int32)  (hi0 : 0 ≤ i.toInt) (hin : i.toInt ≤ n.toInt) (hk : n.toInt - i.toInt < k), own_win p2 g n vb = own_win_4 p2 g n vb won i k → own_End p e below s (Tj4.setTop (mkF m 4 #[.val (.ref a1), .val (.int p2), .val (.int won), .val (.int i)] [])) (Q3 Z a1 p2 vw vb vs vp g n h0 n0) ({ frames := 0, cells := 0, slots := 0, locals := 0 } : Room).cells ({ frames := 0, cells := 0, slots := 0, locals := 0 } : Room).slots := by
    intro k
    induction k with
    | zero =>
      intro Tj4 Lj4 Xj4 ej4 Nj4 won i  hi0 hin hk hj
      exfalso; omega
    | succ k ih =>
      intro Tj4 Lj4 Xj4 ej4 Nj4 won i  hi0 hin hk hj
      obtain ⟨T6, X6, e6, st6⟩ := getF Xj4 hx hZ hown (host := "") (Or.inl (hw _ (List.mem_of_getElem? (i := 11) rfl))) Via.refl ej4 F_winning_a1_2 (g := (mkF m 6 #[.val (.ref a1), .val (.int p2), .val (.int won), .val (.int i)] [(.ref a1), (.int i)])) rfl rfl (hb hby d3_6)
      obtain ⟨cl7, Ar7, S7, Nn7, G7⟩ := id V_vw
      refine own_pre (A := T6.setTop (mkF m 10 #[.val (.ref a1), .val (.int p2), .val (.int won), .val (.int i)] [(.int n), (.int i)])) (fun tt kt => ?_) ?_
      · show Steps p.tables e below (Tj4.setTop (mkF m 4 #[.val (.ref a1), .val (.int p2), .val (.int won), .val (.int i)] [])) _
        refine XS.iloadN Xj4.here hx rfl (hb hby d3_4) rfl ?_
        show Steps p.tables e below (Tj4.setTop (mkF m 5 #[.val (.ref a1), .val (.int p2), .val (.int won), .val (.int i)] [(.int i)])) _
        refine XS.aloadN Xj4.here hx rfl (hb hby d3_5) rfl rfl ?_
        show Steps p.tables e below (Tj4.setTop (mkF m 6 #[.val (.ref a1), .val (.int p2), .val (.int won), .val (.int i)] [(.ref a1), (.int i)])) _
        refine st6 _ ?_
        show Steps p.tables e below (T6.setTop (mkF m 9 #[.val (.ref a1), .val (.int p2), .val (.int won), .val (.int i)] [(.ref vw), (.int i)])) _
        refine X6.arraylength hx (by rw [e6]; exact Ar7.1) (State.isArrayOf_alike hZ.alike Ar7.2.1) (g := (mkF m 9 #[.val (.ref a1), .val (.int p2), .val (.int won), .val (.int i)] [(.ref vw), (.int i)])) rfl rfl (hb hby d3_9) _ ?_
        rw [len_of S7 Nn7]
        exact kt
      show own_End p e below s (T6.setTop (mkF m 10 #[.val (.ref a1), .val (.int p2), .val (.int won), .val (.int i)] [(.int n), (.int i)])) (Q3 Z a1 p2 vw vb vs vp g n h0 n0) ({ frames := 0, cells := 0, slots := 0, locals := 0 } : Room).cells ({ frames := 0, cells := 0, slots := 0, locals := 0 } : Room).slots
      by_cases hc10_8 : i < n
      · refine own_pre (A := T6.setTop (mkF m 14 #[.val (.ref a1), .val (.int p2), .val (.int won), .val (.int i)] [(.int won)])) (fun tt kt => ?_) ?_
        · show Steps p.tables e below (T6.setTop (mkF m 10 #[.val (.ref a1), .val (.int p2), .val (.int won), .val (.int i)] [(.int n), (.int i)])) _
          refine XS.icmpNo X6.here hx rfl (hb hby d3_10) rfl (tlt hc10_8).2.1 ?_
          show Steps p.tables e below (T6.setTop (mkF m 13 #[.val (.ref a1), .val (.int p2), .val (.int won), .val (.int i)] [])) _
          refine XS.iloadN X6.here hx rfl (hb hby d3_13) rfl ?_
          exact kt
        show own_End p e below s (T6.setTop (mkF m 14 #[.val (.ref a1), .val (.int p2), .val (.int won), .val (.int i)] [(.int won)])) (Q3 Z a1 p2 vw vb vs vp g n h0 n0) ({ frames := 0, cells := 0, slots := 0, locals := 0 } : Room).cells ({ frames := 0, cells := 0, slots := 0, locals := 0 } : Room).slots
        by_cases hc14_9 : won = (0 : Int32)
        · obtain ⟨T10, X10, e10, st10⟩ := getF X6 hx hZ hown (host := "") (Or.inl (hw _ (List.mem_of_getElem? (i := 11) rfl))) Via.refl e6 F_winning_a1_2 (g := (mkF m 18 #[.val (.ref a1), .val (.int p2), .val (.int won), .val (.int i)] [(.ref a1)])) rfl rfl (hb hby d3_18)
          obtain ⟨cl11, Ar11, S11, Nn11, G11⟩ := id V_vw
          have hin11 : ¬ (i < 0 ∨ cl11.slots.size ≤ i.toNatClampNeg) := inb_of S11 (own_inb hi0 hc10_8 : ¬ i < 0 ∧ i < n)
          have hat11 : cl11.slots[i.toNatClampNeg]? = some (.int (g i.toNatClampNeg)) := own_at S11 G11 hin11
          refine own_pre (A := T10.setTop (mkF m 24 #[.val (.ref a1), .val (.int p2), .val (.int won), .val (.int i)] [(.int p2), (.int (g i.toNatClampNeg))])) (fun tt kt => ?_) ?_
          · show Steps p.tables e below (T6.setTop (mkF m 14 #[.val (.ref a1), .val (.int p2), .val (.int won), .val (.int i)] [(.int won)])) _
            refine XS.ifNo X6.here hx rfl (hb hby d3_14) rfl ((if0 _ _).trans (teq hc14_9).2) ?_
            show Steps p.tables e below (T6.setTop (mkF m 17 #[.val (.ref a1), .val (.int p2), .val (.int won), .val (.int i)] [])) _
            refine XS.aloadN X6.here hx rfl (hb hby d3_17) rfl rfl ?_
            show Steps p.tables e below (T6.setTop (mkF m 18 #[.val (.ref a1), .val (.int p2), .val (.int won), .val (.int i)] [(.ref a1)])) _
            refine st10 _ ?_
            show Steps p.tables e below (T10.setTop (mkF m 21 #[.val (.ref a1), .val (.int p2), .val (.int won), .val (.int i)] [(.ref vw)])) _
            refine XS.iloadN X10.here hx rfl (hb hby d3_21) rfl ?_
            show Steps p.tables e below (T10.setTop (mkF m 22 #[.val (.ref a1), .val (.int p2), .val (.int won), .val (.int i)] [(.int i), (.ref vw)])) _
            refine X10.iaload hx (j := i) (v := (.int (g i.toNatClampNeg))) (by rw [e10]; exact Ar11.1) (State.isArrayOf_alike hZ.alike Ar11.2.1) Ar11.2.2 hin11 hat11 (g := (mkF m 22 #[.val (.ref a1), .val (.int p2), .val (.int won), .val (.int i)] [(.int i), (.ref vw)])) rfl rfl (hb hby d3_22) _ ?_
            show Steps p.tables e below (T10.setTop (mkF m 23 #[.val (.ref a1), .val (.int p2), .val (.int won), .val (.int i)] [(.int (g i.toNatClampNeg))])) _
            refine XS.iloadN X10.here hx rfl (hb hby d3_23) rfl ?_
            exact kt
          show own_End p e below s (T10.setTop (mkF m 24 #[.val (.ref a1), .val (.int p2), .val (.int won), .val (.int i)] [(.int p2), (.int (g i.toNatClampNeg))])) (Q3 Z a1 p2 vw vb vs vp g n h0 n0) ({ frames := 0, cells := 0, slots := 0, locals := 0 } : Room).cells ({ frames := 0, cells := 0, slots := 0, locals := 0 } : Room).slots
          by_cases hc24_12 : (g i.toNatClampNeg) = p2
          · refine own_pre (A := T10.setTop (mkF m 4 #[.val (.ref a1), .val (.int p2), .val (.int (1 : Int32)), .val (.int (i + (1 : Int32)))] [])) (fun tt kt => ?_) ?_
            · show Steps p.tables e below (T10.setTop (mkF m 24 #[.val (.ref a1), .val (.int p2), .val (.int won), .val (.int i)] [(.int p2), (.int (g i.toNatClampNeg))])) _
              refine XS.icmpNo X10.here hx rfl (hb hby d3_24) rfl (teq hc24_12).2 ?_
              show Steps p.tables e below (T10.setTop (mkF m 27 #[.val (.ref a1), .val (.int p2), .val (.int won), .val (.int i)] [])) _
              refine XS.iconst X10.here hx rfl (hb hby d3_27) ?_
              show Steps p.tables e below (T10.setTop (mkF m 28 #[.val (.ref a1), .val (.int p2), .val (.int won), .val (.int i)] [(.int (1 : Int32))])) _
              refine XS.goto X10.here hx rfl (pc0 := 28) (pc' := 32) rfl (hb hby d3_28) (by decide) (by decide) ?_
              show Steps p.tables e below (T10.setTop (mkF m 32 #[.val (.ref a1), .val (.int p2), .val (.int won), .val (.int i)] [(.int (1 : Int32))])) _
              refine XS.istoreN X10.here hx rfl (hb hby d3_32) rfl (l' := #[.val (.ref a1), .val (.int p2), .val (.int (1 : Int32)), .val (.int i)]) rfl ?_
              show Steps p.tables e below (T10.setTop (mkF m 33 #[.val (.ref a1), .val (.int p2), .val (.int (1 : Int32)), .val (.int i)] [])) _
              refine XS.iinc X10.here hx rfl (hb hby d3_33) rfl (l' := #[.val (.ref a1), .val (.int p2), .val (.int (1 : Int32)), .val (.int (i + (1 : Int32)))]) rfl ?_
              show Steps p.tables e below (T10.setTop (mkF m 36 #[.val (.ref a1), .val (.int p2), .val (.int (1 : Int32)), .val (.int (i + (1 : Int32)))] [])) _
              refine XS.goto X10.here hx rfl (pc0 := 36) (pc' := 4) rfl (hb hby d3_36) (by decide) (by decide) ?_
              exact kt
            show own_End p e below s (T10.setTop (mkF m 4 #[.val (.ref a1), .val (.int p2), .val (.int (1 : Int32)), .val (.int (i + (1 : Int32)))] [])) (Q3 Z a1 p2 vw vb vs vp g n h0 n0) ({ frames := 0, cells := 0, slots := 0, locals := 0 } : Room).cells ({ frames := 0, cells := 0, slots := 0, locals := 0 } : Room).slots
            exact ih _ _ X10 e10 Nj4 (1 : Int32) (i + (1 : Int32))  (by have := own_next hi0 hc10_8; omega) (by have := own_next hi0 hc10_8; omega) (by have := own_next hi0 hc10_8; omega) (hj.trans (by simp only [own_win_4, if_pos hc10_8, if_pos hc14_9, if_pos hc24_12]))
          · refine own_pre (A := T10.setTop (mkF m 4 #[.val (.ref a1), .val (.int p2), .val (.int (0 : Int32)), .val (.int (i + (1 : Int32)))] [])) (fun tt kt => ?_) ?_
            · show Steps p.tables e below (T10.setTop (mkF m 24 #[.val (.ref a1), .val (.int p2), .val (.int won), .val (.int i)] [(.int p2), (.int (g i.toNatClampNeg))])) _
              refine XS.icmpYes X10.here hx rfl (pc0 := 24) (pc' := 31) rfl (hb hby d3_24) rfl (feq hc24_12).2 (by decide) (by decide) ?_
              show Steps p.tables e below (T10.setTop (mkF m 31 #[.val (.ref a1), .val (.int p2), .val (.int won), .val (.int i)] [])) _
              refine XS.iconst X10.here hx rfl (hb hby d3_31) ?_
              show Steps p.tables e below (T10.setTop (mkF m 32 #[.val (.ref a1), .val (.int p2), .val (.int won), .val (.int i)] [(.int (0 : Int32))])) _
              refine XS.istoreN X10.here hx rfl (hb hby d3_32) rfl (l' := #[.val (.ref a1), .val (.int p2), .val (.int (0 : Int32)), .val (.int i)]) rfl ?_
              show Steps p.tables e below (T10.setTop (mkF m 33 #[.val (.ref a1), .val (.int p2), .val (.int (0 : Int32)), .val (.int i)] [])) _
              refine XS.iinc X10.here hx rfl (hb hby d3_33) rfl (l' := #[.val (.ref a1), .val (.int p2), .val (.int (0 : Int32)), .val (.int (i + (1 : Int32)))]) rfl ?_
              show Steps p.tables e below (T10.setTop (mkF m 36 #[.val (.ref a1), .val (.int p2), .val (.int (0 : Int32)), .val (.int (i + (1 : Int32)))] [])) _
              refine XS.goto X10.here hx rfl (pc0 := 36) (pc' := 4) rfl (hb hby d3_36) (by decide) (by decide) ?_
              exact kt
            show own_End p e below s (T10.setTop (mkF m 4 #[.val (.ref a1), .val (.int p2), .val (.int (0 : Int32)), .val (.int (i + (1 : Int32)))] [])) (Q3 Z a1 p2 vw vb vs vp g n h0 n0) ({ frames := 0, cells := 0, slots := 0, locals := 0 } : Room).cells ({ frames := 0, cells := 0, slots := 0, locals := 0 } : Room).slots
            exact ih _ _ X10 e10 Nj4 (0 : Int32) (i + (1 : Int32))  (by have := own_next hi0 hc10_8; omega) (by have := own_next hi0 hc10_8; omega) (by have := own_next hi0 hc10_8; omega) (hj.trans (by simp only [own_win_4, if_pos hc10_8, if_pos hc14_9, if_neg hc24_12]))
        · refine own_pre (A := T6.setTop (mkF m 40 #[.val (.ref a1), .val (.int p2), .val (.int won), .val (.int i)] [(.int won)])) (fun tt kt => ?_) ?_
          · show Steps p.tables e below (T6.setTop (mkF m 14 #[.val (.ref a1), .val (.int p2), .val (.int won), .val (.int i)] [(.int won)])) _
            refine XS.ifYes X6.here hx rfl (pc0 := 14) (pc' := 39) rfl (hb hby d3_14) rfl ((if0 _ _).trans (feq hc14_9).2) (by decide) (by decide) ?_
            show Steps p.tables e below (T6.setTop (mkF m 39 #[.val (.ref a1), .val (.int p2), .val (.int won), .val (.int i)] [])) _
            refine XS.iloadN X6.here hx rfl (hb hby d3_39) rfl ?_
            exact kt
          show own_End p e below s (T6.setTop (mkF m 40 #[.val (.ref a1), .val (.int p2), .val (.int won), .val (.int i)] [(.int won)])) (Q3 Z a1 p2 vw vb vs vp g n h0 n0) ({ frames := 0, cells := 0, slots := 0, locals := 0 } : Room).cells ({ frames := 0, cells := 0, slots := 0, locals := 0 } : Room).slots
          have hv : (own_win p2 g n vb) = (won &&& (1 : Int32)) := hj.trans (by simp only [own_win_4, if_pos hc10_8, if_neg hc14_9])
          obtain ⟨fs, hr, hrun, hended, hW, hsame⟩ := X6.leave (v := some (.int (won &&& (1 : Int32)))) (fun h => by rw [Bd.returns] at h; cases h)
          refine ⟨_, _, ?_, hrun, hended, _, _, rfl, ?_, ⟨_, rfl⟩, hW, hsame.mono (by decide) (by decide)⟩
          · exact retN X6 hx (t := .boolean) Bd.returns (by simp) (hb hby d3_40) hr
          · show Q3 Z a1 p2 vw vb vs vp g n h0 n0 _ T6.heap _
            rw [e6]
            exact ⟨(congrArg (fun z => some (Value.int z)) hv.symm), Nj4, rfl⟩
      · refine own_pre (A := T6.setTop (mkF m 40 #[.val (.ref a1), .val (.int p2), .val (.int won), .val (.int i)] [(.int won)])) (fun tt kt => ?_) ?_
        · show Steps p.tables e below (T6.setTop (mkF m 10 #[.val (.ref a1), .val (.int p2), .val (.int won), .val (.int i)] [(.int n), (.int i)])) _
          refine XS.icmpYes X6.here hx rfl (pc0 := 10) (pc' := 39) rfl (hb hby d3_10) rfl (flt hc10_8).2.1 (by decide) (by decide) ?_
          show Steps p.tables e below (T6.setTop (mkF m 39 #[.val (.ref a1), .val (.int p2), .val (.int won), .val (.int i)] [])) _
          refine XS.iloadN X6.here hx rfl (hb hby d3_39) rfl ?_
          exact kt
        show own_End p e below s (T6.setTop (mkF m 40 #[.val (.ref a1), .val (.int p2), .val (.int won), .val (.int i)] [(.int won)])) (Q3 Z a1 p2 vw vb vs vp g n h0 n0) ({ frames := 0, cells := 0, slots := 0, locals := 0 } : Room).cells ({ frames := 0, cells := 0, slots := 0, locals := 0 } : Room).slots
        have hv : (own_win p2 g n vb) = (won &&& (1 : Int32)) := hj.trans (by simp only [own_win_4, if_neg hc10_8])
        obtain ⟨fs, hr, hrun, hended, hW, hsame⟩ := X6.leave (v := some (.int (won &&& (1 : Int32)))) (fun h => by rw [Bd.returns] at h; cases h)
        refine ⟨_, _, ?_, hrun, hended, _, _, rfl, ?_, ⟨_, rfl⟩, hW, hsame.mono (by decide) (by decide)⟩
        · exact retN X6 hx (t := .boolean) Bd.returns (by simp) (hb hby d3_40) hr
        · show Q3 Z a1 p2 vw vb vs vp g n h0 n0 _ T6.heap _
          rw [e6]
          exact ⟨(congrArg (fun z => some (Value.int z)) hv.symm), Nj4, rfl⟩
  exact j4 (n.toNatClampNeg + 1) _ _ X0 e0 N0 (0 : Int32) (0 : Int32)  (by decide) (by have := V_vw.nn; have z : (0 : Int32).toInt = 0 := (by decide); omega) (by have := V_vw.nn; have z : (0 : Int32).toInt = 0 := (by decide); omega) (hj.trans (by simp only [own_win]))
def own_law0_g4 (p1 : Int32) (p2 : Int32) (p3 : Int32) (p4 : Int32) (p5 : Int32) : Nat → Int32 := fun ii => if ii = 0 then p1 else (fun _ => (0 : Int32)) ii
def own_law0_g7 (p1 : Int32) (p2 : Int32) (p3 : Int32) (p4 : Int32) (p5 : Int32) : Nat → Int32 := fun ii => if ii = 1 then p2 else (own_law0_g4 p1 p2 p3 p4 p5) ii
def own_law0_g10 (p1 : Int32) (p2 : Int32) (p3 : Int32) (p4 : Int32) (p5 : Int32) : Nat → Int32 := fun ii => if ii = 2 then p3 else (own_law0_g7 p1 p2 p3 p4 p5) ii
def own_law0_g15 (p1 : Int32) (p2 : Int32) (p3 : Int32) (p4 : Int32) (p5 : Int32) (code : Int32) : Nat → Int32 := fun ii => if ii = 0 then p4 else (fun _ => (0 : Int32)) ii
def own_law0_g19 (p1 : Int32) (p2 : Int32) (p3 : Int32) (p4 : Int32) (p5 : Int32) (code : Int32) : Nat → Int64 := fun ii => if ii = 0 then (1 : Int64) else (fun _ => (0 : Int64)) ii
def own_law0_g31 (p1 : Int32) (p2 : Int32) (p3 : Int32) (p4 : Int32) (p5 : Int32) (code : Int32) : Nat → Int32 := fun ii => if ii = 0 then p4 else (fun _ => (0 : Int32)) ii
def own_law0_g35 (p1 : Int32) (p2 : Int32) (p3 : Int32) (p4 : Int32) (p5 : Int32) (code : Int32) : Nat → Int64 := fun ii => if ii = 0 then (1 : Int64) else (fun _ => (0 : Int64)) ii
def own_law_131 (p1 : Int32) (p2 : Int32) (p3 : Int32) (p4 : Int32) (p5 : Int32) (code : Int32) (ex : Int32) : Int32 := (if (own_win code (own_law0_g10 p1 p2 p3 p4 p5) (3 : Int32) p4) = ex then (if (own_win code (fun _ => (0 : Int32)) (0 : Int32) p4) = (0 : Int32) then (1 : Int32) else (0 : Int32)) else (0 : Int32))
def own_law_53 (p1 : Int32) (p2 : Int32) (p3 : Int32) (p4 : Int32) (p5 : Int32) (code : Int32) : Int32 := (if code = p1 then (own_law_131 p1 p2 p3 p4 p5 code (1 : Int32)) else (if code = p2 then (own_law_131 p1 p2 p3 p4 p5 code (1 : Int32)) else (if code = p3 then (own_law_131 p1 p2 p3 p4 p5 code (1 : Int32)) else (own_law_131 p1 p2 p3 p4 p5 code (0 : Int32)))))
def own_law (p1 : Int32) (p2 : Int32) (p3 : Int32) (p4 : Int32) (p5 : Int32) : Int32 := (if (p5 &&& (3 : Int32)) = (0 : Int32) then (own_law_53 p1 p2 p3 p4 p5 p1) else (if (p5 &&& (3 : Int32)) = (1 : Int32) then (own_law_53 p1 p2 p3 p4 p5 p2) else (if (p5 &&& (3 : Int32)) = (2 : Int32) then (own_law_53 p1 p2 p3 p4 p5 p3) else (own_law_53 p1 p2 p3 p4 p5 p4))))
theorem pn_0 : plainName "com/example/scratchline/scratchline/game/FaceIsWinningPinLaw" = true := by first | (simp [plainName, overriddenIn]; done) | decide +kernel
theorem pd_0_0 : parseMethodDescriptor "([II[I[J)V" = some ⟨[(.array .int), .int, (.array .int), (.array .long)], none⟩ := by decide +kernel
theorem pd_0_1 : parseMethodDescriptor "(I)Z" = some ⟨[.int], some .boolean⟩ := by decide +kernel
theorem ef_0 (m : MethodId) (x0 : Int32) (x1 : Int32) (x2 : Int32) (x3 : Int32) (x4 : Int32) : entryFrame m #[(.int x0), (.int x1), (.int x2), (.int x3), (.int x4)] maxLocals = mkF m 0 #[.val (.int x0), .val (.int x1), .val (.int x2), .val (.int x3), .val (.int x4), .unset, .unset, .unset, .unset, .unset, .unset] [] := by first | (simp [entryFrame, mkF, argsToLocals, Value.category, maxLocals]; done) | rfl
def Q0 (Z : State) (p1 : Int32) (p2 : Int32) (p3 : Int32) (p4 : Int32) (p5 : Int32) (h0 : Heap) (n0 : Nat) (v : Option Value) (h : Heap) (L : List Loc) : Prop := v = some (.int (own_law p1 p2 p3 p4 p5)) ∧ Fr n0 L
set_option maxRecDepth 65536 in
set_option maxHeartbeats 40000000 in
theorem rm0 (l : Launch) (Z : State) (a0 : Array Value) (hw : ∀ d ∈ tables_1, d.before a0 Z = true) (ws : List Jvm.Cond) (p1 : Int32) (p2 : Int32) (p3 : Int32) (p4 : Int32) (p5 : Int32) (h0 : Heap) (n0 : Nat) (Z0 : n0 ≤ h0.size) :
    MetFree l x (head1 (Jvm.Cond.code x code maxLocals ret :: ws) room_1) (fun a U => a = #[(.int p1), (.int p2), (.int p3), (.int p4), (.int p5)] ∧ Z.Warmed39 U.vm ∧ U.heap = h0) (fun _ _ _ _ _ => True) (fun _ U o U' => ∃ v L, o = .returned v ∧ Q0 Z p1 p2 p3 p4 p5 h0 n0 v U'.heap L ∧ FrameEnd U o U' L room_1.cells room_1.slots) := by
  refine MetFree.of_bodySF (plainFor_of_name pn_0) hisR ?_
  intro p e s m args below meth c s₁ Bd hml0 hP hK
  obtain ⟨rfl, hZ, hh⟩ := hP
  have hx := Bd.exec
  have hby := Bd.bytes
  have hml : c.maxLocals = 11 := hml0
  have hown : s.vm.findClass "com/example/scratchline/scratchline/game/FaceIsWinningPinLaw" = some m.cls := findClass_of_methodNamed Bd.named
  have hnm := (name_of_methodNamed Bd.named Bd.method).1
  have X0 : Stand p l e room_1 s m #[(.int p1), (.int p2), (.int p3), (.int p4), (.int p5)] below meth c s₁ [] 0 0 := Stand.of_body Bd
  have e0 : s₁.heap = h0 := by rw [← hh, Bd.state]; rfl
  have N0 := Fr.nil n0
  show own_End p e below s (s₁.setTop (entryFrame m #[(.int p1), (.int p2), (.int p3), (.int p4), (.int p5)] maxLocals)) (Q0 Z p1 p2 p3 p4 p5 h0 n0) room_1.cells room_1.slots
  refine own_pre (A := s₁.setTop (mkF m 0 #[.val (.int p1), .val (.int p2), .val (.int p3), .val (.int p4), .val (.int p5), .unset, .unset, .unset, .unset, .unset, .unset] [])) (fun tt kt => castTop (ef_0 m p1 p2 p3 p4 p5) kt) ?_
  show own_End p e below s (s₁.setTop (mkF m 0 #[.val (.int p1), .val (.int p2), .val (.int p3), .val (.int p4), .val (.int p5), .unset, .unset, .unset, .unset, .unset, .unset] [])) (Q0 Z p1 p2 p3 p4 p5 h0 n0) room_1.cells room_1.slots
  have hj : own_law p1 p2 p3 p4 p5 = own_law p1 p2 p3 p4 p5 := rfl
  obtain ⟨T1, h1, k1, X1, e1, E1, A1, st1⟩ := newP X0 hx hZ (hw _ (List.mem_of_getElem? (i := 0) rfl)) e0 (g := (mkF m 1 #[.val (.int p1), .val (.int p2), .val (.int p3), .val (.int p4), .val (.int p5), .unset, .unset, .unset, .unset, .unset, .unset] [(.int (3 : Int32))])) rfl (hb hby at_1) rfl (by decide) (cap := 3) (by decide) (by decide) (by decide) (by decide)
  obtain ⟨b1, g1⟩ : ∃ z, z = h0.size := ⟨_, rfl⟩
  rw [← g1] at A1 st1
  have g_b1 : n0 ≤ b1 := Nat.le_trans Z0 (Nat.le_of_eq g1.symm)
  have sz_b1 : h0.size ≤ b1 := Nat.le_trans (show Keep h0 h0 [] from (Keep.refl h0 _)).1 (Nat.le_of_eq g1.symm)
  have K1 : Keep h0 h1 [] := Keep.ext (Keep.refl h0 _) E1
  have Z1 : n0 ≤ h1.size := Nat.le_trans Z0 E1.1
  have V1 : own_Arr Z h1 b1 .int (3 : Int32) (fun i => Value.int ((fun _ => (0 : Int32)) i)) := own_Arr.new A1 (by decide) (fun _ => rfl)
  obtain ⟨cl2, Ar2, S2, Nn2, G2⟩ := id V1
  have hin2 : ¬ ((0 : Int32) < 0 ∨ cl2.slots.size ≤ (0 : Int32).toNatClampNeg) := inb_of S2 (⟨by decide, by decide⟩ : ¬ (0 : Int32) < 0 ∧ (0 : Int32) < (3 : Int32))
  obtain ⟨T3, h3, X3, e3, W3, st3⟩ := stI X1 hx hZ e1 Ar2 (j := (0 : Int32)) hin2 (g := (mkF m 6 #[.val (.int p1), .val (.int p2), .val (.int p3), .val (.int p4), .val (.int p5), .unset, .unset, .unset, .unset, .unset, .unset] [(.int p1), (.int (0 : Int32)), (.ref b1), (.ref b1)])) rfl rfl (hb hby at_6)
  have V3 : own_Arr Z h3 b1 .int (3 : Int32) (fun i => Value.int ((own_law0_g4 p1 p2 p3 p4 p5) i)) := own_Arr.set (w := Value.int) (g := (fun _ => (0 : Int32))) (x := p1) V1 W3 rfl (fun i => rfl)
  have N3 := Fr.snoc X3 N0 g_b1
  have K3 : Keep h0 h3 [] := Keep.wr K1 W3 (Or.inr sz_b1)
  have Z3 : n0 ≤ h3.size := Nat.le_trans Z1 (Nat.le_of_eq W3.size.symm)
  obtain ⟨cl5, Ar5, S5, Nn5, G5⟩ := id V3
  have hin5 : ¬ ((1 : Int32) < 0 ∨ cl5.slots.size ≤ (1 : Int32).toNatClampNeg) := inb_of S5 (⟨by decide, by decide⟩ : ¬ (1 : Int32) < 0 ∧ (1 : Int32) < (3 : Int32))
  obtain ⟨T6, h6, X6, e6, W6, st6⟩ := stI X3 hx hZ e3 Ar5 (j := (1 : Int32)) hin5 (g := (mkF m 10 #[.val (.int p1), .val (.int p2), .val (.int p3), .val (.int p4), .val (.int p5), .unset, .unset, .unset, .unset, .unset, .unset] [(.int p2), (.int (1 : Int32)), (.ref b1), (.ref b1)])) rfl rfl (hb hby at_10)
  have V6 : own_Arr Z h6 b1 .int (3 : Int32) (fun i => Value.int ((own_law0_g7 p1 p2 p3 p4 p5) i)) := own_Arr.set (w := Value.int) (g := (own_law0_g4 p1 p2 p3 p4 p5)) (x := p2) V3 W6 rfl (fun i => rfl)
  have N6 := Fr.snoc X6 N3 g_b1
  have K6 : Keep h0 h6 [] := Keep.wr K3 W6 (Or.inr sz_b1)
  have Z6 : n0 ≤ h6.size := Nat.le_trans Z3 (Nat.le_of_eq W6.size.symm)
  obtain ⟨cl8, Ar8, S8, Nn8, G8⟩ := id V6
  have hin8 : ¬ ((2 : Int32) < 0 ∨ cl8.slots.size ≤ (2 : Int32).toNatClampNeg) := inb_of S8 (⟨by decide, by decide⟩ : ¬ (2 : Int32) < 0 ∧ (2 : Int32) < (3 : Int32))
  obtain ⟨T9, h9, X9, e9, W9, st9⟩ := stI X6 hx hZ e6 Ar8 (j := (2 : Int32)) hin8 (g := (mkF m 14 #[.val (.int p1), .val (.int p2), .val (.int p3), .val (.int p4), .val (.int p5), .unset, .unset, .unset, .unset, .unset, .unset] [(.int p3), (.int (2 : Int32)), (.ref b1), (.ref b1)])) rfl rfl (hb hby at_14)
  have V9 : own_Arr Z h9 b1 .int (3 : Int32) (fun i => Value.int ((own_law0_g10 p1 p2 p3 p4 p5) i)) := own_Arr.set (w := Value.int) (g := (own_law0_g7 p1 p2 p3 p4 p5)) (x := p3) V6 W9 rfl (fun i => rfl)
  have N9 := Fr.snoc X9 N6 g_b1
  have K9 : Keep h0 h9 [] := Keep.wr K6 W9 (Or.inr sz_b1)
  have Z9 : n0 ≤ h9.size := Nat.le_trans Z6 (Nat.le_of_eq W9.size.symm)
  refine own_pre (A := T9.setTop (mkF m 25 #[.val (.int p1), .val (.int p2), .val (.int p3), .val (.int p4), .val (.int p5), .val (.ref b1), .val (.int (p5 &&& (3 : Int32))), .unset, .unset, .unset, .unset] [(.int (p5 &&& (3 : Int32)))])) (fun tt kt => ?_) ?_
  · show Steps p.tables e below (s₁.setTop (mkF m 0 #[.val (.int p1), .val (.int p2), .val (.int p3), .val (.int p4), .val (.int p5), .unset, .unset, .unset, .unset, .unset, .unset] [])) _
    refine XS.iconst X0.here hx rfl (hb hby at_0) ?_
    show Steps p.tables e below (s₁.setTop (mkF m 1 #[.val (.int p1), .val (.int p2), .val (.int p3), .val (.int p4), .val (.int p5), .unset, .unset, .unset, .unset, .unset, .unset] [(.int (3 : Int32))])) _
    refine st1 _ ?_
    show Steps p.tables e below (T1.setTop (mkF m 3 #[.val (.int p1), .val (.int p2), .val (.int p3), .val (.int p4), .val (.int p5), .unset, .unset, .unset, .unset, .unset, .unset] [(.ref b1)])) _
    refine XS.dup X1.here hx rfl (hb hby at_3) rfl rfl ?_
    show Steps p.tables e below (T1.setTop (mkF m 4 #[.val (.int p1), .val (.int p2), .val (.int p3), .val (.int p4), .val (.int p5), .unset, .unset, .unset, .unset, .unset, .unset] [(.ref b1), (.ref b1)])) _
    refine XS.iconst X1.here hx rfl (hb hby at_4) ?_
    show Steps p.tables e below (T1.setTop (mkF m 5 #[.val (.int p1), .val (.int p2), .val (.int p3), .val (.int p4), .val (.int p5), .unset, .unset, .unset, .unset, .unset, .unset] [(.int (0 : Int32)), (.ref b1), (.ref b1)])) _
    refine XS.iloadN X1.here hx rfl (hb hby at_5) rfl ?_
    show Steps p.tables e below (T1.setTop (mkF m 6 #[.val (.int p1), .val (.int p2), .val (.int p3), .val (.int p4), .val (.int p5), .unset, .unset, .unset, .unset, .unset, .unset] [(.int p1), (.int (0 : Int32)), (.ref b1), (.ref b1)])) _
    refine st3 _ ?_
    show Steps p.tables e below (T3.setTop (mkF m 7 #[.val (.int p1), .val (.int p2), .val (.int p3), .val (.int p4), .val (.int p5), .unset, .unset, .unset, .unset, .unset, .unset] [(.ref b1)])) _
    refine XS.dup X3.here hx rfl (hb hby at_7) rfl rfl ?_
    show Steps p.tables e below (T3.setTop (mkF m 8 #[.val (.int p1), .val (.int p2), .val (.int p3), .val (.int p4), .val (.int p5), .unset, .unset, .unset, .unset, .unset, .unset] [(.ref b1), (.ref b1)])) _
    refine XS.iconst X3.here hx rfl (hb hby at_8) ?_
    show Steps p.tables e below (T3.setTop (mkF m 9 #[.val (.int p1), .val (.int p2), .val (.int p3), .val (.int p4), .val (.int p5), .unset, .unset, .unset, .unset, .unset, .unset] [(.int (1 : Int32)), (.ref b1), (.ref b1)])) _
    refine XS.iloadN X3.here hx rfl (hb hby at_9) rfl ?_
    show Steps p.tables e below (T3.setTop (mkF m 10 #[.val (.int p1), .val (.int p2), .val (.int p3), .val (.int p4), .val (.int p5), .unset, .unset, .unset, .unset, .unset, .unset] [(.int p2), (.int (1 : Int32)), (.ref b1), (.ref b1)])) _
    refine st6 _ ?_
    show Steps p.tables e below (T6.setTop (mkF m 11 #[.val (.int p1), .val (.int p2), .val (.int p3), .val (.int p4), .val (.int p5), .unset, .unset, .unset, .unset, .unset, .unset] [(.ref b1)])) _
    refine XS.dup X6.here hx rfl (hb hby at_11) rfl rfl ?_
    show Steps p.tables e below (T6.setTop (mkF m 12 #[.val (.int p1), .val (.int p2), .val (.int p3), .val (.int p4), .val (.int p5), .unset, .unset, .unset, .unset, .unset, .unset] [(.ref b1), (.ref b1)])) _
    refine XS.iconst X6.here hx rfl (hb hby at_12) ?_
    show Steps p.tables e below (T6.setTop (mkF m 13 #[.val (.int p1), .val (.int p2), .val (.int p3), .val (.int p4), .val (.int p5), .unset, .unset, .unset, .unset, .unset, .unset] [(.int (2 : Int32)), (.ref b1), (.ref b1)])) _
    refine XS.iloadN X6.here hx rfl (hb hby at_13) rfl ?_
    show Steps p.tables e below (T6.setTop (mkF m 14 #[.val (.int p1), .val (.int p2), .val (.int p3), .val (.int p4), .val (.int p5), .unset, .unset, .unset, .unset, .unset, .unset] [(.int p3), (.int (2 : Int32)), (.ref b1), (.ref b1)])) _
    refine st9 _ ?_
    show Steps p.tables e below (T9.setTop (mkF m 15 #[.val (.int p1), .val (.int p2), .val (.int p3), .val (.int p4), .val (.int p5), .unset, .unset, .unset, .unset, .unset, .unset] [(.ref b1)])) _
    refine XS.astore X9.here hx rfl (hb hby at_15) rfl rfl (l' := #[.val (.int p1), .val (.int p2), .val (.int p3), .val (.int p4), .val (.int p5), .val (.ref b1), .unset, .unset, .unset, .unset, .unset]) rfl ?_
    show Steps p.tables e below (T9.setTop (mkF m 17 #[.val (.int p1), .val (.int p2), .val (.int p3), .val (.int p4), .val (.int p5), .val (.ref b1), .unset, .unset, .unset, .unset, .unset] [])) _
    refine XS.iload X9.here hx rfl (hb hby at_17) rfl ?_
    show Steps p.tables e below (T9.setTop (mkF m 19 #[.val (.int p1), .val (.int p2), .val (.int p3), .val (.int p4), .val (.int p5), .val (.ref b1), .unset, .unset, .unset, .unset, .unset] [(.int p5)])) _
    refine XS.iconst X9.here hx rfl (hb hby at_19) ?_
    show Steps p.tables e below (T9.setTop (mkF m 20 #[.val (.int p1), .val (.int p2), .val (.int p3), .val (.int p4), .val (.int p5), .val (.ref b1), .unset, .unset, .unset, .unset, .unset] [(.int (3 : Int32)), (.int p5)])) _
    refine XS.iand X9.here hx rfl (hb hby at_20) rfl ?_
    show Steps p.tables e below (T9.setTop (mkF m 21 #[.val (.int p1), .val (.int p2), .val (.int p3), .val (.int p4), .val (.int p5), .val (.ref b1), .unset, .unset, .unset, .unset, .unset] [(.int (p5 &&& (3 : Int32)))])) _
    refine XS.istore X9.here hx rfl (hb hby at_21) rfl (l' := #[.val (.int p1), .val (.int p2), .val (.int p3), .val (.int p4), .val (.int p5), .val (.ref b1), .val (.int (p5 &&& (3 : Int32))), .unset, .unset, .unset, .unset]) rfl ?_
    show Steps p.tables e below (T9.setTop (mkF m 23 #[.val (.int p1), .val (.int p2), .val (.int p3), .val (.int p4), .val (.int p5), .val (.ref b1), .val (.int (p5 &&& (3 : Int32))), .unset, .unset, .unset, .unset] [])) _
    refine XS.iload X9.here hx rfl (hb hby at_23) rfl ?_
    exact kt
  show own_End p e below s (T9.setTop (mkF m 25 #[.val (.int p1), .val (.int p2), .val (.int p3), .val (.int p4), .val (.int p5), .val (.ref b1), .val (.int (p5 &&& (3 : Int32))), .unset, .unset, .unset, .unset] [(.int (p5 &&& (3 : Int32)))])) (Q0 Z p1 p2 p3 p4 p5 h0 n0) room_1.cells room_1.slots
  have j53 : ∀ (Tj53 : State) (Lj53 : List Loc) (Xj53 : Stand p l e room_1 s m #[(.int p1), (.int p2), (.int p3), (.int p4), (.int p5)] below meth c Tj53 Lj53 1 3) (ej53 : Tj53.heap = h9) (Nj53 : Fr n0 Lj53) (code : Int32) , own_law p1 p2 p3 p4 p5 = own_law_53 p1 p2 p3 p4 p5 code → own_End p e below s (Tj53.setTop (mkF m 53 #[.val (.int p1), .val (.int p2), .val (.int p3), .val (.int p4), .val (.int p5), .val (.ref b1), .val (.int (p5 &&& (3 : Int32))), .unset, .unset, .unset, .unset] [(.int code)])) (Q0 Z p1 p2 p3 p4 p5 h0 n0) room_1.cells room_1.slots := by
    intro Tj53 Lj53 Xj53 ej53 Nj53 code  hj
    obtain ⟨T11, h11, X11, e11, E11, A11, D11, -, st11⟩ := newO Xj53 hx hZ hown (hw _ (List.mem_of_getElem? (i := 1) rfl)) (hw _ (List.mem_of_getElem? (i := 2) rfl)) (hw _ (List.mem_of_getElem? (i := 3) rfl)) ej53 (g := (mkF m 55 #[.val (.int p1), .val (.int p2), .val (.int p3), .val (.int p4), .val (.int p5), .val (.ref b1), .val (.int (p5 &&& (3 : Int32))), .val (.int code), .unset, .unset, .unset] [])) rfl (hb hby at_55) (by decide) (by decide)
    obtain ⟨b11, g11⟩ : ∃ z, z = h9.size := ⟨_, rfl⟩
    rw [← g11] at A11 D11 st11
    have ne_b1_b11 : b1 ≠ b11 := Nat.ne_of_lt (Nat.lt_of_lt_of_le V9.lt (Nat.le_of_eq g11.symm))
    have g_b11 : n0 ≤ b11 := Nat.le_trans Z9 (Nat.le_of_eq g11.symm)
    have sz_b11 : h0.size ≤ b11 := Nat.le_trans (show Keep h0 h9 [] from K9).1 (Nat.le_of_eq g11.symm)
    have fA_b1_x11 := (V9.ext E11)
    have K11 : Keep h0 h11 [] := Keep.ext K9 E11
    have Z11 : n0 ≤ h11.size := Nat.le_trans Z9 E11.1
    have F_winning_b11 : Fld Z h11 b11 "com/example/scratchline/scratchline/game/Face" "winning" "[I" .null := D11 (Or.inr (hw _ (List.mem_of_getElem? (i := 12) rfl))) (ty := (.array .int)) (by decide)
    have F_bonus_b11 : Fld Z h11 b11 "com/example/scratchline/scratchline/game/Face" "bonus" "I" (.int (0 : Int32)) := D11 (Or.inr (hw _ (List.mem_of_getElem? (i := 14) rfl))) (ty := .int) (by decide)
    have F_spots_b11 : Fld Z h11 b11 "com/example/scratchline/scratchline/game/Face" "spots" "[I" .null := D11 (Or.inr (hw _ (List.mem_of_getElem? (i := 16) rfl))) (ty := (.array .int)) (by decide)
    have F_prizes_b11 : Fld Z h11 b11 "com/example/scratchline/scratchline/game/Face" "prizes" "[J" .null := D11 (Or.inr (hw _ (List.mem_of_getElem? (i := 18) rfl))) (ty := (.array .long)) (by decide)
    obtain ⟨T12, h12, k12, X12, e12, E12, A12, st12⟩ := newP X11 hx hZ (hw _ (List.mem_of_getElem? (i := 0) rfl)) e11 (g := (mkF m 63 #[.val (.int p1), .val (.int p2), .val (.int p3), .val (.int p4), .val (.int p5), .val (.ref b1), .val (.int (p5 &&& (3 : Int32))), .val (.int code), .unset, .unset, .unset] [(.int (1 : Int32)), (.int p4), (.ref b1), (.ref b11), (.ref b11)])) rfl (hb hby at_63) rfl (by decide) (cap := 1) (by decide) (by decide) (by decide) (by decide)
    obtain ⟨b12, g12⟩ : ∃ z, z = h11.size := ⟨_, rfl⟩
    rw [← g12] at A12 st12
    have ne_b11_b12 : b11 ≠ b12 := Nat.ne_of_lt (Nat.lt_of_lt_of_le A11.lt (Nat.le_of_eq g12.symm))
    have ne_b1_b12 : b1 ≠ b12 := Nat.ne_of_lt (Nat.lt_of_lt_of_le fA_b1_x11.lt (Nat.le_of_eq g12.symm))
    have g_b12 : n0 ≤ b12 := Nat.le_trans Z11 (Nat.le_of_eq g12.symm)
    have sz_b12 : h0.size ≤ b12 := Nat.le_trans (show Keep h0 h11 [] from K11).1 (Nat.le_of_eq g12.symm)
    have fA_b1_x12 := (fA_b1_x11.ext E12)
    have fE_b11_x12 := (A11.ext E12)
    have fF_b11_winning_x12 := (F_winning_b11.ext E12)
    have fF_b11_bonus_x12 := (F_bonus_b11.ext E12)
    have fF_b11_spots_x12 := (F_spots_b11.ext E12)
    have fF_b11_prizes_x12 := (F_prizes_b11.ext E12)
    have K12 : Keep h0 h12 [] := Keep.ext K11 E12
    have Z12 : n0 ≤ h12.size := Nat.le_trans Z11 E12.1
    have V12 : own_Arr Z h12 b12 .int (1 : Int32) (fun i => Value.int ((fun _ => (0 : Int32)) i)) := own_Arr.new A12 (by decide) (fun _ => rfl)
    obtain ⟨cl13, Ar13, S13, Nn13, G13⟩ := id V12
    have hin13 : ¬ ((0 : Int32) < 0 ∨ cl13.slots.size ≤ (0 : Int32).toNatClampNeg) := inb_of S13 (⟨by decide, by decide⟩ : ¬ (0 : Int32) < 0 ∧ (0 : Int32) < (1 : Int32))
    obtain ⟨T14, h14, X14, e14, W14, st14⟩ := stI X12 hx hZ e12 Ar13 (j := (0 : Int32)) hin13 (g := (mkF m 68 #[.val (.int p1), .val (.int p2), .val (.int p3), .val (.int p4), .val (.int p5), .val (.ref b1), .val (.int (p5 &&& (3 : Int32))), .val (.int code), .unset, .unset, .unset] [(.int p4), (.int (0 : Int32)), (.ref b12), (.ref b12), (.int p4), (.ref b1), (.ref b11), (.ref b11)])) rfl rfl (hb hby at_68)
    have fA_b1_x14 := (fA_b1_x12.other W14 ne_b1_b12)
    have fE_b11_x14 := (fE_b11_x12.wr W14)
    have fF_b11_winning_x14 := (Fld.other W14 fF_b11_winning_x12 (Or.inl ne_b11_b12))
    have fF_b11_bonus_x14 := (Fld.other W14 fF_b11_bonus_x12 (Or.inl ne_b11_b12))
    have fF_b11_spots_x14 := (Fld.other W14 fF_b11_spots_x12 (Or.inl ne_b11_b12))
    have fF_b11_prizes_x14 := (Fld.other W14 fF_b11_prizes_x12 (Or.inl ne_b11_b12))
    have V14 : own_Arr Z h14 b12 .int (1 : Int32) (fun i => Value.int ((own_law0_g15 p1 p2 p3 p4 p5 code) i)) := own_Arr.set (w := Value.int) (g := (fun _ => (0 : Int32))) (x := p4) V12 W14 rfl (fun i => rfl)
    have N14 := Fr.snoc X14 Nj53 g_b12
    have K14 : Keep h0 h14 [] := Keep.wr K12 W14 (Or.inr sz_b12)
    have Z14 : n0 ≤ h14.size := Nat.le_trans Z12 (Nat.le_of_eq W14.size.symm)
    obtain ⟨T16, h16, k16, X16, e16, E16, A16, st16⟩ := newP X14 hx hZ (hw _ (List.mem_of_getElem? (i := 4) rfl)) e14 (g := (mkF m 70 #[.val (.int p1), .val (.int p2), .val (.int p3), .val (.int p4), .val (.int p5), .val (.ref b1), .val (.int (p5 &&& (3 : Int32))), .val (.int code), .unset, .unset, .unset] [(.int (1 : Int32)), (.ref b12), (.int p4), (.ref b1), (.ref b11), (.ref b11)])) rfl (hb hby at_70) rfl (by decide) (cap := 1) (by decide) (by decide) (by decide) (by decide)
    obtain ⟨b16, g16⟩ : ∃ z, z = h14.size := ⟨_, rfl⟩
    rw [← g16] at A16 st16
    have ne_b12_b16 : b12 ≠ b16 := Nat.ne_of_lt (Nat.lt_of_lt_of_le V14.lt (Nat.le_of_eq g16.symm))
    have ne_b11_b16 : b11 ≠ b16 := Nat.ne_of_lt (Nat.lt_of_lt_of_le fE_b11_x14.lt (Nat.le_of_eq g16.symm))
    have ne_b1_b16 : b1 ≠ b16 := Nat.ne_of_lt (Nat.lt_of_lt_of_le fA_b1_x14.lt (Nat.le_of_eq g16.symm))
    have g_b16 : n0 ≤ b16 := Nat.le_trans Z14 (Nat.le_of_eq g16.symm)
    have sz_b16 : h0.size ≤ b16 := Nat.le_trans (show Keep h0 h14 [] from K14).1 (Nat.le_of_eq g16.symm)
    have fA_b1_x16 := (fA_b1_x14.ext E16)
    have fE_b11_x16 := (fE_b11_x14.ext E16)
    have fF_b11_winning_x16 := (fF_b11_winning_x14.ext E16)
    have fF_b11_bonus_x16 := (fF_b11_bonus_x14.ext E16)
    have fF_b11_spots_x16 := (fF_b11_spots_x14.ext E16)
    have fF_b11_prizes_x16 := (fF_b11_prizes_x14.ext E16)
    have fA_b12_x16 := (V14.ext E16)
    have K16 : Keep h0 h16 [] := Keep.ext K14 E16
    have Z16 : n0 ≤ h16.size := Nat.le_trans Z14 E16.1
    have V16 : own_Arr Z h16 b16 .long (1 : Int32) (fun i => Value.long ((fun _ => (0 : Int64)) i)) := own_Arr.new A16 (by decide) (fun _ => rfl)
    obtain ⟨cl17, Ar17, S17, Nn17, G17⟩ := id V16
    have hin17 : ¬ ((0 : Int32) < 0 ∨ cl17.slots.size ≤ (0 : Int32).toNatClampNeg) := inb_of S17 (⟨by decide, by decide⟩ : ¬ (0 : Int32) < 0 ∧ (0 : Int32) < (1 : Int32))
    obtain ⟨T18, h18, X18, e18, W18, st18⟩ := stJ X16 hx hZ e16 Ar17 (j := (0 : Int32)) hin17 (g := (mkF m 75 #[.val (.int p1), .val (.int p2), .val (.int p3), .val (.int p4), .val (.int p5), .val (.ref b1), .val (.int (p5 &&& (3 : Int32))), .val (.int code), .unset, .unset, .unset] [(.long (1 : Int64)), (.int (0 : Int32)), (.ref b16), (.ref b16), (.ref b12), (.int p4), (.ref b1), (.ref b11), (.ref b11)])) rfl rfl (hb hby at_75)
    have fA_b1_x18 := (fA_b1_x16.other W18 ne_b1_b16)
    have fE_b11_x18 := (fE_b11_x16.wr W18)
    have fF_b11_winning_x18 := (Fld.other W18 fF_b11_winning_x16 (Or.inl ne_b11_b16))
    have fF_b11_bonus_x18 := (Fld.other W18 fF_b11_bonus_x16 (Or.inl ne_b11_b16))
    have fF_b11_spots_x18 := (Fld.other W18 fF_b11_spots_x16 (Or.inl ne_b11_b16))
    have fF_b11_prizes_x18 := (Fld.other W18 fF_b11_prizes_x16 (Or.inl ne_b11_b16))
    have fA_b12_x18 := (fA_b12_x16.other W18 ne_b12_b16)
    have V18 : own_Arr Z h18 b16 .long (1 : Int32) (fun i => Value.long ((own_law0_g19 p1 p2 p3 p4 p5 code) i)) := own_Arr.set (w := Value.long) (g := (fun _ => (0 : Int64))) (x := (1 : Int64)) V16 W18 rfl (fun i => rfl)
    have N18 := Fr.snoc X18 N14 g_b16
    have K18 : Keep h0 h18 [] := Keep.wr K16 W18 (Or.inr sz_b16)
    have Z18 : n0 ≤ h18.size := Nat.le_trans Z16 (Nat.le_of_eq W18.size.symm)
    obtain ⟨_, _, ⟨T20, L20, k20, n20⟩, -, X20, ⟨Lc20, hQ20, l20, y20, z20⟩, st20⟩ := X18.specialBack hx (y := (⟨"com/example/scratchline/scratchline/game/Face", "<init>", "([II[I[J)V"⟩ : MethodName)) rfl hown (mvT hZ (hw _ (List.mem_of_getElem? (i := 5) rfl))) (mvT hZ (hw _ (List.mem_of_getElem? (i := 6) rfl))) (mvT hZ (hw _ (List.mem_of_getElem? (i := 7) rfl))) (by decide) (backOf (W := 1) (rm1 l Z a0 hw [] b11 b1 p4 b12 b16 (0 : Int32) h18 n0 Z18 ⟨fE_b11_x18, fF_b11_winning_x18, fF_b11_bonus_x18, fF_b11_spots_x18, fF_b11_prizes_x18⟩ g_b11) hZ (hw _ (List.mem_of_getElem? (i := 7) rfl)) (hw _ (List.mem_of_getElem? (i := 3) rfl)) (by decide) (by decide)) (g := (mkF m 76 #[.val (.int p1), .val (.int p2), .val (.int p3), .val (.int p4), .val (.int p5), .val (.ref b1), .val (.int (p5 &&& (3 : Int32))), .val (.int code), .unset, .unset, .unset] [(.ref b16), (.ref b12), (.int p4), (.ref b1), (.ref b11), (.ref b11)])) rfl (by rw [hml]; rfl) (Steps.refl _) (a := b11) (argsL := [(.ref b1), (.int p4), (.ref b12), (.ref b16)]) (rest := [(.ref b11)]) (lenOf pd_0_0 rfl) rfl (by show 2 * 0 + _ ≤ _; exact Nat.le_of_eq rfl) (hb hby at_76) (fun _ _ => ⟨rfl, e18, (by decide : 4 + 0 ≤ _), (by decide : 9 + 0 ≤ _)⟩)
    dsimp only [Pt.U, Pt.locs, Pt.cells, Pt.slots] at X20 l20 y20 z20 st20 hQ20
    subst l20 y20 z20
    obtain ⟨rfl, N20q, Kq20, O20_0⟩ := hQ20
    have N20 := Fr.app N18 N20q
    have fA_b1_x20 := (fA_b1_x18.keep Kq20 (ninS ne_b1_b11 nin0))
    have fE_b11_x20 := (fE_b11_x18.keep Kq20)
    have fA_b12_x20 := (fA_b12_x18.keep Kq20 (ninS (Ne.symm ne_b11_b12) nin0))
    have fA_b16_x20 := (V18.keep Kq20 (ninS (Ne.symm ne_b11_b16) nin0))
    have K20 : Keep h0 T20.heap [] := Keep.trans K18 Kq20 (allS (Or.inr sz_b11) all0)
    have Z20 : n0 ≤ T20.heap.size := Nat.le_trans Z18 Kq20.1
    obtain ⟨E_b11_21, F_winning_b11_22, F_bonus_b11_23, F_spots_b11_24, F_prizes_b11_25⟩ := O20_0
    obtain ⟨T26, h26, X26, e26, E26, A26, D26, -, st26⟩ := newO X20 hx hZ hown (hw _ (List.mem_of_getElem? (i := 1) rfl)) (hw _ (List.mem_of_getElem? (i := 2) rfl)) (hw _ (List.mem_of_getElem? (i := 3) rfl)) rfl (g := (mkF m 81 #[.val (.int p1), .val (.int p2), .val (.int p3), .val (.int p4), .val (.int p5), .val (.ref b1), .val (.int (p5 &&& (3 : Int32))), .val (.int code), .val (.ref b11), .unset, .unset] [])) rfl (hb hby at_81) (by decide) (by decide)
    obtain ⟨b26, g26⟩ : ∃ z, z = T20.heap.size := ⟨_, rfl⟩
    rw [← g26] at A26 D26 st26
    have ne_b12_b26 : b12 ≠ b26 := Nat.ne_of_lt (Nat.lt_of_lt_of_le fA_b12_x20.lt (Nat.le_of_eq g26.symm))
    have ne_b16_b26 : b16 ≠ b26 := Nat.ne_of_lt (Nat.lt_of_lt_of_le fA_b16_x20.lt (Nat.le_of_eq g26.symm))
    have ne_b11_b26 : b11 ≠ b26 := Nat.ne_of_lt (Nat.lt_of_lt_of_le E_b11_21.lt (Nat.le_of_eq g26.symm))
    have ne_b1_b26 : b1 ≠ b26 := Nat.ne_of_lt (Nat.lt_of_lt_of_le fA_b1_x20.lt (Nat.le_of_eq g26.symm))
    have g_b26 : n0 ≤ b26 := Nat.le_trans Z20 (Nat.le_of_eq g26.symm)
    have sz_b26 : h0.size ≤ b26 := Nat.le_trans (show Keep h0 T20.heap [] from K20).1 (Nat.le_of_eq g26.symm)
    have fA_b1_x26 := (fA_b1_x20.ext E26)
    have fE_b11_x26 := (E_b11_21.ext E26)
    have fA_b12_x26 := (fA_b12_x20.ext E26)
    have fA_b16_x26 := (fA_b16_x20.ext E26)
    have fF_b11_winning_x26 := (F_winning_b11_22.ext E26)
    have fF_b11_bonus_x26 := (F_bonus_b11_23.ext E26)
    have fF_b11_spots_x26 := (F_spots_b11_24.ext E26)
    have fF_b11_prizes_x26 := (F_prizes_b11_25.ext E26)
    have K26 : Keep h0 h26 [] := Keep.ext K20 E26
    have Z26 : n0 ≤ h26.size := Nat.le_trans Z20 E26.1
    have F_winning_b26 : Fld Z h26 b26 "com/example/scratchline/scratchline/game/Face" "winning" "[I" .null := D26 (Or.inr (hw _ (List.mem_of_getElem? (i := 12) rfl))) (ty := (.array .int)) (by decide)
    have F_bonus_b26 : Fld Z h26 b26 "com/example/scratchline/scratchline/game/Face" "bonus" "I" (.int (0 : Int32)) := D26 (Or.inr (hw _ (List.mem_of_getElem? (i := 14) rfl))) (ty := .int) (by decide)
    have F_spots_b26 : Fld Z h26 b26 "com/example/scratchline/scratchline/game/Face" "spots" "[I" .null := D26 (Or.inr (hw _ (List.mem_of_getElem? (i := 16) rfl))) (ty := (.array .int)) (by decide)
    have F_prizes_b26 : Fld Z h26 b26 "com/example/scratchline/scratchline/game/Face" "prizes" "[J" .null := D26 (Or.inr (hw _ (List.mem_of_getElem? (i := 18) rfl))) (ty := (.array .long)) (by decide)
    obtain ⟨T27, h27, k27, X27, e27, E27, A27, st27⟩ := newP X26 hx hZ (hw _ (List.mem_of_getElem? (i := 0) rfl)) e26 (g := (mkF m 86 #[.val (.int p1), .val (.int p2), .val (.int p3), .val (.int p4), .val (.int p5), .val (.ref b1), .val (.int (p5 &&& (3 : Int32))), .val (.int code), .val (.ref b11), .unset, .unset] [(.int (0 : Int32)), (.ref b26), (.ref b26)])) rfl (hb hby at_86) rfl (by decide) (cap := 0) (by decide) (by decide) (by decide) (by decide)
    obtain ⟨b27, g27⟩ : ∃ z, z = h26.size := ⟨_, rfl⟩
    rw [← g27] at A27 st27
    have ne_b16_b27 : b16 ≠ b27 := Nat.ne_of_lt (Nat.lt_of_lt_of_le fA_b16_x26.lt (Nat.le_of_eq g27.symm))
    have ne_b11_b27 : b11 ≠ b27 := Nat.ne_of_lt (Nat.lt_of_lt_of_le fE_b11_x26.lt (Nat.le_of_eq g27.symm))
    have ne_b12_b27 : b12 ≠ b27 := Nat.ne_of_lt (Nat.lt_of_lt_of_le fA_b12_x26.lt (Nat.le_of_eq g27.symm))
    have ne_b1_b27 : b1 ≠ b27 := Nat.ne_of_lt (Nat.lt_of_lt_of_le fA_b1_x26.lt (Nat.le_of_eq g27.symm))
    have ne_b26_b27 : b26 ≠ b27 := Nat.ne_of_lt (Nat.lt_of_lt_of_le A26.lt (Nat.le_of_eq g27.symm))
    have g_b27 : n0 ≤ b27 := Nat.le_trans Z26 (Nat.le_of_eq g27.symm)
    have sz_b27 : h0.size ≤ b27 := Nat.le_trans (show Keep h0 h26 [] from K26).1 (Nat.le_of_eq g27.symm)
    have fA_b1_x27 := (fA_b1_x26.ext E27)
    have fE_b11_x27 := (fE_b11_x26.ext E27)
    have fA_b12_x27 := (fA_b12_x26.ext E27)
    have fA_b16_x27 := (fA_b16_x26.ext E27)
    have fF_b11_winning_x27 := (fF_b11_winning_x26.ext E27)
    have fF_b11_bonus_x27 := (fF_b11_bonus_x26.ext E27)
    have fF_b11_spots_x27 := (fF_b11_spots_x26.ext E27)
    have fF_b11_prizes_x27 := (fF_b11_prizes_x26.ext E27)
    have fE_b26_x27 := (A26.ext E27)
    have fF_b26_winning_x27 := (F_winning_b26.ext E27)
    have fF_b26_bonus_x27 := (F_bonus_b26.ext E27)
    have fF_b26_spots_x27 := (F_spots_b26.ext E27)
    have fF_b26_prizes_x27 := (F_prizes_b26.ext E27)
    have K27 : Keep h0 h27 [] := Keep.ext K26 E27
    have Z27 : n0 ≤ h27.size := Nat.le_trans Z26 E27.1
    have V27 : own_Arr Z h27 b27 .int (0 : Int32) (fun i => Value.int ((fun _ => (0 : Int32)) i)) := own_Arr.new A27 (by decide) (fun _ => rfl)
    obtain ⟨T28, h28, k28, X28, e28, E28, A28, st28⟩ := newP X27 hx hZ (hw _ (List.mem_of_getElem? (i := 0) rfl)) e27 (g := (mkF m 90 #[.val (.int p1), .val (.int p2), .val (.int p3), .val (.int p4), .val (.int p5), .val (.ref b1), .val (.int (p5 &&& (3 : Int32))), .val (.int code), .val (.ref b11), .unset, .unset] [(.int (1 : Int32)), (.int p4), (.ref b27), (.ref b26), (.ref b26)])) rfl (hb hby at_90) rfl (by decide) (cap := 1) (by decide) (by decide) (by decide) (by decide)
    obtain ⟨b28, g28⟩ : ∃ z, z = h27.size := ⟨_, rfl⟩
    rw [← g28] at A28 st28
    have ne_b16_b28 : b16 ≠ b28 := Nat.ne_of_lt (Nat.lt_of_lt_of_le fA_b16_x27.lt (Nat.le_of_eq g28.symm))
    have ne_b27_b28 : b27 ≠ b28 := Nat.ne_of_lt (Nat.lt_of_lt_of_le V27.lt (Nat.le_of_eq g28.symm))
    have ne_b11_b28 : b11 ≠ b28 := Nat.ne_of_lt (Nat.lt_of_lt_of_le fE_b11_x27.lt (Nat.le_of_eq g28.symm))
    have ne_b12_b28 : b12 ≠ b28 := Nat.ne_of_lt (Nat.lt_of_lt_of_le fA_b12_x27.lt (Nat.le_of_eq g28.symm))
    have ne_b1_b28 : b1 ≠ b28 := Nat.ne_of_lt (Nat.lt_of_lt_of_le fA_b1_x27.lt (Nat.le_of_eq g28.symm))
    have ne_b26_b28 : b26 ≠ b28 := Nat.ne_of_lt (Nat.lt_of_lt_of_le fE_b26_x27.lt (Nat.le_of_eq g28.symm))
    have g_b28 : n0 ≤ b28 := Nat.le_trans Z27 (Nat.le_of_eq g28.symm)
    have sz_b28 : h0.size ≤ b28 := Nat.le_trans (show Keep h0 h27 [] from K27).1 (Nat.le_of_eq g28.symm)
    have fA_b1_x28 := (fA_b1_x27.ext E28)
    have fE_b11_x28 := (fE_b11_x27.ext E28)
    have fA_b12_x28 := (fA_b12_x27.ext E28)
    have fA_b16_x28 := (fA_b16_x27.ext E28)
    have fF_b11_winning_x28 := (fF_b11_winning_x27.ext E28)
    have fF_b11_bonus_x28 := (fF_b11_bonus_x27.ext E28)
    have fF_b11_spots_x28 := (fF_b11_spots_x27.ext E28)
    have fF_b11_prizes_x28 := (fF_b11_prizes_x27.ext E28)
    have fE_b26_x28 := (fE_b26_x27.ext E28)
    have fF_b26_winning_x28 := (fF_b26_winning_x27.ext E28)
    have fF_b26_bonus_x28 := (fF_b26_bonus_x27.ext E28)
    have fF_b26_spots_x28 := (fF_b26_spots_x27.ext E28)
    have fF_b26_prizes_x28 := (fF_b26_prizes_x27.ext E28)
    have fA_b27_x28 := (V27.ext E28)
    have K28 : Keep h0 h28 [] := Keep.ext K27 E28
    have Z28 : n0 ≤ h28.size := Nat.le_trans Z27 E28.1
    have V28 : own_Arr Z h28 b28 .int (1 : Int32) (fun i => Value.int ((fun _ => (0 : Int32)) i)) := own_Arr.new A28 (by decide) (fun _ => rfl)
    obtain ⟨cl29, Ar29, S29, Nn29, G29⟩ := id V28
    have hin29 : ¬ ((0 : Int32) < 0 ∨ cl29.slots.size ≤ (0 : Int32).toNatClampNeg) := inb_of S29 (⟨by decide, by decide⟩ : ¬ (0 : Int32) < 0 ∧ (0 : Int32) < (1 : Int32))
    obtain ⟨T30, h30, X30, e30, W30, st30⟩ := stI X28 hx hZ e28 Ar29 (j := (0 : Int32)) hin29 (g := (mkF m 95 #[.val (.int p1), .val (.int p2), .val (.int p3), .val (.int p4), .val (.int p5), .val (.ref b1), .val (.int (p5 &&& (3 : Int32))), .val (.int code), .val (.ref b11), .unset, .unset] [(.int p4), (.int (0 : Int32)), (.ref b28), (.ref b28), (.int p4), (.ref b27), (.ref b26), (.ref b26)])) rfl rfl (hb hby at_95)
    have fA_b1_x30 := (fA_b1_x28.other W30 ne_b1_b28)
    have fE_b11_x30 := (fE_b11_x28.wr W30)
    have fA_b12_x30 := (fA_b12_x28.other W30 ne_b12_b28)
    have fA_b16_x30 := (fA_b16_x28.other W30 ne_b16_b28)
    have fF_b11_winning_x30 := (Fld.other W30 fF_b11_winning_x28 (Or.inl ne_b11_b28))
    have fF_b11_bonus_x30 := (Fld.other W30 fF_b11_bonus_x28 (Or.inl ne_b11_b28))
    have fF_b11_spots_x30 := (Fld.other W30 fF_b11_spots_x28 (Or.inl ne_b11_b28))
    have fF_b11_prizes_x30 := (Fld.other W30 fF_b11_prizes_x28 (Or.inl ne_b11_b28))
    have fE_b26_x30 := (fE_b26_x28.wr W30)
    have fF_b26_winning_x30 := (Fld.other W30 fF_b26_winning_x28 (Or.inl ne_b26_b28))
    have fF_b26_bonus_x30 := (Fld.other W30 fF_b26_bonus_x28 (Or.inl ne_b26_b28))
    have fF_b26_spots_x30 := (Fld.other W30 fF_b26_spots_x28 (Or.inl ne_b26_b28))
    have fF_b26_prizes_x30 := (Fld.other W30 fF_b26_prizes_x28 (Or.inl ne_b26_b28))
    have fA_b27_x30 := (fA_b27_x28.other W30 ne_b27_b28)
    have V30 : own_Arr Z h30 b28 .int (1 : Int32) (fun i => Value.int ((own_law0_g31 p1 p2 p3 p4 p5 code) i)) := own_Arr.set (w := Value.int) (g := (fun _ => (0 : Int32))) (x := p4) V28 W30 rfl (fun i => rfl)
    have N30 := Fr.snoc X30 N20 g_b28
    have K30 : Keep h0 h30 [] := Keep.wr K28 W30 (Or.inr sz_b28)
    have Z30 : n0 ≤ h30.size := Nat.le_trans Z28 (Nat.le_of_eq W30.size.symm)
    obtain ⟨T32, h32, k32, X32, e32, E32, A32, st32⟩ := newP X30 hx hZ (hw _ (List.mem_of_getElem? (i := 4) rfl)) e30 (g := (mkF m 97 #[.val (.int p1), .val (.int p2), .val (.int p3), .val (.int p4), .val (.int p5), .val (.ref b1), .val (.int (p5 &&& (3 : Int32))), .val (.int code), .val (.ref b11), .unset, .unset] [(.int (1 : Int32)), (.ref b28), (.int p4), (.ref b27), (.ref b26), (.ref b26)])) rfl (hb hby at_97) rfl (by decide) (cap := 1) (by decide) (by decide) (by decide) (by decide)
    obtain ⟨b32, g32⟩ : ∃ z, z = h30.size := ⟨_, rfl⟩
    rw [← g32] at A32 st32
    have ne_b16_b32 : b16 ≠ b32 := Nat.ne_of_lt (Nat.lt_of_lt_of_le fA_b16_x30.lt (Nat.le_of_eq g32.symm))
    have ne_b27_b32 : b27 ≠ b32 := Nat.ne_of_lt (Nat.lt_of_lt_of_le fA_b27_x30.lt (Nat.le_of_eq g32.symm))
    have ne_b11_b32 : b11 ≠ b32 := Nat.ne_of_lt (Nat.lt_of_lt_of_le fE_b11_x30.lt (Nat.le_of_eq g32.symm))
    have ne_b12_b32 : b12 ≠ b32 := Nat.ne_of_lt (Nat.lt_of_lt_of_le fA_b12_x30.lt (Nat.le_of_eq g32.symm))
    have ne_b28_b32 : b28 ≠ b32 := Nat.ne_of_lt (Nat.lt_of_lt_of_le V30.lt (Nat.le_of_eq g32.symm))
    have ne_b1_b32 : b1 ≠ b32 := Nat.ne_of_lt (Nat.lt_of_lt_of_le fA_b1_x30.lt (Nat.le_of_eq g32.symm))
    have ne_b26_b32 : b26 ≠ b32 := Nat.ne_of_lt (Nat.lt_of_lt_of_le fE_b26_x30.lt (Nat.le_of_eq g32.symm))
    have g_b32 : n0 ≤ b32 := Nat.le_trans Z30 (Nat.le_of_eq g32.symm)
    have sz_b32 : h0.size ≤ b32 := Nat.le_trans (show Keep h0 h30 [] from K30).1 (Nat.le_of_eq g32.symm)
    have fA_b1_x32 := (fA_b1_x30.ext E32)
    have fE_b11_x32 := (fE_b11_x30.ext E32)
    have fA_b12_x32 := (fA_b12_x30.ext E32)
    have fA_b16_x32 := (fA_b16_x30.ext E32)
    have fF_b11_winning_x32 := (fF_b11_winning_x30.ext E32)
    have fF_b11_bonus_x32 := (fF_b11_bonus_x30.ext E32)
    have fF_b11_spots_x32 := (fF_b11_spots_x30.ext E32)
    have fF_b11_prizes_x32 := (fF_b11_prizes_x30.ext E32)
    have fE_b26_x32 := (fE_b26_x30.ext E32)
    have fF_b26_winning_x32 := (fF_b26_winning_x30.ext E32)
    have fF_b26_bonus_x32 := (fF_b26_bonus_x30.ext E32)
    have fF_b26_spots_x32 := (fF_b26_spots_x30.ext E32)
    have fF_b26_prizes_x32 := (fF_b26_prizes_x30.ext E32)
    have fA_b27_x32 := (fA_b27_x30.ext E32)
    have fA_b28_x32 := (V30.ext E32)
    have K32 : Keep h0 h32 [] := Keep.ext K30 E32
    have Z32 : n0 ≤ h32.size := Nat.le_trans Z30 E32.1
    have V32 : own_Arr Z h32 b32 .long (1 : Int32) (fun i => Value.long ((fun _ => (0 : Int64)) i)) := own_Arr.new A32 (by decide) (fun _ => rfl)
    obtain ⟨cl33, Ar33, S33, Nn33, G33⟩ := id V32
    have hin33 : ¬ ((0 : Int32) < 0 ∨ cl33.slots.size ≤ (0 : Int32).toNatClampNeg) := inb_of S33 (⟨by decide, by decide⟩ : ¬ (0 : Int32) < 0 ∧ (0 : Int32) < (1 : Int32))
    obtain ⟨T34, h34, X34, e34, W34, st34⟩ := stJ X32 hx hZ e32 Ar33 (j := (0 : Int32)) hin33 (g := (mkF m 102 #[.val (.int p1), .val (.int p2), .val (.int p3), .val (.int p4), .val (.int p5), .val (.ref b1), .val (.int (p5 &&& (3 : Int32))), .val (.int code), .val (.ref b11), .unset, .unset] [(.long (1 : Int64)), (.int (0 : Int32)), (.ref b32), (.ref b32), (.ref b28), (.int p4), (.ref b27), (.ref b26), (.ref b26)])) rfl rfl (hb hby at_102)
    have fA_b1_x34 := (fA_b1_x32.other W34 ne_b1_b32)
    have fE_b11_x34 := (fE_b11_x32.wr W34)
    have fA_b12_x34 := (fA_b12_x32.other W34 ne_b12_b32)
    have fA_b16_x34 := (fA_b16_x32.other W34 ne_b16_b32)
    have fF_b11_winning_x34 := (Fld.other W34 fF_b11_winning_x32 (Or.inl ne_b11_b32))
    have fF_b11_bonus_x34 := (Fld.other W34 fF_b11_bonus_x32 (Or.inl ne_b11_b32))
    have fF_b11_spots_x34 := (Fld.other W34 fF_b11_spots_x32 (Or.inl ne_b11_b32))
    have fF_b11_prizes_x34 := (Fld.other W34 fF_b11_prizes_x32 (Or.inl ne_b11_b32))
    have fE_b26_x34 := (fE_b26_x32.wr W34)
    have fF_b26_winning_x34 := (Fld.other W34 fF_b26_winning_x32 (Or.inl ne_b26_b32))
    have fF_b26_bonus_x34 := (Fld.other W34 fF_b26_bonus_x32 (Or.inl ne_b26_b32))
    have fF_b26_spots_x34 := (Fld.other W34 fF_b26_spots_x32 (Or.inl ne_b26_b32))
    have fF_b26_prizes_x34 := (Fld.other W34 fF_b26_prizes_x32 (Or.inl ne_b26_b32))
    have fA_b27_x34 := (fA_b27_x32.other W34 ne_b27_b32)
    have fA_b28_x34 := (fA_b28_x32.other W34 ne_b28_b32)
    have V34 : own_Arr Z h34 b32 .long (1 : Int32) (fun i => Value.long ((own_law0_g35 p1 p2 p3 p4 p5 code) i)) := own_Arr.set (w := Value.long) (g := (fun _ => (0 : Int64))) (x := (1 : Int64)) V32 W34 rfl (fun i => rfl)
    have N34 := Fr.snoc X34 N30 g_b32
    have K34 : Keep h0 h34 [] := Keep.wr K32 W34 (Or.inr sz_b32)
    have Z34 : n0 ≤ h34.size := Nat.le_trans Z32 (Nat.le_of_eq W34.size.symm)
    obtain ⟨_, _, ⟨T36, L36, k36, n36⟩, -, X36, ⟨Lc36, hQ36, l36, y36, z36⟩, st36⟩ := X34.specialBack hx (y := (⟨"com/example/scratchline/scratchline/game/Face", "<init>", "([II[I[J)V"⟩ : MethodName)) rfl hown (mvT hZ (hw _ (List.mem_of_getElem? (i := 5) rfl))) (mvT hZ (hw _ (List.mem_of_getElem? (i := 6) rfl))) (mvT hZ (hw _ (List.mem_of_getElem? (i := 7) rfl))) (by decide) (backOf (W := 1) (rm1 l Z a0 hw [] b26 b27 p4 b28 b32 (0 : Int32) h34 n0 Z34 ⟨fE_b26_x34, fF_b26_winning_x34, fF_b26_bonus_x34, fF_b26_spots_x34, fF_b26_prizes_x34⟩ g_b26) hZ (hw _ (List.mem_of_getElem? (i := 7) rfl)) (hw _ (List.mem_of_getElem? (i := 3) rfl)) (by decide) (by decide)) (g := (mkF m 103 #[.val (.int p1), .val (.int p2), .val (.int p3), .val (.int p4), .val (.int p5), .val (.ref b1), .val (.int (p5 &&& (3 : Int32))), .val (.int code), .val (.ref b11), .unset, .unset] [(.ref b32), (.ref b28), (.int p4), (.ref b27), (.ref b26), (.ref b26)])) rfl (by rw [hml]; rfl) (Steps.refl _) (a := b26) (argsL := [(.ref b27), (.int p4), (.ref b28), (.ref b32)]) (rest := [(.ref b26)]) (lenOf pd_0_0 rfl) rfl (by show 2 * 0 + _ ≤ _; exact Nat.le_of_eq rfl) (hb hby at_103) (fun _ _ => ⟨rfl, e34, (by decide : 8 + 0 ≤ _), (by decide : 15 + 0 ≤ _)⟩)
    dsimp only [Pt.U, Pt.locs, Pt.cells, Pt.slots] at X36 l36 y36 z36 st36 hQ36
    subst l36 y36 z36
    obtain ⟨rfl, N36q, Kq36, O36_0⟩ := hQ36
    have N36 := Fr.app N34 N36q
    have fA_b1_x36 := (fA_b1_x34.keep Kq36 (ninS ne_b1_b26 nin0))
    have fE_b11_x36 := (fE_b11_x34.keep Kq36)
    have fA_b12_x36 := (fA_b12_x34.keep Kq36 (ninS ne_b12_b26 nin0))
    have fA_b16_x36 := (fA_b16_x34.keep Kq36 (ninS ne_b16_b26 nin0))
    have fF_b11_winning_x36 := (fF_b11_winning_x34.keep Kq36 (ninS ne_b11_b26 nin0))
    have fF_b11_bonus_x36 := (fF_b11_bonus_x34.keep Kq36 (ninS ne_b11_b26 nin0))
    have fF_b11_spots_x36 := (fF_b11_spots_x34.keep Kq36 (ninS ne_b11_b26 nin0))
    have fF_b11_prizes_x36 := (fF_b11_prizes_x34.keep Kq36 (ninS ne_b11_b26 nin0))
    have fE_b26_x36 := (fE_b26_x34.keep Kq36)
    have fA_b27_x36 := (fA_b27_x34.keep Kq36 (ninS (Ne.symm ne_b26_b27) nin0))
    have fA_b28_x36 := (fA_b28_x34.keep Kq36 (ninS (Ne.symm ne_b26_b28) nin0))
    have fA_b32_x36 := (V34.keep Kq36 (ninS (Ne.symm ne_b26_b32) nin0))
    have K36 : Keep h0 T36.heap [] := Keep.trans K34 Kq36 (allS (Or.inr sz_b26) all0)
    have Z36 : n0 ≤ T36.heap.size := Nat.le_trans Z34 Kq36.1
    obtain ⟨E_b26_37, F_winning_b26_38, F_bonus_b26_39, F_spots_b26_40, F_prizes_b26_41⟩ := O36_0
    refine own_pre (A := T36.setTop (mkF m 111 #[.val (.int p1), .val (.int p2), .val (.int p3), .val (.int p4), .val (.int p5), .val (.ref b1), .val (.int (p5 &&& (3 : Int32))), .val (.int code), .val (.ref b11), .val (.ref b26), .unset] [(.int p1), (.int code)])) (fun tt kt => ?_) ?_
    · show Steps p.tables e below (Tj53.setTop (mkF m 53 #[.val (.int p1), .val (.int p2), .val (.int p3), .val (.int p4), .val (.int p5), .val (.ref b1), .val (.int (p5 &&& (3 : Int32))), .unset, .unset, .unset, .unset] [(.int code)])) _
      refine XS.istore Xj53.here hx rfl (hb hby at_53) rfl (l' := #[.val (.int p1), .val (.int p2), .val (.int p3), .val (.int p4), .val (.int p5), .val (.ref b1), .val (.int (p5 &&& (3 : Int32))), .val (.int code), .unset, .unset, .unset]) rfl ?_
      show Steps p.tables e below (Tj53.setTop (mkF m 55 #[.val (.int p1), .val (.int p2), .val (.int p3), .val (.int p4), .val (.int p5), .val (.ref b1), .val (.int (p5 &&& (3 : Int32))), .val (.int code), .unset, .unset, .unset] [])) _
      refine st11 _ ?_
      show Steps p.tables e below (T11.setTop (mkF m 58 #[.val (.int p1), .val (.int p2), .val (.int p3), .val (.int p4), .val (.int p5), .val (.ref b1), .val (.int (p5 &&& (3 : Int32))), .val (.int code), .unset, .unset, .unset] [(.ref b11)])) _
      refine XS.dup X11.here hx rfl (hb hby at_58) rfl rfl ?_
      show Steps p.tables e below (T11.setTop (mkF m 59 #[.val (.int p1), .val (.int p2), .val (.int p3), .val (.int p4), .val (.int p5), .val (.ref b1), .val (.int (p5 &&& (3 : Int32))), .val (.int code), .unset, .unset, .unset] [(.ref b11), (.ref b11)])) _
      refine XS.aload X11.here hx rfl (hb hby at_59) rfl rfl ?_
      show Steps p.tables e below (T11.setTop (mkF m 61 #[.val (.int p1), .val (.int p2), .val (.int p3), .val (.int p4), .val (.int p5), .val (.ref b1), .val (.int (p5 &&& (3 : Int32))), .val (.int code), .unset, .unset, .unset] [(.ref b1), (.ref b11), (.ref b11)])) _
      refine XS.iloadN X11.here hx rfl (hb hby at_61) rfl ?_
      show Steps p.tables e below (T11.setTop (mkF m 62 #[.val (.int p1), .val (.int p2), .val (.int p3), .val (.int p4), .val (.int p5), .val (.ref b1), .val (.int (p5 &&& (3 : Int32))), .val (.int code), .unset, .unset, .unset] [(.int p4), (.ref b1), (.ref b11), (.ref b11)])) _
      refine XS.iconst X11.here hx rfl (hb hby at_62) ?_
      show Steps p.tables e below (T11.setTop (mkF m 63 #[.val (.int p1), .val (.int p2), .val (.int p3), .val (.int p4), .val (.int p5), .val (.ref b1), .val (.int (p5 &&& (3 : Int32))), .val (.int code), .unset, .unset, .unset] [(.int (1 : Int32)), (.int p4), (.ref b1), (.ref b11), (.ref b11)])) _
      refine st12 _ ?_
      show Steps p.tables e below (T12.setTop (mkF m 65 #[.val (.int p1), .val (.int p2), .val (.int p3), .val (.int p4), .val (.int p5), .val (.ref b1), .val (.int (p5 &&& (3 : Int32))), .val (.int code), .unset, .unset, .unset] [(.ref b12), (.int p4), (.ref b1), (.ref b11), (.ref b11)])) _
      refine XS.dup X12.here hx rfl (hb hby at_65) rfl rfl ?_
      show Steps p.tables e below (T12.setTop (mkF m 66 #[.val (.int p1), .val (.int p2), .val (.int p3), .val (.int p4), .val (.int p5), .val (.ref b1), .val (.int (p5 &&& (3 : Int32))), .val (.int code), .unset, .unset, .unset] [(.ref b12), (.ref b12), (.int p4), (.ref b1), (.ref b11), (.ref b11)])) _
      refine XS.iconst X12.here hx rfl (hb hby at_66) ?_
      show Steps p.tables e below (T12.setTop (mkF m 67 #[.val (.int p1), .val (.int p2), .val (.int p3), .val (.int p4), .val (.int p5), .val (.ref b1), .val (.int (p5 &&& (3 : Int32))), .val (.int code), .unset, .unset, .unset] [(.int (0 : Int32)), (.ref b12), (.ref b12), (.int p4), (.ref b1), (.ref b11), (.ref b11)])) _
      refine XS.iloadN X12.here hx rfl (hb hby at_67) rfl ?_
      show Steps p.tables e below (T12.setTop (mkF m 68 #[.val (.int p1), .val (.int p2), .val (.int p3), .val (.int p4), .val (.int p5), .val (.ref b1), .val (.int (p5 &&& (3 : Int32))), .val (.int code), .unset, .unset, .unset] [(.int p4), (.int (0 : Int32)), (.ref b12), (.ref b12), (.int p4), (.ref b1), (.ref b11), (.ref b11)])) _
      refine st14 _ ?_
      show Steps p.tables e below (T14.setTop (mkF m 69 #[.val (.int p1), .val (.int p2), .val (.int p3), .val (.int p4), .val (.int p5), .val (.ref b1), .val (.int (p5 &&& (3 : Int32))), .val (.int code), .unset, .unset, .unset] [(.ref b12), (.int p4), (.ref b1), (.ref b11), (.ref b11)])) _
      refine XS.iconst X14.here hx rfl (hb hby at_69) ?_
      show Steps p.tables e below (T14.setTop (mkF m 70 #[.val (.int p1), .val (.int p2), .val (.int p3), .val (.int p4), .val (.int p5), .val (.ref b1), .val (.int (p5 &&& (3 : Int32))), .val (.int code), .unset, .unset, .unset] [(.int (1 : Int32)), (.ref b12), (.int p4), (.ref b1), (.ref b11), (.ref b11)])) _
      refine st16 _ ?_
      show Steps p.tables e below (T16.setTop (mkF m 72 #[.val (.int p1), .val (.int p2), .val (.int p3), .val (.int p4), .val (.int p5), .val (.ref b1), .val (.int (p5 &&& (3 : Int32))), .val (.int code), .unset, .unset, .unset] [(.ref b16), (.ref b12), (.int p4), (.ref b1), (.ref b11), (.ref b11)])) _
      refine XS.dup X16.here hx rfl (hb hby at_72) rfl rfl ?_
      show Steps p.tables e below (T16.setTop (mkF m 73 #[.val (.int p1), .val (.int p2), .val (.int p3), .val (.int p4), .val (.int p5), .val (.ref b1), .val (.int (p5 &&& (3 : Int32))), .val (.int code), .unset, .unset, .unset] [(.ref b16), (.ref b16), (.ref b12), (.int p4), (.ref b1), (.ref b11), (.ref b11)])) _
      refine XS.iconst X16.here hx rfl (hb hby at_73) ?_
      show Steps p.tables e below (T16.setTop (mkF m 74 #[.val (.int p1), .val (.int p2), .val (.int p3), .val (.int p4), .val (.int p5), .val (.ref b1), .val (.int (p5 &&& (3 : Int32))), .val (.int code), .unset, .unset, .unset] [(.int (0 : Int32)), (.ref b16), (.ref b16), (.ref b12), (.int p4), (.ref b1), (.ref b11), (.ref b11)])) _
      refine XS.lconst X16.here hx rfl (hb hby at_74) ?_
      show Steps p.tables e below (T16.setTop (mkF m 75 #[.val (.int p1), .val (.int p2), .val (.int p3), .val (.int p4), .val (.int p5), .val (.ref b1), .val (.int (p5 &&& (3 : Int32))), .val (.int code), .unset, .unset, .unset] [(.long (1 : Int64)), (.int (0 : Int32)), (.ref b16), (.ref b16), (.ref b12), (.int p4), (.ref b1), (.ref b11), (.ref b11)])) _
      refine st18 _ ?_
      show Steps p.tables e below (T18.setTop (mkF m 76 #[.val (.int p1), .val (.int p2), .val (.int p3), .val (.int p4), .val (.int p5), .val (.ref b1), .val (.int (p5 &&& (3 : Int32))), .val (.int code), .unset, .unset, .unset] [(.ref b16), (.ref b12), (.int p4), (.ref b1), (.ref b11), (.ref b11)])) _
      refine st20.trans ?_
      show Steps p.tables e below (T20.setTop (mkF m 79 #[.val (.int p1), .val (.int p2), .val (.int p3), .val (.int p4), .val (.int p5), .val (.ref b1), .val (.int (p5 &&& (3 : Int32))), .val (.int code), .unset, .unset, .unset] [(.ref b11)])) _
      refine XS.astore X20.here hx rfl (hb hby at_79) rfl rfl (l' := #[.val (.int p1), .val (.int p2), .val (.int p3), .val (.int p4), .val (.int p5), .val (.ref b1), .val (.int (p5 &&& (3 : Int32))), .val (.int code), .val (.ref b11), .unset, .unset]) rfl ?_
      show Steps p.tables e below (T20.setTop (mkF m 81 #[.val (.int p1), .val (.int p2), .val (.int p3), .val (.int p4), .val (.int p5), .val (.ref b1), .val (.int (p5 &&& (3 : Int32))), .val (.int code), .val (.ref b11), .unset, .unset] [])) _
      refine st26 _ ?_
      show Steps p.tables e below (T26.setTop (mkF m 84 #[.val (.int p1), .val (.int p2), .val (.int p3), .val (.int p4), .val (.int p5), .val (.ref b1), .val (.int (p5 &&& (3 : Int32))), .val (.int code), .val (.ref b11), .unset, .unset] [(.ref b26)])) _
      refine XS.dup X26.here hx rfl (hb hby at_84) rfl rfl ?_
      show Steps p.tables e below (T26.setTop (mkF m 85 #[.val (.int p1), .val (.int p2), .val (.int p3), .val (.int p4), .val (.int p5), .val (.ref b1), .val (.int (p5 &&& (3 : Int32))), .val (.int code), .val (.ref b11), .unset, .unset] [(.ref b26), (.ref b26)])) _
      refine XS.iconst X26.here hx rfl (hb hby at_85) ?_
      show Steps p.tables e below (T26.setTop (mkF m 86 #[.val (.int p1), .val (.int p2), .val (.int p3), .val (.int p4), .val (.int p5), .val (.ref b1), .val (.int (p5 &&& (3 : Int32))), .val (.int code), .val (.ref b11), .unset, .unset] [(.int (0 : Int32)), (.ref b26), (.ref b26)])) _
      refine st27 _ ?_
      show Steps p.tables e below (T27.setTop (mkF m 88 #[.val (.int p1), .val (.int p2), .val (.int p3), .val (.int p4), .val (.int p5), .val (.ref b1), .val (.int (p5 &&& (3 : Int32))), .val (.int code), .val (.ref b11), .unset, .unset] [(.ref b27), (.ref b26), (.ref b26)])) _
      refine XS.iloadN X27.here hx rfl (hb hby at_88) rfl ?_
      show Steps p.tables e below (T27.setTop (mkF m 89 #[.val (.int p1), .val (.int p2), .val (.int p3), .val (.int p4), .val (.int p5), .val (.ref b1), .val (.int (p5 &&& (3 : Int32))), .val (.int code), .val (.ref b11), .unset, .unset] [(.int p4), (.ref b27), (.ref b26), (.ref b26)])) _
      refine XS.iconst X27.here hx rfl (hb hby at_89) ?_
      show Steps p.tables e below (T27.setTop (mkF m 90 #[.val (.int p1), .val (.int p2), .val (.int p3), .val (.int p4), .val (.int p5), .val (.ref b1), .val (.int (p5 &&& (3 : Int32))), .val (.int code), .val (.ref b11), .unset, .unset] [(.int (1 : Int32)), (.int p4), (.ref b27), (.ref b26), (.ref b26)])) _
      refine st28 _ ?_
      show Steps p.tables e below (T28.setTop (mkF m 92 #[.val (.int p1), .val (.int p2), .val (.int p3), .val (.int p4), .val (.int p5), .val (.ref b1), .val (.int (p5 &&& (3 : Int32))), .val (.int code), .val (.ref b11), .unset, .unset] [(.ref b28), (.int p4), (.ref b27), (.ref b26), (.ref b26)])) _
      refine XS.dup X28.here hx rfl (hb hby at_92) rfl rfl ?_
      show Steps p.tables e below (T28.setTop (mkF m 93 #[.val (.int p1), .val (.int p2), .val (.int p3), .val (.int p4), .val (.int p5), .val (.ref b1), .val (.int (p5 &&& (3 : Int32))), .val (.int code), .val (.ref b11), .unset, .unset] [(.ref b28), (.ref b28), (.int p4), (.ref b27), (.ref b26), (.ref b26)])) _
      refine XS.iconst X28.here hx rfl (hb hby at_93) ?_
      show Steps p.tables e below (T28.setTop (mkF m 94 #[.val (.int p1), .val (.int p2), .val (.int p3), .val (.int p4), .val (.int p5), .val (.ref b1), .val (.int (p5 &&& (3 : Int32))), .val (.int code), .val (.ref b11), .unset, .unset] [(.int (0 : Int32)), (.ref b28), (.ref b28), (.int p4), (.ref b27), (.ref b26), (.ref b26)])) _
      refine XS.iloadN X28.here hx rfl (hb hby at_94) rfl ?_
      show Steps p.tables e below (T28.setTop (mkF m 95 #[.val (.int p1), .val (.int p2), .val (.int p3), .val (.int p4), .val (.int p5), .val (.ref b1), .val (.int (p5 &&& (3 : Int32))), .val (.int code), .val (.ref b11), .unset, .unset] [(.int p4), (.int (0 : Int32)), (.ref b28), (.ref b28), (.int p4), (.ref b27), (.ref b26), (.ref b26)])) _
      refine st30 _ ?_
      show Steps p.tables e below (T30.setTop (mkF m 96 #[.val (.int p1), .val (.int p2), .val (.int p3), .val (.int p4), .val (.int p5), .val (.ref b1), .val (.int (p5 &&& (3 : Int32))), .val (.int code), .val (.ref b11), .unset, .unset] [(.ref b28), (.int p4), (.ref b27), (.ref b26), (.ref b26)])) _
      refine XS.iconst X30.here hx rfl (hb hby at_96) ?_
      show Steps p.tables e below (T30.setTop (mkF m 97 #[.val (.int p1), .val (.int p2), .val (.int p3), .val (.int p4), .val (.int p5), .val (.ref b1), .val (.int (p5 &&& (3 : Int32))), .val (.int code), .val (.ref b11), .unset, .unset] [(.int (1 : Int32)), (.ref b28), (.int p4), (.ref b27), (.ref b26), (.ref b26)])) _
      refine st32 _ ?_
      show Steps p.tables e below (T32.setTop (mkF m 99 #[.val (.int p1), .val (.int p2), .val (.int p3), .val (.int p4), .val (.int p5), .val (.ref b1), .val (.int (p5 &&& (3 : Int32))), .val (.int code), .val (.ref b11), .unset, .unset] [(.ref b32), (.ref b28), (.int p4), (.ref b27), (.ref b26), (.ref b26)])) _
      refine XS.dup X32.here hx rfl (hb hby at_99) rfl rfl ?_
      show Steps p.tables e below (T32.setTop (mkF m 100 #[.val (.int p1), .val (.int p2), .val (.int p3), .val (.int p4), .val (.int p5), .val (.ref b1), .val (.int (p5 &&& (3 : Int32))), .val (.int code), .val (.ref b11), .unset, .unset] [(.ref b32), (.ref b32), (.ref b28), (.int p4), (.ref b27), (.ref b26), (.ref b26)])) _
      refine XS.iconst X32.here hx rfl (hb hby at_100) ?_
      show Steps p.tables e below (T32.setTop (mkF m 101 #[.val (.int p1), .val (.int p2), .val (.int p3), .val (.int p4), .val (.int p5), .val (.ref b1), .val (.int (p5 &&& (3 : Int32))), .val (.int code), .val (.ref b11), .unset, .unset] [(.int (0 : Int32)), (.ref b32), (.ref b32), (.ref b28), (.int p4), (.ref b27), (.ref b26), (.ref b26)])) _
      refine XS.lconst X32.here hx rfl (hb hby at_101) ?_
      show Steps p.tables e below (T32.setTop (mkF m 102 #[.val (.int p1), .val (.int p2), .val (.int p3), .val (.int p4), .val (.int p5), .val (.ref b1), .val (.int (p5 &&& (3 : Int32))), .val (.int code), .val (.ref b11), .unset, .unset] [(.long (1 : Int64)), (.int (0 : Int32)), (.ref b32), (.ref b32), (.ref b28), (.int p4), (.ref b27), (.ref b26), (.ref b26)])) _
      refine st34 _ ?_
      show Steps p.tables e below (T34.setTop (mkF m 103 #[.val (.int p1), .val (.int p2), .val (.int p3), .val (.int p4), .val (.int p5), .val (.ref b1), .val (.int (p5 &&& (3 : Int32))), .val (.int code), .val (.ref b11), .unset, .unset] [(.ref b32), (.ref b28), (.int p4), (.ref b27), (.ref b26), (.ref b26)])) _
      refine st36.trans ?_
      show Steps p.tables e below (T36.setTop (mkF m 106 #[.val (.int p1), .val (.int p2), .val (.int p3), .val (.int p4), .val (.int p5), .val (.ref b1), .val (.int (p5 &&& (3 : Int32))), .val (.int code), .val (.ref b11), .unset, .unset] [(.ref b26)])) _
      refine XS.astore X36.here hx rfl (hb hby at_106) rfl rfl (l' := #[.val (.int p1), .val (.int p2), .val (.int p3), .val (.int p4), .val (.int p5), .val (.ref b1), .val (.int (p5 &&& (3 : Int32))), .val (.int code), .val (.ref b11), .val (.ref b26), .unset]) rfl ?_
      show Steps p.tables e below (T36.setTop (mkF m 108 #[.val (.int p1), .val (.int p2), .val (.int p3), .val (.int p4), .val (.int p5), .val (.ref b1), .val (.int (p5 &&& (3 : Int32))), .val (.int code), .val (.ref b11), .val (.ref b26), .unset] [])) _
      refine XS.iload X36.here hx rfl (hb hby at_108) rfl ?_
      show Steps p.tables e below (T36.setTop (mkF m 110 #[.val (.int p1), .val (.int p2), .val (.int p3), .val (.int p4), .val (.int p5), .val (.ref b1), .val (.int (p5 &&& (3 : Int32))), .val (.int code), .val (.ref b11), .val (.ref b26), .unset] [(.int code)])) _
      refine XS.iloadN X36.here hx rfl (hb hby at_110) rfl ?_
      exact kt
    show own_End p e below s (T36.setTop (mkF m 111 #[.val (.int p1), .val (.int p2), .val (.int p3), .val (.int p4), .val (.int p5), .val (.ref b1), .val (.int (p5 &&& (3 : Int32))), .val (.int code), .val (.ref b11), .val (.ref b26), .unset] [(.int p1), (.int code)])) (Q0 Z p1 p2 p3 p4 p5 h0 n0) room_1.cells room_1.slots
    have j131 : ∀ (Tj131 : State) (Lj131 : List Loc) (Xj131 : Stand p l e room_1 s m #[(.int p1), (.int p2), (.int p3), (.int p4), (.int p5)] below meth c Tj131 Lj131 8 15) (ej131 : Tj131.heap = T36.heap) (Nj131 : Fr n0 Lj131) (ex : Int32) , own_law p1 p2 p3 p4 p5 = own_law_131 p1 p2 p3 p4 p5 code ex → own_End p e below s (Tj131.setTop (mkF m 131 #[.val (.int p1), .val (.int p2), .val (.int p3), .val (.int p4), .val (.int p5), .val (.ref b1), .val (.int (p5 &&& (3 : Int32))), .val (.int code), .val (.ref b11), .val (.ref b26), .unset] [(.int ex)])) (Q0 Z p1 p2 p3 p4 p5 h0 n0) room_1.cells room_1.slots := by
      intro Tj131 Lj131 Xj131 ej131 Nj131 ex  hj
      obtain ⟨cq42, kq42, q42a, q42b, q42c⟩ := isOf hZ ej131 fE_b11_x36
      obtain ⟨_, _, ⟨T42, L42, k42, n42⟩, -, X42, ⟨Lc42, hQ42, l42, y42, z42⟩, st42⟩ := Xj131.virtualBack hx (y := (⟨"com/example/scratchline/scratchline/game/Face", "isWinning", "(I)Z"⟩ : MethodName)) (z := (⟨"com/example/scratchline/scratchline/game/Face", "isWinning", "(I)Z"⟩ : MethodName)) hown (mvT hZ (hw _ (List.mem_of_getElem? (i := 19) rfl))) (mvT hZ (hw _ (List.mem_of_getElem? (i := 20) rfl))) (notFace_of_selects (args := #[]) (mvT hZ (hw _ (List.mem_of_getElem? (i := 22) rfl)))) (mvT hZ (hw _ (List.mem_of_getElem? (i := 22) rfl))) (mvT hZ (hw _ (List.mem_of_getElem? (i := 21) rfl))) (by decide) (backOf (W := 0) (rm3 l Z a0 hw [] b11 code b1 p4 b12 b16 (own_law0_g10 p1 p2 p3 p4 p5) (3 : Int32) T36.heap n0 Z36 ⟨fE_b11_x36, fF_b11_winning_x36, fF_b11_bonus_x36, fF_b11_spots_x36, fF_b11_prizes_x36⟩ fA_b1_x36) hZ (hw _ (List.mem_of_getElem? (i := 23) rfl)) (hw _ (List.mem_of_getElem? (i := 3) rfl)) (by decide) (by decide)) q42a q42c (g := (mkF m 137 #[.val (.int p1), .val (.int p2), .val (.int p3), .val (.int p4), .val (.int p5), .val (.ref b1), .val (.int (p5 &&& (3 : Int32))), .val (.int code), .val (.ref b11), .val (.ref b26), .val (.int ex)] [(.int code), (.ref b11)])) rfl (by rw [hml]; rfl) (Steps.refl _) (argsL := [(.int code)]) (rest := []) (lenOf pd_0_1 rfl) rfl (by show 2 * 0 + _ ≤ _; exact Nat.le_of_eq rfl) (hb hby at_137) (fun _ _ => ⟨rfl, ej131, (by decide : 8 + 0 ≤ _), (by decide : 15 + 0 ≤ _)⟩)
      dsimp only [Pt.U, Pt.locs, Pt.cells, Pt.slots] at X42 l42 y42 z42 st42 hQ42
      subst l42 y42 z42
      obtain ⟨rfl, N42q, e42⟩ := hQ42
      have N42 := Fr.app Nj131 N42q
      refine own_pre (A := T42.setTop (mkF m 142 #[.val (.int p1), .val (.int p2), .val (.int p3), .val (.int p4), .val (.int p5), .val (.ref b1), .val (.int (p5 &&& (3 : Int32))), .val (.int code), .val (.ref b11), .val (.ref b26), .val (.int ex)] [(.int ex), (.int (own_win code (own_law0_g10 p1 p2 p3 p4 p5) (3 : Int32) p4))])) (fun tt kt => ?_) ?_
      · show Steps p.tables e below (Tj131.setTop (mkF m 131 #[.val (.int p1), .val (.int p2), .val (.int p3), .val (.int p4), .val (.int p5), .val (.ref b1), .val (.int (p5 &&& (3 : Int32))), .val (.int code), .val (.ref b11), .val (.ref b26), .unset] [(.int ex)])) _
        refine XS.istore Xj131.here hx rfl (hb hby at_131) rfl (l' := #[.val (.int p1), .val (.int p2), .val (.int p3), .val (.int p4), .val (.int p5), .val (.ref b1), .val (.int (p5 &&& (3 : Int32))), .val (.int code), .val (.ref b11), .val (.ref b26), .val (.int ex)]) rfl ?_
        show Steps p.tables e below (Tj131.setTop (mkF m 133 #[.val (.int p1), .val (.int p2), .val (.int p3), .val (.int p4), .val (.int p5), .val (.ref b1), .val (.int (p5 &&& (3 : Int32))), .val (.int code), .val (.ref b11), .val (.ref b26), .val (.int ex)] [])) _
        refine XS.aload Xj131.here hx rfl (hb hby at_133) rfl rfl ?_
        show Steps p.tables e below (Tj131.setTop (mkF m 135 #[.val (.int p1), .val (.int p2), .val (.int p3), .val (.int p4), .val (.int p5), .val (.ref b1), .val (.int (p5 &&& (3 : Int32))), .val (.int code), .val (.ref b11), .val (.ref b26), .val (.int ex)] [(.ref b11)])) _
        refine XS.iload Xj131.here hx rfl (hb hby at_135) rfl ?_
        show Steps p.tables e below (Tj131.setTop (mkF m 137 #[.val (.int p1), .val (.int p2), .val (.int p3), .val (.int p4), .val (.int p5), .val (.ref b1), .val (.int (p5 &&& (3 : Int32))), .val (.int code), .val (.ref b11), .val (.ref b26), .val (.int ex)] [(.int code), (.ref b11)])) _
        refine st42.trans ?_
        show Steps p.tables e below (T42.setTop (mkF m 140 #[.val (.int p1), .val (.int p2), .val (.int p3), .val (.int p4), .val (.int p5), .val (.ref b1), .val (.int (p5 &&& (3 : Int32))), .val (.int code), .val (.ref b11), .val (.ref b26), .val (.int ex)] [(.int (own_win code (own_law0_g10 p1 p2 p3 p4 p5) (3 : Int32) p4))])) _
        refine XS.iload X42.here hx rfl (hb hby at_140) rfl ?_
        exact kt
      show own_End p e below s (T42.setTop (mkF m 142 #[.val (.int p1), .val (.int p2), .val (.int p3), .val (.int p4), .val (.int p5), .val (.ref b1), .val (.int (p5 &&& (3 : Int32))), .val (.int code), .val (.ref b11), .val (.ref b26), .val (.int ex)] [(.int ex), (.int (own_win code (own_law0_g10 p1 p2 p3 p4 p5) (3 : Int32) p4))])) (Q0 Z p1 p2 p3 p4 p5 h0 n0) room_1.cells room_1.slots
      by_cases hc142_43 : (own_win code (own_law0_g10 p1 p2 p3 p4 p5) (3 : Int32) p4) = ex
      · obtain ⟨cq44, kq44, q44a, q44b, q44c⟩ := isOf hZ e42 E_b26_37
        obtain ⟨_, _, ⟨T44, L44, k44, n44⟩, -, X44, ⟨Lc44, hQ44, l44, y44, z44⟩, st44⟩ := X42.virtualBack hx (y := (⟨"com/example/scratchline/scratchline/game/Face", "isWinning", "(I)Z"⟩ : MethodName)) (z := (⟨"com/example/scratchline/scratchline/game/Face", "isWinning", "(I)Z"⟩ : MethodName)) hown (mvT hZ (hw _ (List.mem_of_getElem? (i := 19) rfl))) (mvT hZ (hw _ (List.mem_of_getElem? (i := 20) rfl))) (notFace_of_selects (args := #[]) (mvT hZ (hw _ (List.mem_of_getElem? (i := 22) rfl)))) (mvT hZ (hw _ (List.mem_of_getElem? (i := 22) rfl))) (mvT hZ (hw _ (List.mem_of_getElem? (i := 21) rfl))) (by decide) (backOf (W := 0) (rm3 l Z a0 hw [] b26 code b27 p4 b28 b32 (fun _ => (0 : Int32)) (0 : Int32) T36.heap n0 Z36 ⟨E_b26_37, F_winning_b26_38, F_bonus_b26_39, F_spots_b26_40, F_prizes_b26_41⟩ fA_b27_x36) hZ (hw _ (List.mem_of_getElem? (i := 23) rfl)) (hw _ (List.mem_of_getElem? (i := 3) rfl)) (by decide) (by decide)) q44a q44c (g := (mkF m 149 #[.val (.int p1), .val (.int p2), .val (.int p3), .val (.int p4), .val (.int p5), .val (.ref b1), .val (.int (p5 &&& (3 : Int32))), .val (.int code), .val (.ref b11), .val (.ref b26), .val (.int ex)] [(.int code), (.ref b26)])) rfl (by rw [hml]; rfl) (Steps.refl _) (argsL := [(.int code)]) (rest := []) (lenOf pd_0_1 rfl) rfl (by show 2 * 0 + _ ≤ _; exact Nat.le_of_eq rfl) (hb hby at_149) (fun _ _ => ⟨rfl, e42, (by decide : 8 + 0 ≤ _), (by decide : 15 + 0 ≤ _)⟩)
        dsimp only [Pt.U, Pt.locs, Pt.cells, Pt.slots] at X44 l44 y44 z44 st44 hQ44
        subst l44 y44 z44
        obtain ⟨rfl, N44q, e44⟩ := hQ44
        have N44 := Fr.app N42 N44q
        refine own_pre (A := T44.setTop (mkF m 152 #[.val (.int p1), .val (.int p2), .val (.int p3), .val (.int p4), .val (.int p5), .val (.ref b1), .val (.int (p5 &&& (3 : Int32))), .val (.int code), .val (.ref b11), .val (.ref b26), .val (.int ex)] [(.int (own_win code (fun _ => (0 : Int32)) (0 : Int32) p4))])) (fun tt kt => ?_) ?_
        · show Steps p.tables e below (T42.setTop (mkF m 142 #[.val (.int p1), .val (.int p2), .val (.int p3), .val (.int p4), .val (.int p5), .val (.ref b1), .val (.int (p5 &&& (3 : Int32))), .val (.int code), .val (.ref b11), .val (.ref b26), .val (.int ex)] [(.int ex), (.int (own_win code (own_law0_g10 p1 p2 p3 p4 p5) (3 : Int32) p4))])) _
          refine XS.icmpNo X42.here hx rfl (hb hby at_142) rfl (teq hc142_43).2 ?_
          show Steps p.tables e below (T42.setTop (mkF m 145 #[.val (.int p1), .val (.int p2), .val (.int p3), .val (.int p4), .val (.int p5), .val (.ref b1), .val (.int (p5 &&& (3 : Int32))), .val (.int code), .val (.ref b11), .val (.ref b26), .val (.int ex)] [])) _
          refine XS.aload X42.here hx rfl (hb hby at_145) rfl rfl ?_
          show Steps p.tables e below (T42.setTop (mkF m 147 #[.val (.int p1), .val (.int p2), .val (.int p3), .val (.int p4), .val (.int p5), .val (.ref b1), .val (.int (p5 &&& (3 : Int32))), .val (.int code), .val (.ref b11), .val (.ref b26), .val (.int ex)] [(.ref b26)])) _
          refine XS.iload X42.here hx rfl (hb hby at_147) rfl ?_
          show Steps p.tables e below (T42.setTop (mkF m 149 #[.val (.int p1), .val (.int p2), .val (.int p3), .val (.int p4), .val (.int p5), .val (.ref b1), .val (.int (p5 &&& (3 : Int32))), .val (.int code), .val (.ref b11), .val (.ref b26), .val (.int ex)] [(.int code), (.ref b26)])) _
          refine st44.trans ?_
          exact kt
        show own_End p e below s (T44.setTop (mkF m 152 #[.val (.int p1), .val (.int p2), .val (.int p3), .val (.int p4), .val (.int p5), .val (.ref b1), .val (.int (p5 &&& (3 : Int32))), .val (.int code), .val (.ref b11), .val (.ref b26), .val (.int ex)] [(.int (own_win code (fun _ => (0 : Int32)) (0 : Int32) p4))])) (Q0 Z p1 p2 p3 p4 p5 h0 n0) room_1.cells room_1.slots
        by_cases hc152_45 : (own_win code (fun _ => (0 : Int32)) (0 : Int32) p4) = (0 : Int32)
        · refine own_pre (A := T44.setTop (mkF m 160 #[.val (.int p1), .val (.int p2), .val (.int p3), .val (.int p4), .val (.int p5), .val (.ref b1), .val (.int (p5 &&& (3 : Int32))), .val (.int code), .val (.ref b11), .val (.ref b26), .val (.int ex)] [(.int (1 : Int32))])) (fun tt kt => ?_) ?_
          · show Steps p.tables e below (T44.setTop (mkF m 152 #[.val (.int p1), .val (.int p2), .val (.int p3), .val (.int p4), .val (.int p5), .val (.ref b1), .val (.int (p5 &&& (3 : Int32))), .val (.int code), .val (.ref b11), .val (.ref b26), .val (.int ex)] [(.int (own_win code (fun _ => (0 : Int32)) (0 : Int32) p4))])) _
            refine XS.ifNo X44.here hx rfl (hb hby at_152) rfl ((if0 _ _).trans (teq hc152_45).2) ?_
            show Steps p.tables e below (T44.setTop (mkF m 155 #[.val (.int p1), .val (.int p2), .val (.int p3), .val (.int p4), .val (.int p5), .val (.ref b1), .val (.int (p5 &&& (3 : Int32))), .val (.int code), .val (.ref b11), .val (.ref b26), .val (.int ex)] [])) _
            refine XS.iconst X44.here hx rfl (hb hby at_155) ?_
            show Steps p.tables e below (T44.setTop (mkF m 156 #[.val (.int p1), .val (.int p2), .val (.int p3), .val (.int p4), .val (.int p5), .val (.ref b1), .val (.int (p5 &&& (3 : Int32))), .val (.int code), .val (.ref b11), .val (.ref b26), .val (.int ex)] [(.int (1 : Int32))])) _
            refine XS.goto X44.here hx rfl (pc0 := 156) (pc' := 160) rfl (hb hby at_156) (by decide) (by decide) ?_
            exact kt
          show own_End p e below s (T44.setTop (mkF m 160 #[.val (.int p1), .val (.int p2), .val (.int p3), .val (.int p4), .val (.int p5), .val (.ref b1), .val (.int (p5 &&& (3 : Int32))), .val (.int code), .val (.ref b11), .val (.ref b26), .val (.int ex)] [(.int (1 : Int32))])) (Q0 Z p1 p2 p3 p4 p5 h0 n0) room_1.cells room_1.slots
          have hv : (own_law p1 p2 p3 p4 p5) = (1 : Int32) := hj.trans (by simp only [own_law_131, if_pos hc142_43, if_pos hc152_45])
          obtain ⟨fs, hr, hrun, hended, hW, hsame⟩ := X44.leave (v := some (.int (1 : Int32))) (fun h => by rw [Bd.returns] at h; cases h)
          refine ⟨_, _, ?_, hrun, hended, _, _, rfl, ?_, ⟨_, rfl⟩, hW, hsame.mono (by decide) (by decide)⟩
          · exact retN X44 hx (t := .boolean) Bd.returns (by simp) (hb hby at_160) hr
          · show Q0 Z p1 p2 p3 p4 p5 h0 n0 _ T44.heap _
            rw [e44]
            exact ⟨(congrArg (fun z => some (Value.int z)) hv.symm), N44⟩
        · refine own_pre (A := T44.setTop (mkF m 160 #[.val (.int p1), .val (.int p2), .val (.int p3), .val (.int p4), .val (.int p5), .val (.ref b1), .val (.int (p5 &&& (3 : Int32))), .val (.int code), .val (.ref b11), .val (.ref b26), .val (.int ex)] [(.int (0 : Int32))])) (fun tt kt => ?_) ?_
          · show Steps p.tables e below (T44.setTop (mkF m 152 #[.val (.int p1), .val (.int p2), .val (.int p3), .val (.int p4), .val (.int p5), .val (.ref b1), .val (.int (p5 &&& (3 : Int32))), .val (.int code), .val (.ref b11), .val (.ref b26), .val (.int ex)] [(.int (own_win code (fun _ => (0 : Int32)) (0 : Int32) p4))])) _
            refine XS.ifYes X44.here hx rfl (pc0 := 152) (pc' := 159) rfl (hb hby at_152) rfl ((if0 _ _).trans (feq hc152_45).2) (by decide) (by decide) ?_
            show Steps p.tables e below (T44.setTop (mkF m 159 #[.val (.int p1), .val (.int p2), .val (.int p3), .val (.int p4), .val (.int p5), .val (.ref b1), .val (.int (p5 &&& (3 : Int32))), .val (.int code), .val (.ref b11), .val (.ref b26), .val (.int ex)] [])) _
            refine XS.iconst X44.here hx rfl (hb hby at_159) ?_
            exact kt
          show own_End p e below s (T44.setTop (mkF m 160 #[.val (.int p1), .val (.int p2), .val (.int p3), .val (.int p4), .val (.int p5), .val (.ref b1), .val (.int (p5 &&& (3 : Int32))), .val (.int code), .val (.ref b11), .val (.ref b26), .val (.int ex)] [(.int (0 : Int32))])) (Q0 Z p1 p2 p3 p4 p5 h0 n0) room_1.cells room_1.slots
          have hv : (own_law p1 p2 p3 p4 p5) = (0 : Int32) := hj.trans (by simp only [own_law_131, if_pos hc142_43, if_neg hc152_45])
          obtain ⟨fs, hr, hrun, hended, hW, hsame⟩ := X44.leave (v := some (.int (0 : Int32))) (fun h => by rw [Bd.returns] at h; cases h)
          refine ⟨_, _, ?_, hrun, hended, _, _, rfl, ?_, ⟨_, rfl⟩, hW, hsame.mono (by decide) (by decide)⟩
          · exact retN X44 hx (t := .boolean) Bd.returns (by simp) (hb hby at_160) hr
          · show Q0 Z p1 p2 p3 p4 p5 h0 n0 _ T44.heap _
            rw [e44]
            exact ⟨(congrArg (fun z => some (Value.int z)) hv.symm), N44⟩
      · refine own_pre (A := T42.setTop (mkF m 160 #[.val (.int p1), .val (.int p2), .val (.int p3), .val (.int p4), .val (.int p5), .val (.ref b1), .val (.int (p5 &&& (3 : Int32))), .val (.int code), .val (.ref b11), .val (.ref b26), .val (.int ex)] [(.int (0 : Int32))])) (fun tt kt => ?_) ?_
        · show Steps p.tables e below (T42.setTop (mkF m 142 #[.val (.int p1), .val (.int p2), .val (.int p3), .val (.int p4), .val (.int p5), .val (.ref b1), .val (.int (p5 &&& (3 : Int32))), .val (.int code), .val (.ref b11), .val (.ref b26), .val (.int ex)] [(.int ex), (.int (own_win code (own_law0_g10 p1 p2 p3 p4 p5) (3 : Int32) p4))])) _
          refine XS.icmpYes X42.here hx rfl (pc0 := 142) (pc' := 159) rfl (hb hby at_142) rfl (feq hc142_43).2 (by decide) (by decide) ?_
          show Steps p.tables e below (T42.setTop (mkF m 159 #[.val (.int p1), .val (.int p2), .val (.int p3), .val (.int p4), .val (.int p5), .val (.ref b1), .val (.int (p5 &&& (3 : Int32))), .val (.int code), .val (.ref b11), .val (.ref b26), .val (.int ex)] [])) _
          refine XS.iconst X42.here hx rfl (hb hby at_159) ?_
          exact kt
        show own_End p e below s (T42.setTop (mkF m 160 #[.val (.int p1), .val (.int p2), .val (.int p3), .val (.int p4), .val (.int p5), .val (.ref b1), .val (.int (p5 &&& (3 : Int32))), .val (.int code), .val (.ref b11), .val (.ref b26), .val (.int ex)] [(.int (0 : Int32))])) (Q0 Z p1 p2 p3 p4 p5 h0 n0) room_1.cells room_1.slots
        have hv : (own_law p1 p2 p3 p4 p5) = (0 : Int32) := hj.trans (by simp only [own_law_131, if_neg hc142_43])
        obtain ⟨fs, hr, hrun, hended, hW, hsame⟩ := X42.leave (v := some (.int (0 : Int32))) (fun h => by rw [Bd.returns] at h; cases h)
        refine ⟨_, _, ?_, hrun, hended, _, _, rfl, ?_, ⟨_, rfl⟩, hW, hsame.mono (by decide) (by decide)⟩
        · exact retN X42 hx (t := .boolean) Bd.returns (by simp) (hb hby at_160) hr
        · show Q0 Z p1 p2 p3 p4 p5 h0 n0 _ T42.heap _
          rw [e42]
          exact ⟨(congrArg (fun z => some (Value.int z)) hv.symm), N42⟩
    by_cases hc111_46 : code = p1
    · refine own_pre (A := T36.setTop (mkF m 131 #[.val (.int p1), .val (.int p2), .val (.int p3), .val (.int p4), .val (.int p5), .val (.ref b1), .val (.int (p5 &&& (3 : Int32))), .val (.int code), .val (.ref b11), .val (.ref b26), .unset] [(.int (1 : Int32))])) (fun tt kt => ?_) ?_
      · show Steps p.tables e below (T36.setTop (mkF m 111 #[.val (.int p1), .val (.int p2), .val (.int p3), .val (.int p4), .val (.int p5), .val (.ref b1), .val (.int (p5 &&& (3 : Int32))), .val (.int code), .val (.ref b11), .val (.ref b26), .unset] [(.int p1), (.int code)])) _
        refine XS.icmpYes X36.here hx rfl (pc0 := 111) (pc' := 126) rfl (hb hby at_111) rfl (teq hc111_46).1 (by decide) (by decide) ?_
        show Steps p.tables e below (T36.setTop (mkF m 126 #[.val (.int p1), .val (.int p2), .val (.int p3), .val (.int p4), .val (.int p5), .val (.ref b1), .val (.int (p5 &&& (3 : Int32))), .val (.int code), .val (.ref b11), .val (.ref b26), .unset] [])) _
        refine XS.iconst X36.here hx rfl (hb hby at_126) ?_
        show Steps p.tables e below (T36.setTop (mkF m 127 #[.val (.int p1), .val (.int p2), .val (.int p3), .val (.int p4), .val (.int p5), .val (.ref b1), .val (.int (p5 &&& (3 : Int32))), .val (.int code), .val (.ref b11), .val (.ref b26), .unset] [(.int (1 : Int32))])) _
        refine XS.goto X36.here hx rfl (pc0 := 127) (pc' := 131) rfl (hb hby at_127) (by decide) (by decide) ?_
        exact kt
      show own_End p e below s (T36.setTop (mkF m 131 #[.val (.int p1), .val (.int p2), .val (.int p3), .val (.int p4), .val (.int p5), .val (.ref b1), .val (.int (p5 &&& (3 : Int32))), .val (.int code), .val (.ref b11), .val (.ref b26), .unset] [(.int (1 : Int32))])) (Q0 Z p1 p2 p3 p4 p5 h0 n0) room_1.cells room_1.slots
      exact j131 _ _ X36 rfl N36 (1 : Int32)  (hj.trans (by simp only [own_law_53, if_pos hc111_46]))
    · refine own_pre (A := T36.setTop (mkF m 117 #[.val (.int p1), .val (.int p2), .val (.int p3), .val (.int p4), .val (.int p5), .val (.ref b1), .val (.int (p5 &&& (3 : Int32))), .val (.int code), .val (.ref b11), .val (.ref b26), .unset] [(.int p2), (.int code)])) (fun tt kt => ?_) ?_
      · show Steps p.tables e below (T36.setTop (mkF m 111 #[.val (.int p1), .val (.int p2), .val (.int p3), .val (.int p4), .val (.int p5), .val (.ref b1), .val (.int (p5 &&& (3 : Int32))), .val (.int code), .val (.ref b11), .val (.ref b26), .unset] [(.int p1), (.int code)])) _
        refine XS.icmpNo X36.here hx rfl (hb hby at_111) rfl (feq hc111_46).1 ?_
        show Steps p.tables e below (T36.setTop (mkF m 114 #[.val (.int p1), .val (.int p2), .val (.int p3), .val (.int p4), .val (.int p5), .val (.ref b1), .val (.int (p5 &&& (3 : Int32))), .val (.int code), .val (.ref b11), .val (.ref b26), .unset] [])) _
        refine XS.iload X36.here hx rfl (hb hby at_114) rfl ?_
        show Steps p.tables e below (T36.setTop (mkF m 116 #[.val (.int p1), .val (.int p2), .val (.int p3), .val (.int p4), .val (.int p5), .val (.ref b1), .val (.int (p5 &&& (3 : Int32))), .val (.int code), .val (.ref b11), .val (.ref b26), .unset] [(.int code)])) _
        refine XS.iloadN X36.here hx rfl (hb hby at_116) rfl ?_
        exact kt
      show own_End p e below s (T36.setTop (mkF m 117 #[.val (.int p1), .val (.int p2), .val (.int p3), .val (.int p4), .val (.int p5), .val (.ref b1), .val (.int (p5 &&& (3 : Int32))), .val (.int code), .val (.ref b11), .val (.ref b26), .unset] [(.int p2), (.int code)])) (Q0 Z p1 p2 p3 p4 p5 h0 n0) room_1.cells room_1.slots
      by_cases hc117_47 : code = p2
      · refine own_pre (A := T36.setTop (mkF m 131 #[.val (.int p1), .val (.int p2), .val (.int p3), .val (.int p4), .val (.int p5), .val (.ref b1), .val (.int (p5 &&& (3 : Int32))), .val (.int code), .val (.ref b11), .val (.ref b26), .unset] [(.int (1 : Int32))])) (fun tt kt => ?_) ?_
        · show Steps p.tables e below (T36.setTop (mkF m 117 #[.val (.int p1), .val (.int p2), .val (.int p3), .val (.int p4), .val (.int p5), .val (.ref b1), .val (.int (p5 &&& (3 : Int32))), .val (.int code), .val (.ref b11), .val (.ref b26), .unset] [(.int p2), (.int code)])) _
          refine XS.icmpYes X36.here hx rfl (pc0 := 117) (pc' := 126) rfl (hb hby at_117) rfl (teq hc117_47).1 (by decide) (by decide) ?_
          show Steps p.tables e below (T36.setTop (mkF m 126 #[.val (.int p1), .val (.int p2), .val (.int p3), .val (.int p4), .val (.int p5), .val (.ref b1), .val (.int (p5 &&& (3 : Int32))), .val (.int code), .val (.ref b11), .val (.ref b26), .unset] [])) _
          refine XS.iconst X36.here hx rfl (hb hby at_126) ?_
          show Steps p.tables e below (T36.setTop (mkF m 127 #[.val (.int p1), .val (.int p2), .val (.int p3), .val (.int p4), .val (.int p5), .val (.ref b1), .val (.int (p5 &&& (3 : Int32))), .val (.int code), .val (.ref b11), .val (.ref b26), .unset] [(.int (1 : Int32))])) _
          refine XS.goto X36.here hx rfl (pc0 := 127) (pc' := 131) rfl (hb hby at_127) (by decide) (by decide) ?_
          exact kt
        show own_End p e below s (T36.setTop (mkF m 131 #[.val (.int p1), .val (.int p2), .val (.int p3), .val (.int p4), .val (.int p5), .val (.ref b1), .val (.int (p5 &&& (3 : Int32))), .val (.int code), .val (.ref b11), .val (.ref b26), .unset] [(.int (1 : Int32))])) (Q0 Z p1 p2 p3 p4 p5 h0 n0) room_1.cells room_1.slots
        exact j131 _ _ X36 rfl N36 (1 : Int32)  (hj.trans (by simp only [own_law_53, if_neg hc111_46, if_pos hc117_47]))
      · refine own_pre (A := T36.setTop (mkF m 123 #[.val (.int p1), .val (.int p2), .val (.int p3), .val (.int p4), .val (.int p5), .val (.ref b1), .val (.int (p5 &&& (3 : Int32))), .val (.int code), .val (.ref b11), .val (.ref b26), .unset] [(.int p3), (.int code)])) (fun tt kt => ?_) ?_
        · show Steps p.tables e below (T36.setTop (mkF m 117 #[.val (.int p1), .val (.int p2), .val (.int p3), .val (.int p4), .val (.int p5), .val (.ref b1), .val (.int (p5 &&& (3 : Int32))), .val (.int code), .val (.ref b11), .val (.ref b26), .unset] [(.int p2), (.int code)])) _
          refine XS.icmpNo X36.here hx rfl (hb hby at_117) rfl (feq hc117_47).1 ?_
          show Steps p.tables e below (T36.setTop (mkF m 120 #[.val (.int p1), .val (.int p2), .val (.int p3), .val (.int p4), .val (.int p5), .val (.ref b1), .val (.int (p5 &&& (3 : Int32))), .val (.int code), .val (.ref b11), .val (.ref b26), .unset] [])) _
          refine XS.iload X36.here hx rfl (hb hby at_120) rfl ?_
          show Steps p.tables e below (T36.setTop (mkF m 122 #[.val (.int p1), .val (.int p2), .val (.int p3), .val (.int p4), .val (.int p5), .val (.ref b1), .val (.int (p5 &&& (3 : Int32))), .val (.int code), .val (.ref b11), .val (.ref b26), .unset] [(.int code)])) _
          refine XS.iloadN X36.here hx rfl (hb hby at_122) rfl ?_
          exact kt
        show own_End p e below s (T36.setTop (mkF m 123 #[.val (.int p1), .val (.int p2), .val (.int p3), .val (.int p4), .val (.int p5), .val (.ref b1), .val (.int (p5 &&& (3 : Int32))), .val (.int code), .val (.ref b11), .val (.ref b26), .unset] [(.int p3), (.int code)])) (Q0 Z p1 p2 p3 p4 p5 h0 n0) room_1.cells room_1.slots
        by_cases hc123_48 : code = p3
        · refine own_pre (A := T36.setTop (mkF m 131 #[.val (.int p1), .val (.int p2), .val (.int p3), .val (.int p4), .val (.int p5), .val (.ref b1), .val (.int (p5 &&& (3 : Int32))), .val (.int code), .val (.ref b11), .val (.ref b26), .unset] [(.int (1 : Int32))])) (fun tt kt => ?_) ?_
          · show Steps p.tables e below (T36.setTop (mkF m 123 #[.val (.int p1), .val (.int p2), .val (.int p3), .val (.int p4), .val (.int p5), .val (.ref b1), .val (.int (p5 &&& (3 : Int32))), .val (.int code), .val (.ref b11), .val (.ref b26), .unset] [(.int p3), (.int code)])) _
            refine XS.icmpNo X36.here hx rfl (hb hby at_123) rfl (teq hc123_48).2 ?_
            show Steps p.tables e below (T36.setTop (mkF m 126 #[.val (.int p1), .val (.int p2), .val (.int p3), .val (.int p4), .val (.int p5), .val (.ref b1), .val (.int (p5 &&& (3 : Int32))), .val (.int code), .val (.ref b11), .val (.ref b26), .unset] [])) _
            refine XS.iconst X36.here hx rfl (hb hby at_126) ?_
            show Steps p.tables e below (T36.setTop (mkF m 127 #[.val (.int p1), .val (.int p2), .val (.int p3), .val (.int p4), .val (.int p5), .val (.ref b1), .val (.int (p5 &&& (3 : Int32))), .val (.int code), .val (.ref b11), .val (.ref b26), .unset] [(.int (1 : Int32))])) _
            refine XS.goto X36.here hx rfl (pc0 := 127) (pc' := 131) rfl (hb hby at_127) (by decide) (by decide) ?_
            exact kt
          show own_End p e below s (T36.setTop (mkF m 131 #[.val (.int p1), .val (.int p2), .val (.int p3), .val (.int p4), .val (.int p5), .val (.ref b1), .val (.int (p5 &&& (3 : Int32))), .val (.int code), .val (.ref b11), .val (.ref b26), .unset] [(.int (1 : Int32))])) (Q0 Z p1 p2 p3 p4 p5 h0 n0) room_1.cells room_1.slots
          exact j131 _ _ X36 rfl N36 (1 : Int32)  (hj.trans (by simp only [own_law_53, if_neg hc111_46, if_neg hc117_47, if_pos hc123_48]))
        · refine own_pre (A := T36.setTop (mkF m 131 #[.val (.int p1), .val (.int p2), .val (.int p3), .val (.int p4), .val (.int p5), .val (.ref b1), .val (.int (p5 &&& (3 : Int32))), .val (.int code), .val (.ref b11), .val (.ref b26), .unset] [(.int (0 : Int32))])) (fun tt kt => ?_) ?_
          · show Steps p.tables e below (T36.setTop (mkF m 123 #[.val (.int p1), .val (.int p2), .val (.int p3), .val (.int p4), .val (.int p5), .val (.ref b1), .val (.int (p5 &&& (3 : Int32))), .val (.int code), .val (.ref b11), .val (.ref b26), .unset] [(.int p3), (.int code)])) _
            refine XS.icmpYes X36.here hx rfl (pc0 := 123) (pc' := 130) rfl (hb hby at_123) rfl (feq hc123_48).2 (by decide) (by decide) ?_
            show Steps p.tables e below (T36.setTop (mkF m 130 #[.val (.int p1), .val (.int p2), .val (.int p3), .val (.int p4), .val (.int p5), .val (.ref b1), .val (.int (p5 &&& (3 : Int32))), .val (.int code), .val (.ref b11), .val (.ref b26), .unset] [])) _
            refine XS.iconst X36.here hx rfl (hb hby at_130) ?_
            exact kt
          show own_End p e below s (T36.setTop (mkF m 131 #[.val (.int p1), .val (.int p2), .val (.int p3), .val (.int p4), .val (.int p5), .val (.ref b1), .val (.int (p5 &&& (3 : Int32))), .val (.int code), .val (.ref b11), .val (.ref b26), .unset] [(.int (0 : Int32))])) (Q0 Z p1 p2 p3 p4 p5 h0 n0) room_1.cells room_1.slots
          exact j131 _ _ X36 rfl N36 (0 : Int32)  (hj.trans (by simp only [own_law_53, if_neg hc111_46, if_neg hc117_47, if_neg hc123_48]))
  by_cases hc25_49 : (p5 &&& (3 : Int32)) = (0 : Int32)
  · refine own_pre (A := T9.setTop (mkF m 53 #[.val (.int p1), .val (.int p2), .val (.int p3), .val (.int p4), .val (.int p5), .val (.ref b1), .val (.int (p5 &&& (3 : Int32))), .unset, .unset, .unset, .unset] [(.int p1)])) (fun tt kt => ?_) ?_
    · show Steps p.tables e below (T9.setTop (mkF m 25 #[.val (.int p1), .val (.int p2), .val (.int p3), .val (.int p4), .val (.int p5), .val (.ref b1), .val (.int (p5 &&& (3 : Int32))), .unset, .unset, .unset, .unset] [(.int (p5 &&& (3 : Int32)))])) _
      refine XS.ifNo X9.here hx rfl (hb hby at_25) rfl ((if0 _ _).trans (teq hc25_49).2) ?_
      show Steps p.tables e below (T9.setTop (mkF m 28 #[.val (.int p1), .val (.int p2), .val (.int p3), .val (.int p4), .val (.int p5), .val (.ref b1), .val (.int (p5 &&& (3 : Int32))), .unset, .unset, .unset, .unset] [])) _
      refine XS.iloadN X9.here hx rfl (hb hby at_28) rfl ?_
      show Steps p.tables e below (T9.setTop (mkF m 29 #[.val (.int p1), .val (.int p2), .val (.int p3), .val (.int p4), .val (.int p5), .val (.ref b1), .val (.int (p5 &&& (3 : Int32))), .unset, .unset, .unset, .unset] [(.int p1)])) _
      refine XS.goto X9.here hx rfl (pc0 := 29) (pc' := 53) rfl (hb hby at_29) (by decide) (by decide) ?_
      exact kt
    show own_End p e below s (T9.setTop (mkF m 53 #[.val (.int p1), .val (.int p2), .val (.int p3), .val (.int p4), .val (.int p5), .val (.ref b1), .val (.int (p5 &&& (3 : Int32))), .unset, .unset, .unset, .unset] [(.int p1)])) (Q0 Z p1 p2 p3 p4 p5 h0 n0) room_1.cells room_1.slots
    exact j53 _ _ X9 e9 N9 p1  (hj.trans (by simp only [own_law, if_pos hc25_49]))
  · refine own_pre (A := T9.setTop (mkF m 35 #[.val (.int p1), .val (.int p2), .val (.int p3), .val (.int p4), .val (.int p5), .val (.ref b1), .val (.int (p5 &&& (3 : Int32))), .unset, .unset, .unset, .unset] [(.int (1 : Int32)), (.int (p5 &&& (3 : Int32)))])) (fun tt kt => ?_) ?_
    · show Steps p.tables e below (T9.setTop (mkF m 25 #[.val (.int p1), .val (.int p2), .val (.int p3), .val (.int p4), .val (.int p5), .val (.ref b1), .val (.int (p5 &&& (3 : Int32))), .unset, .unset, .unset, .unset] [(.int (p5 &&& (3 : Int32)))])) _
      refine XS.ifYes X9.here hx rfl (pc0 := 25) (pc' := 32) rfl (hb hby at_25) rfl ((if0 _ _).trans (feq hc25_49).2) (by decide) (by decide) ?_
      show Steps p.tables e below (T9.setTop (mkF m 32 #[.val (.int p1), .val (.int p2), .val (.int p3), .val (.int p4), .val (.int p5), .val (.ref b1), .val (.int (p5 &&& (3 : Int32))), .unset, .unset, .unset, .unset] [])) _
      refine XS.iload X9.here hx rfl (hb hby at_32) rfl ?_
      show Steps p.tables e below (T9.setTop (mkF m 34 #[.val (.int p1), .val (.int p2), .val (.int p3), .val (.int p4), .val (.int p5), .val (.ref b1), .val (.int (p5 &&& (3 : Int32))), .unset, .unset, .unset, .unset] [(.int (p5 &&& (3 : Int32)))])) _
      refine XS.iconst X9.here hx rfl (hb hby at_34) ?_
      exact kt
    show own_End p e below s (T9.setTop (mkF m 35 #[.val (.int p1), .val (.int p2), .val (.int p3), .val (.int p4), .val (.int p5), .val (.ref b1), .val (.int (p5 &&& (3 : Int32))), .unset, .unset, .unset, .unset] [(.int (1 : Int32)), (.int (p5 &&& (3 : Int32)))])) (Q0 Z p1 p2 p3 p4 p5 h0 n0) room_1.cells room_1.slots
    by_cases hc35_50 : (p5 &&& (3 : Int32)) = (1 : Int32)
    · refine own_pre (A := T9.setTop (mkF m 53 #[.val (.int p1), .val (.int p2), .val (.int p3), .val (.int p4), .val (.int p5), .val (.ref b1), .val (.int (p5 &&& (3 : Int32))), .unset, .unset, .unset, .unset] [(.int p2)])) (fun tt kt => ?_) ?_
      · show Steps p.tables e below (T9.setTop (mkF m 35 #[.val (.int p1), .val (.int p2), .val (.int p3), .val (.int p4), .val (.int p5), .val (.ref b1), .val (.int (p5 &&& (3 : Int32))), .unset, .unset, .unset, .unset] [(.int (1 : Int32)), (.int (p5 &&& (3 : Int32)))])) _
        refine XS.icmpNo X9.here hx rfl (hb hby at_35) rfl (teq hc35_50).2 ?_
        show Steps p.tables e below (T9.setTop (mkF m 38 #[.val (.int p1), .val (.int p2), .val (.int p3), .val (.int p4), .val (.int p5), .val (.ref b1), .val (.int (p5 &&& (3 : Int32))), .unset, .unset, .unset, .unset] [])) _
        refine XS.iloadN X9.here hx rfl (hb hby at_38) rfl ?_
        show Steps p.tables e below (T9.setTop (mkF m 39 #[.val (.int p1), .val (.int p2), .val (.int p3), .val (.int p4), .val (.int p5), .val (.ref b1), .val (.int (p5 &&& (3 : Int32))), .unset, .unset, .unset, .unset] [(.int p2)])) _
        refine XS.goto X9.here hx rfl (pc0 := 39) (pc' := 53) rfl (hb hby at_39) (by decide) (by decide) ?_
        exact kt
      show own_End p e below s (T9.setTop (mkF m 53 #[.val (.int p1), .val (.int p2), .val (.int p3), .val (.int p4), .val (.int p5), .val (.ref b1), .val (.int (p5 &&& (3 : Int32))), .unset, .unset, .unset, .unset] [(.int p2)])) (Q0 Z p1 p2 p3 p4 p5 h0 n0) room_1.cells room_1.slots
      exact j53 _ _ X9 e9 N9 p2  (hj.trans (by simp only [own_law, if_neg hc25_49, if_pos hc35_50]))
    · refine own_pre (A := T9.setTop (mkF m 45 #[.val (.int p1), .val (.int p2), .val (.int p3), .val (.int p4), .val (.int p5), .val (.ref b1), .val (.int (p5 &&& (3 : Int32))), .unset, .unset, .unset, .unset] [(.int (2 : Int32)), (.int (p5 &&& (3 : Int32)))])) (fun tt kt => ?_) ?_
      · show Steps p.tables e below (T9.setTop (mkF m 35 #[.val (.int p1), .val (.int p2), .val (.int p3), .val (.int p4), .val (.int p5), .val (.ref b1), .val (.int (p5 &&& (3 : Int32))), .unset, .unset, .unset, .unset] [(.int (1 : Int32)), (.int (p5 &&& (3 : Int32)))])) _
        refine XS.icmpYes X9.here hx rfl (pc0 := 35) (pc' := 42) rfl (hb hby at_35) rfl (feq hc35_50).2 (by decide) (by decide) ?_
        show Steps p.tables e below (T9.setTop (mkF m 42 #[.val (.int p1), .val (.int p2), .val (.int p3), .val (.int p4), .val (.int p5), .val (.ref b1), .val (.int (p5 &&& (3 : Int32))), .unset, .unset, .unset, .unset] [])) _
        refine XS.iload X9.here hx rfl (hb hby at_42) rfl ?_
        show Steps p.tables e below (T9.setTop (mkF m 44 #[.val (.int p1), .val (.int p2), .val (.int p3), .val (.int p4), .val (.int p5), .val (.ref b1), .val (.int (p5 &&& (3 : Int32))), .unset, .unset, .unset, .unset] [(.int (p5 &&& (3 : Int32)))])) _
        refine XS.iconst X9.here hx rfl (hb hby at_44) ?_
        exact kt
      show own_End p e below s (T9.setTop (mkF m 45 #[.val (.int p1), .val (.int p2), .val (.int p3), .val (.int p4), .val (.int p5), .val (.ref b1), .val (.int (p5 &&& (3 : Int32))), .unset, .unset, .unset, .unset] [(.int (2 : Int32)), (.int (p5 &&& (3 : Int32)))])) (Q0 Z p1 p2 p3 p4 p5 h0 n0) room_1.cells room_1.slots
      by_cases hc45_51 : (p5 &&& (3 : Int32)) = (2 : Int32)
      · refine own_pre (A := T9.setTop (mkF m 53 #[.val (.int p1), .val (.int p2), .val (.int p3), .val (.int p4), .val (.int p5), .val (.ref b1), .val (.int (p5 &&& (3 : Int32))), .unset, .unset, .unset, .unset] [(.int p3)])) (fun tt kt => ?_) ?_
        · show Steps p.tables e below (T9.setTop (mkF m 45 #[.val (.int p1), .val (.int p2), .val (.int p3), .val (.int p4), .val (.int p5), .val (.ref b1), .val (.int (p5 &&& (3 : Int32))), .unset, .unset, .unset, .unset] [(.int (2 : Int32)), (.int (p5 &&& (3 : Int32)))])) _
          refine XS.icmpNo X9.here hx rfl (hb hby at_45) rfl (teq hc45_51).2 ?_
          show Steps p.tables e below (T9.setTop (mkF m 48 #[.val (.int p1), .val (.int p2), .val (.int p3), .val (.int p4), .val (.int p5), .val (.ref b1), .val (.int (p5 &&& (3 : Int32))), .unset, .unset, .unset, .unset] [])) _
          refine XS.iloadN X9.here hx rfl (hb hby at_48) rfl ?_
          show Steps p.tables e below (T9.setTop (mkF m 49 #[.val (.int p1), .val (.int p2), .val (.int p3), .val (.int p4), .val (.int p5), .val (.ref b1), .val (.int (p5 &&& (3 : Int32))), .unset, .unset, .unset, .unset] [(.int p3)])) _
          refine XS.goto X9.here hx rfl (pc0 := 49) (pc' := 53) rfl (hb hby at_49) (by decide) (by decide) ?_
          exact kt
        show own_End p e below s (T9.setTop (mkF m 53 #[.val (.int p1), .val (.int p2), .val (.int p3), .val (.int p4), .val (.int p5), .val (.ref b1), .val (.int (p5 &&& (3 : Int32))), .unset, .unset, .unset, .unset] [(.int p3)])) (Q0 Z p1 p2 p3 p4 p5 h0 n0) room_1.cells room_1.slots
        exact j53 _ _ X9 e9 N9 p3  (hj.trans (by simp only [own_law, if_neg hc25_49, if_neg hc35_50, if_pos hc45_51]))
      · refine own_pre (A := T9.setTop (mkF m 53 #[.val (.int p1), .val (.int p2), .val (.int p3), .val (.int p4), .val (.int p5), .val (.ref b1), .val (.int (p5 &&& (3 : Int32))), .unset, .unset, .unset, .unset] [(.int p4)])) (fun tt kt => ?_) ?_
        · show Steps p.tables e below (T9.setTop (mkF m 45 #[.val (.int p1), .val (.int p2), .val (.int p3), .val (.int p4), .val (.int p5), .val (.ref b1), .val (.int (p5 &&& (3 : Int32))), .unset, .unset, .unset, .unset] [(.int (2 : Int32)), (.int (p5 &&& (3 : Int32)))])) _
          refine XS.icmpYes X9.here hx rfl (pc0 := 45) (pc' := 52) rfl (hb hby at_45) rfl (feq hc45_51).2 (by decide) (by decide) ?_
          show Steps p.tables e below (T9.setTop (mkF m 52 #[.val (.int p1), .val (.int p2), .val (.int p3), .val (.int p4), .val (.int p5), .val (.ref b1), .val (.int (p5 &&& (3 : Int32))), .unset, .unset, .unset, .unset] [])) _
          refine XS.iloadN X9.here hx rfl (hb hby at_52) rfl ?_
          exact kt
        show own_End p e below s (T9.setTop (mkF m 53 #[.val (.int p1), .val (.int p2), .val (.int p3), .val (.int p4), .val (.int p5), .val (.ref b1), .val (.int (p5 &&& (3 : Int32))), .unset, .unset, .unset, .unset] [(.int p4)])) (Q0 Z p1 p2 p3 p4 p5 h0 n0) room_1.cells room_1.slots
        exact j53 _ _ X9 e9 N9 p4  (hj.trans (by simp only [own_law, if_neg hc25_49, if_neg hc35_50, if_neg hc45_51]))
theorem own_win3 (code : Int32) (g : Nat → Int32) (vb : Int32) : own_win code g (3 : Int32) vb = if g 0 = code then 1 else if g 1 = code then 1 else if g 2 = code then 1 else 0 := by
  have f3 : (3 : Int32).toNatClampNeg = 3 := by decide
  have i0 : (0 : Int32).toNatClampNeg = 0 := by decide
  have e1 : (0 : Int32) + 1 = 1 := by decide
  have e2 : (1 : Int32) + 1 = 2 := by decide
  have e3 : (2 : Int32) + 1 = 3 := by decide
  have i1 : (1 : Int32).toNatClampNeg = 1 := by decide
  have i2 : (2 : Int32).toNatClampNeg = 2 := by decide
  have l0 : (0 : Int32) < 3 := by decide
  have l1 : (1 : Int32) < 3 := by decide
  have l2 : (2 : Int32) < 3 := by decide
  have l3 : ¬ (3 : Int32) < 3 := by decide
  have z : ¬ ((1 : Int32) = 0) := by decide
  have a1 : (1 : Int32) &&& 1 = 1 := by decide
  have a0 : (0 : Int32) &&& 1 = 0 := by decide
  simp only [own_win, f3, own_win_4, e1, e2, e3, i0, i1, i2, if_pos l0, if_pos l1, if_pos l2, if_neg l3, if_neg z, a1, a0, if_true, ite_self]
theorem own_win0 (code : Int32) (g : Nat → Int32) (vb : Int32) : own_win code g (0 : Int32) vb = 0 := by
  have l3 : ¬ (0 : Int32) < 0 := by decide
  have a0 : (0 : Int32) &&& 1 = 0 := by decide
  have f3 : (0 : Int32).toNatClampNeg = 0 := by decide
  simp only [own_win, f3, own_win_4, if_neg l3, a0]
theorem own_53 (p1 p2 p3 p4 p5 code : Int32) : own_law_53 p1 p2 p3 p4 p5 code = 1 := by
  have g0 : own_law0_g10 p1 p2 p3 p4 p5 0 = p1 := rfl
  have g1 : own_law0_g10 p1 p2 p3 p4 p5 1 = p2 := rfl
  have g2 : own_law0_g10 p1 p2 p3 p4 p5 2 = p3 := rfl
  have z : ¬ ((0 : Int32) = 1) := by decide
  unfold own_law_53 own_law_131
  rw [own_win3, own_win0, g0, g1, g2]
  by_cases h1 : code = p1
  · rw [if_pos h1, if_pos h1.symm, if_pos rfl, if_pos rfl]
  have h1' : ¬ p1 = code := fun q => h1 q.symm
  rw [if_neg h1, if_neg h1']
  by_cases h2 : code = p2
  · rw [if_pos h2, if_pos h2.symm, if_pos rfl, if_pos rfl]
  have h2' : ¬ p2 = code := fun q => h2 q.symm
  rw [if_neg h2, if_neg h2']
  by_cases h3 : code = p3
  · rw [if_pos h3, if_pos h3.symm, if_pos rfl, if_pos rfl]
  have h3' : ¬ p3 = code := fun q => h3 q.symm
  rw [if_neg h3, if_neg h3', if_pos rfl, if_pos rfl]
theorem own_true (w0 w1 w2 c sel : Int32) : own_law w0 w1 w2 c sel = 1 := by
  simp only [own_law, own_53, ite_self]

set_option maxRecDepth 65536 in
set_option maxHeartbeats 40000000 in
theorem comes_1 {Post : Tables → Env → Array Value → State → Outcome → State → Prop} (hpost : ∀ tb e args s v u, (limb_1_1.after args s (.returned v) u = true ∧ limb_1_2.after args s (.returned v) u = true ∧ True) → FrameEnd s (.returned v) u (Jvm.fieldLocs frame_1_writes args s ++ Jvm.arrayLocs frame_1_arrays args s ++ Jvm.staticLocs frame_1_statics s) 24 128 → Post tb e args s (.returned v) u) :
    ArmFor flags0 classFile x code maxLocals ret World_1 tables_1 room_1 Calls_1 rest_1 Pre_1 Post := by
  intro l hfl _ _ p e ha hc hk s m args below hf hA hF happ hP
  obtain ⟨hcalls, hrest, hpre⟩ := hP
  obtain ⟨-, -, -, hnamed, -, -, -, hat⟩ := (Spec.applies_iff hf).mp happ
  obtain ⟨hg, hn⟩ := and_e (Cond.before_iff.mp (show (Jvm.Cond.and given_1 narrow_1).before args s = true from hpre))
  obtain ⟨g1, g2⟩ := and_e hg
  obtain ⟨g3, g4⟩ := and_e g2
  obtain ⟨g5, g6⟩ := and_e g4
  obtain ⟨g7, g8⟩ := and_e g6
  obtain ⟨g9, g10⟩ := and_e g8
  obtain ⟨w0, w1, w2, w3, w4, rfl⟩ : ∃ w0 w1 w2 w3 w4 : Value, args = #[w0, w1, w2, w3, w4] := by
    have hs : args.size = 5 := by simpa [Cond.value, given_1] using g1
    obtain ⟨L⟩ := args
    match L, hs with
    | [w0, w1, w2, w3, w4], _ => exact ⟨w0, w1, w2, w3, w4, rfl⟩
  have hw := fun d (hd : d ∈ tables_1) => atoms_spec (ws := Jvm.Cond.code x code maxLocals ret :: tables_1) hat d (List.mem_cons_of_mem _ hd)
  have hfit : Fit s := fun {y c} hc i hi => by
    obtain ⟨ha, rfl⟩ := Array.getElem?_eq_some_iff.mp hc
    have q := List.all_eq_true.mp ((Array.all_eq_true_iff_forall_mem.mp hF) _ (Array.getElem_mem ha)) i (List.mem_range.mpr hi)
    simpa [Array.getElem?_eq_getElem hi] using q
  obtain ⟨i0, ei0⟩ := is_v g3
  obtain rfl : w0 = (.int i0) := Option.some.inj ei0
  obtain ⟨i1, ei1⟩ := is_v g5
  obtain rfl : w1 = (.int i1) := Option.some.inj ei1
  obtain ⟨i2, ei2⟩ := is_v g7
  obtain rfl : w2 = (.int i2) := Option.some.inj ei2
  obtain ⟨i3, ei3⟩ := is_v g9
  obtain rfl : w3 = (.int i3) := Option.some.inj ei3
  obtain ⟨i4, ei4⟩ := is_v g10
  obtain rfl : w4 = (.int i4) := Option.some.inj ei4
  obtain ⟨n, o, h1, h2, h3, _, L, rfl, ⟨rfl, N⟩, hq⟩ := rm0 l s _ hw tables_1 i0 i1 i2 i3 i4 s.heap s.heap.size (Nat.le_refl _)  p e ha hc hk s m _ below hf ((Spec.applies_iff_loose hf).mp happ).1 ⟨rfl, State.Warmed39.refl s, rfl⟩ trivial
  refine ⟨n, _, h1, h2, h3, hpost _ _ _ _ _ _ ⟨Cond.after_iff.mpr rfl, Cond.after_iff.mpr (eq_i res_at (Term.int_eval (1)) (congrArg Value.int (own_true i0 i1 i2 i3 i4))), trivial⟩ ⟨hq.1, hq.2.1, (hq.2.2.sift fun y hy => Or.inr (N y hy)).mono (by decide) (by decide)⟩⟩
theorem main_1_1 : Claimed_1_1 := comes_1 fun _ _ _ _ _ _ h hF => ⟨h.1, hF⟩
theorem main_1_2 : Claimed_1_2 := comes_1 fun _ _ _ _ _ _ h hF => ⟨h.2.1, hF⟩
end Jvm.Pilot.@@N@@
namespace Jvm.Pilot.@@N@@
open Jvm Jvm.ClassFile Sem Op Lib Jvm.Free Jvm.Stand Jvm.Pilot.@@N@@.Jvm.D
/-! MADE BY PROGRAM (witnessworld.py) out of the Statement's table words and the real class files: 11 classes; the members and pool entries that the words name. The judged class is class 1, her method 1. -/
namespace start1
open Jvm.ClassFile
def u (s : String) : CpInfo := .utf8 (stringToUtf16 s)
/-- a pool by its gaps: so many unusable entries, then the entry; so many at the end -/
def gap : Nat → List CpInfo → List CpInfo
  | 0, r => r
  | n + 1, r => .unusable :: gap n r
def poolList (es : List (Nat × CpInfo)) (last : Nat) : List CpInfo := es.foldr (fun e r => gap e.1 (e.2 :: r)) (gap last [])
def pool (es : List (Nat × CpInfo)) (last : Nat) : Array CpInfo := ⟨poolList es last⟩
def fileOf (pool : Array CpInfo) (this : Nat) (attrs : Array Attribute := #[]) (ms : Array MethodInfo := #[]) (fl : Nat := 33) (sup : Nat := 0) (ifs : Array Nat := #[]) (fds : Array FieldInfo := #[]) : ClassFile where
  minorVersion := 0
  majorVersion := 65
  constantPool := pool
  accessFlags := fl
  thisClass := this
  superClass := sup
  interfaces := ifs
  fields := fds
  methods := ms
  attributes := attrs
def plain (name : String) (sup : Option ClassId) : Class where
  name := name
  kind := .ordinary
  loader := none
  accessFlags := 33
  super := sup
  interfaces := #[]
  cf := none
  fields := #[]
  methods := #[]
  instanceTypes := #[]
  staticTypes := #[]
  resolved := #[]
  callSites := []
  init := .initialized
  statics := none
  mirror := none

def pool0 : Array CpInfo := pool [(5, u "<init>"), (0, u "()V"), (1, .class_ 10), (1, u "java/lang/Object")] 113

def k0c0 : Code := { maxStack := 0, maxLocals := 1, code := object_method_1_code, exceptionTable := #[], attributes := #[] }
def k0m0 : Method := { name := "<init>", desc := "()V", sig := { parameters := [], returnType := none }, accessFlags := 1, code := some k0c0 }
/-- java/lang/Object -/
def k0 : Class := { plain "java/lang/Object" none with
  accessFlags := 33
  interfaces := #[]
  cf := some (fileOf pool0 8 #[] #[{ accessFlags := 1, nameIndex := 5, descriptorIndex := 6, attributes := #[] }] 33 0 #[] #[])
  fields := #[]
  methods := #[k0m0]
  instanceTypes := #[]
  staticTypes := #[]
  resolved := Array.replicate 124 none
  statics := none }

def pool1 : Array CpInfo := pool [(2, .class_ 4), (1, u "java/lang/Object"), (0, u "<init>"), (0, u "()V"), (0, .class_ 8), (0, u "com/example/scratchline/scratchline/game/Face"), (0, .methodref 7 10), (0, .nameAndType 5 11), (0, u "([II[I[J)V"), (0, .methodref 7 13), (0, .nameAndType 14 15), (0, u "isWinning"), (0, u "(I)Z"), (0, .class_ 17), (0, u "com/example/scratchline/scratchline/game/FaceIsWinningPinLaw"), (2, u "law"), (0, u "(IIIII)Z")] 5

def k1m0 : Method := { name := "<init>", desc := "()V", sig := { parameters := [], returnType := none }, accessFlags := 1, code := none }
def k1c1 : Code := { maxStack := 10, maxLocals := 11, code := code, exceptionTable := #[], attributes := #[] }
def k1m1 : Method := { name := "law", desc := "(IIIII)Z", sig := { parameters := [.int, .int, .int, .int, .int], returnType := some .boolean }, accessFlags := 9, code := some k1c1 }
/-- com/example/scratchline/scratchline/game/FaceIsWinningPinLaw -/
def k1 : Class := { plain "com/example/scratchline/scratchline/game/FaceIsWinningPinLaw" (some 0) with
  accessFlags := 49
  interfaces := #[]
  cf := some (fileOf pool1 16 #[] #[{ accessFlags := 1, nameIndex := 5, descriptorIndex := 6, attributes := #[] }, { accessFlags := 9, nameIndex := 20, descriptorIndex := 21, attributes := #[] }] 49 2 #[] #[])
  fields := #[]
  methods := #[k1m0, k1m1]
  instanceTypes := #[]
  staticTypes := #[]
  resolved := Array.replicate 27 none
  statics := none }

def pool2 : Array CpInfo := pool [(3, .methodref 4 5), (0, .class_ 6), (0, .nameAndType 7 8), (0, u "java/lang/Object"), (0, u "<init>"), (0, u "()V"), (0, .fieldref 10 11), (0, .class_ 12), (0, .nameAndType 13 14), (0, u "com/example/scratchline/scratchline/game/Face"), (0, u "winning"), (0, u "[I"), (0, .fieldref 10 16), (0, .nameAndType 17 18), (0, u "bonus"), (0, u "I"), (0, .fieldref 10 20), (0, .nameAndType 21 14), (0, u "spots"), (0, .fieldref 10 23), (0, .nameAndType 24 25), (0, u "prizes"), (0, u "[J"), (64, u "([II[I[J)V"), (70, u "TOO_LARGE"), (0, u "J"), (13, u "isWinning"), (0, u "(I)Z")] 30

def k2c0 : Code := { maxStack := 2, maxLocals := 5, code := prog_31_method_1_code, exceptionTable := #[], attributes := #[] }
def k2m0 : Method := { name := "<init>", desc := "([II[I[J)V", sig := { parameters := [(.array .int), .int, (.array .int), (.array .long)], returnType := none }, accessFlags := 0, code := some k2c0 }
def k2c1 : Code := { maxStack := 2, maxLocals := 4, code := prog_31_method_7_code, exceptionTable := #[], attributes := #[] }
def k2m1 : Method := { name := "isWinning", desc := "(I)Z", sig := { parameters := [.int], returnType := some .boolean }, accessFlags := 0, code := some k2c1 }
/-- com/example/scratchline/scratchline/game/Face -/
def k2 : Class := { plain "com/example/scratchline/scratchline/game/Face" (some 0) with
  accessFlags := 49
  interfaces := #[]
  cf := some (fileOf pool2 10 #[] #[{ accessFlags := 0, nameIndex := 7, descriptorIndex := 90, attributes := #[] }, { accessFlags := 0, nameIndex := 176, descriptorIndex := 177, attributes := #[] }] 49 4 #[] #[{ accessFlags := 26, nameIndex := 161, descriptorIndex := 162, attributes := #[] }, { accessFlags := 18, nameIndex := 13, descriptorIndex := 14, attributes := #[] }, { accessFlags := 18, nameIndex := 17, descriptorIndex := 18, attributes := #[] }, { accessFlags := 18, nameIndex := 21, descriptorIndex := 14, attributes := #[] }, { accessFlags := 18, nameIndex := 24, descriptorIndex := 25, attributes := #[] }])
  fields := #[{ name := "TOO_LARGE", type := .long, accessFlags := 26, slot := 0, constantValue := 0 }, { name := "winning", type := (.array .int), accessFlags := 18, slot := 0, constantValue := 0 }, { name := "bonus", type := .int, accessFlags := 18, slot := 1, constantValue := 0 }, { name := "spots", type := (.array .int), accessFlags := 18, slot := 2, constantValue := 0 }, { name := "prizes", type := (.array .long), accessFlags := 18, slot := 3, constantValue := 0 }]
  methods := #[k2m0, k2m1]
  instanceTypes := #[(.array .int), .int, (.array .int), (.array .long)]
  staticTypes := #[.long]
  resolved := Array.replicate 208 none
  statics := none }

def pool3 : Array CpInfo := pool [(1, u "java/lang/Cloneable"), (0, .class_ 1), (0, u "java/lang/Object"), (0, .class_ 3)] 3

/-- java/lang/Cloneable -/
def k3 : Class := { plain "java/lang/Cloneable" (some 0) with
  accessFlags := 1537
  interfaces := #[]
  cf := some (fileOf pool3 2 #[] #[] 1537 4 #[] #[])
  fields := #[]
  methods := #[]
  instanceTypes := #[]
  staticTypes := #[]
  resolved := Array.replicate 8 none
  statics := none }

def pool4 : Array CpInfo := pool [(1, u "java/io/Serializable"), (0, .class_ 1), (0, u "java/lang/Object"), (0, .class_ 3)] 3

/-- java/io/Serializable -/
def k4 : Class := { plain "java/io/Serializable" (some 0) with
  accessFlags := 1537
  interfaces := #[]
  cf := some (fileOf pool4 2 #[] #[] 1537 4 #[] #[])
  fields := #[]
  methods := #[]
  instanceTypes := #[]
  staticTypes := #[]
  resolved := Array.replicate 8 none
  statics := none }

/-- the primitive byte -/
def k5 : Class := { plain "byte" none with kind := .primitive 'B', accessFlags := 0x411 }
/-- [B -/
def k6 : Class := { plain "[B" (some 0) with kind := .array 5 .byte, interfaces := #[3, 4], accessFlags := 1041 }

/-- the primitive int -/
def k7 : Class := { plain "int" none with kind := .primitive 'I', accessFlags := 0x411 }
/-- [I -/
def k8 : Class := { plain "[I" (some 0) with kind := .array 7 .int, interfaces := #[3, 4], accessFlags := 1041 }

/-- the primitive long -/
def k9 : Class := { plain "long" none with kind := .primitive 'J', accessFlags := 0x411 }
/-- [J -/
def k10 : Class := { plain "[J" (some 0) with kind := .array 9 .long, interfaces := #[3, 4], accessFlags := 1041 }

def heap : Heap := #[]
def classes : Array Class := #[k0, k1, k2, k3, k4, k5, k6, k7, k8, k9, k10]
def interned : List (Array UInt16 × Addr) := []
def slotsUsed : Nat := 0
def theMethod : MethodId := ⟨1, 1⟩
def args0 : Array Value := #[.int 5, .int 9, .int 3, .int 9, .int 3]
def aboutOver (below : List Frame) : State where
  vm := { classes := classes, interned := interned.toArray }
  heap := heap
  slotsUsed := slotsUsed
  threads := #[{ frames := .invoking theMethod args0 :: below }]
def below0 : List Frame := [.native { method := ⟨0, 0⟩, args := #[] }]
def about1 : State := aboutOver below0
def p0 : Program := .bare "" "" ""
def e0 : Env := launch0.env 0 0 0
theorem w_frames : about1.frames = Frame.invoking theMethod args0 :: below0 := rfl
set_option maxRecDepth 65536 in
theorem w_args : argsFit about1.vm theMethod args0 = true := by decide +kernel
set_option maxRecDepth 65536 in
theorem w_heap : heapFits about1 = true := by decide +kernel
set_option maxRecDepth 65536 in
theorem w_runnable : about1.curStatus? = some .runnable := by decide +kernel
set_option maxRecDepth 65536 in
theorem w_alone : about1.alone = true := by decide +kernel
set_option maxRecDepth 65536 in
theorem w_named : about1.methodNamed? x = some theMethod := by decide +kernel
set_option maxRecDepth 65536 in
theorem w_hears : about1.hears theMethod below0 = true := by decide +kernel
set_option maxRecDepth 65536 in
theorem w_ripe : about1.ripe theMethod args0 below0 = true := by decide +kernel
theorem w_running : about1.status = .running := rfl
set_option maxRecDepth 65536 in
theorem w_room : about1.hasRoom e0.platform room_1 = true :=
  launch0.hasRoom_least _ room_1 (by decide +kernel) (by decide +kernel) (by decide +kernel) (by decide +kernel) (by decide +kernel) (by decide +kernel)
theorem allAtoms_all (ts : List Jvm.Cond) (a : Array Jvm.Value) (st : Jvm.State) : (allAtoms ts).before a st = ts.all (fun c => c.before a st) := by
  induction ts with
  | nil => rfl
  | cons c t ih =>
    show (Jvm.Cond.and c (allAtoms t)).before a st = _
    rw [Jvm.Cond.before_and, ih, List.all_cons]
def words1 : List Jvm.Cond := Jvm.Cond.code x code maxLocals ret :: tables_1
/-- a 'code' word, met by the world's own term for the bytes: nothing is compared byte by byte -/
theorem code_word {y : MethodName} {bytes : ByteArray} {mx : Nat} {rt : Option FieldType} {a : Array Value} {s : State} {m : MethodId} {meth : Method} {c : Code} (h1 : s.methodNamed? y = some m) (h2 : s.vm.method? m = some meth) (h3 : meth.code = some c) (h4 : c.code = bytes)
    (h5 : (c.maxLocals == mx && c.exceptionTable.isEmpty && decide (c.maxStack ≤ mostOperands) && decide (meth.sig.returnType = rt) && !meth.locks && decide (parseMethodDescriptor y.desc = some meth.sig)) = true) : (Jvm.Cond.code y bytes mx rt).before a s = true := by
  simp only [Bool.and_eq_true, beq_iff_eq, Bool.not_eq_true', decide_eq_true_eq] at h5
  obtain ⟨⟨⟨⟨⟨g1, g2⟩, g3⟩, g4⟩, g5⟩, g6⟩ := h5
  simp [Cond.before, Cond.holds, Cond.value, h1, h2, h3, h4, g1, g2, g3, g4, g5, g6]
def isCode : Jvm.Cond → Bool
  | .code _ _ _ _ => true
  | _ => false
theorem all_split {L : List Jvm.Cond} {P : Jvm.Cond → Bool} (h1 : L.all (fun c => isCode c || P c) = true) (h2 : ∀ c ∈ L.filter isCode, P c = true) : L.all P = true := by
  refine List.all_eq_true.mpr fun c hc => ?_
  have h := List.all_eq_true.mp h1 c hc
  rcases Bool.eq_false_or_eq_true (isCode c) with hi | hi
  · exact h2 c (List.mem_filter.mpr ⟨hc, hi⟩)
  · simpa [hi] using h
set_option maxRecDepth 65536 in
theorem w_c0 : (Jvm.Cond.code x code maxLocals ret).before args0 about1 = true := code_word (m := ⟨1, 1⟩) (meth := k1m1) (c := k1c1) (by decide +kernel) rfl rfl rfl (by decide +kernel)
set_option maxRecDepth 65536 in
theorem w_c1 : (Jvm.Cond.code ({ cls := "com/example/scratchline/scratchline/game/Face", name := "<init>", desc := "([II[I[J)V" } : Jvm.MethodName) prog_31_method_1_code (5 : Nat) (Option.none : Option Jvm.ClassFile.FieldType)).before args0 about1 = true := code_word (m := ⟨2, 0⟩) (meth := k2m0) (c := k2c0) (by decide +kernel) rfl rfl rfl (by decide +kernel)
set_option maxRecDepth 65536 in
theorem w_c2 : (Jvm.Cond.code ({ cls := "java/lang/Object", name := "<init>", desc := "()V" } : Jvm.MethodName) object_method_1_code (1 : Nat) (Option.none : Option Jvm.ClassFile.FieldType)).before args0 about1 = true := code_word (m := ⟨0, 0⟩) (meth := k0m0) (c := k0c0) (by decide +kernel) rfl rfl rfl (by decide +kernel)
set_option maxRecDepth 65536 in
theorem w_c3 : (Jvm.Cond.code ({ cls := "com/example/scratchline/scratchline/game/Face", name := "isWinning", desc := "(I)Z" } : Jvm.MethodName) prog_31_method_7_code (4 : Nat) (Option.some Jvm.ClassFile.FieldType.boolean)).before args0 about1 = true := code_word (m := ⟨2, 1⟩) (meth := k2m1) (c := k2c1) (by decide +kernel) rfl rfl rfl (by decide +kernel)
def codes1 : List Jvm.Cond := [Jvm.Cond.code x code maxLocals ret, Jvm.Cond.code ({ cls := "com/example/scratchline/scratchline/game/Face", name := "<init>", desc := "([II[I[J)V" } : Jvm.MethodName) prog_31_method_1_code (5 : Nat) (Option.none : Option Jvm.ClassFile.FieldType), Jvm.Cond.code ({ cls := "java/lang/Object", name := "<init>", desc := "()V" } : Jvm.MethodName) object_method_1_code (1 : Nat) (Option.none : Option Jvm.ClassFile.FieldType), Jvm.Cond.code ({ cls := "com/example/scratchline/scratchline/game/Face", name := "isWinning", desc := "(I)Z" } : Jvm.MethodName) prog_31_method_7_code (4 : Nat) (Option.some Jvm.ClassFile.FieldType.boolean)]
set_option maxRecDepth 65536 in
theorem codes_eq : words1.filter isCode = codes1 := rfl
theorem w_codes : ∀ c ∈ words1.filter isCode, c.before args0 about1 = true := by
  rw [codes_eq]
  intro c hc
  simp only [codes1, List.mem_cons, List.not_mem_nil, or_false] at hc
  rcases hc with rfl | rfl | rfl | rfl
  · exact w_c0
  · exact w_c1
  · exact w_c2
  · exact w_c3
set_option maxRecDepth 65536 in
theorem w_t1 : (words1.take 24).all (fun c => isCode c || c.before args0 about1) = true := by decide +kernel
set_option maxRecDepth 65536 in
theorem w_t2 : (words1.drop 24).all (fun c => isCode c || c.before args0 about1) = true := by decide +kernel
theorem w_tables : (allAtoms (Jvm.Cond.code x code maxLocals ret :: tables_1)).before args0 about1 = true := by
  rw [allAtoms_all]
  show words1.all (fun c => c.before args0 about1) = true
  refine all_split ?_ w_codes
  rw [← List.take_append_drop 24 words1, List.all_append, w_t1, w_t2]
  rfl
set_option maxRecDepth 65536 in
theorem w_case : (Jvm.Cond.and given_1 narrow_1).before args0 about1 = true := by decide +kernel
theorem w_applies : (headSpec (Jvm.Cond.code x code maxLocals ret :: tables_1) room_1).applies x e0.platform about1 = true :=
  (Spec.applies_iff w_frames).mpr ⟨w_running, w_runnable, w_alone, w_named, w_hears, w_ripe, w_room, w_tables⟩
theorem atStart : AtStart classFile x code maxLocals ret World_1 tables_1 room_1 Calls_1 rest_1 Pre_1 launch0 p0 e0 about1 theMethod args0 below0 :=
  ⟨lists_1, trivial, launch0.admits_env _ _ _, launch0.least_env, fairChoices_fair.cas, fairChoices_fair.clock, w_frames, w_args, w_heap, w_applies, trivial, trivial, w_case⟩
end start1
theorem witness_1 : WitnessClaimed_1 := ⟨start1.p0, start1.e0, start1.about1, start1.theMethod, start1.args0, start1.below0, start1.atStart⟩
end Jvm.Pilot.@@N@@
