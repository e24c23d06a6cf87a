import JvmDerived
import JvmDerived.Pilot.@@N@@Statement
import JvmDerived.Pilot.@@N@@Code
set_option linter.unusedVariables false
set_option linter.unusedSimpArgs false
namespace Jvm.RoadKit
open Sem ClassFile Op Lib Jvm.Stand Jvm.Free Jvm.LawKit
section New
variable {p : Program} {l : Launch} {e : Env} {R : Room} {s : State} {m : MethodId} {args : Array Value} {below : List Frame} {meth : Method} {c : Code} {T : State} {locs : List Loc} {cells slots : Nat}
theorem retI (X : Stand p l e R s m args below meth c T locs cells slots) (hx : p.tables.exec = Jvm.exec) {pc : Nat} {Ls : Array Slot} {z : Int32} {rest : List Value} (hret : meth.sig.returnType = some .int) (hd : decode c.code pc = .ok (.ireturn, 1)) {fs : List Frame}
    (hl : ∀ (f : JFrame) (acts : List Action), f.method = m → f.locked = none → f.entered = [] → (doReturn e (T.setTop f) acts (some (.int z))).1 = T.setFrames fs) : Steps p.tables e below (T.setTop (mkF m pc Ls (.int z :: rest))) (T.setFrames fs) := by
  have hm' : T.vm.method? m = some meth := X.method'
  have hn : narrow .int (.int z) = .int z := rfl
  show Steps p.tables e below (T.setTop { method := m, pc := pc, locals := Ls, stack := _ :: rest, locked := none }) _
  jvm_step X.here [X.here.top, hx, hd, hm', hret, hn]
  first | (intro acts; rw [hl _ acts rfl rfl rfl]) | rw [hl _ _ rfl rfl rfl]
  exact Steps.refl _
end New
/-- the run from the state A ends as asked: what is left of the goal while one walks -/
def own_End (p : Program) (e : Env) (below : List Frame) (s A : State) (W : Option Value → Heap → List Loc → Prop) (k n : Nat) : Prop :=
  ∃ s₂ o, Steps p.tables e below A s₂ ∧ s₂.status = .running ∧ Ended s₂ below o ∧ ∃ v L, o = .returned v ∧ W v s₂.heap L ∧ FrameEnd s o s₂ L k n
theorem own_pre {p : Program} {e : Env} {below : List Frame} {s A B : State} {W : Option Value → Heap → List Loc → Prop} {k n : Nat} (f : ∀ t, Steps p.tables e below A t → Steps p.tables e below B t) (h : own_End p e below s A W k n) : own_End p e below s B W k n := by
  obtain ⟨s₂, o, h1, h2⟩ := h; exact ⟨s₂, o, f _ h1, h2⟩
end Jvm.RoadKit
namespace Jvm.RoadKit
open Sem ClassFile Op Lib Jvm.Stand Jvm.Free Jvm.LawKit
/-- an array of n places, the i-th of which holds f i -/
def own_Arr (Z : State) (h : Heap) (a : Addr) (ty : FieldType) (n : Int32) (f : Nat → Value) : Prop := ∃ c : Cell, Arr Z h a c ty ∧ c.slots.size = n.toNatClampNeg ∧ ¬ n < 0 ∧ ∀ i, i < n.toNatClampNeg → c.slots[i]? = some (f i)
section Arrays
variable {Z : State} {h h' : Heap} {a b : Addr} {ty : FieldType} {n j : Int32} {f f' : Nat → Value} {sl : Nat} {v : Value} {ws : List Addr}
theorem own_Arr.lt (F : own_Arr Z h a ty n f) : a < h.size := by obtain ⟨c, A, -⟩ := F; exact A.lt
theorem own_Arr.ext (F : own_Arr Z h a ty n f) (E : Ext h h') : own_Arr Z h' a ty n f := by obtain ⟨c, A, r⟩ := F; exact ⟨c, A.ext E, r⟩
theorem own_Arr.other (F : own_Arr Z h b ty n f) (W : Wr h h' a sl v) (q : b ≠ a) : own_Arr Z h' b ty n f := by obtain ⟨c, A, r⟩ := F; exact ⟨c, A.other W q, r⟩
theorem own_Arr.keep (F : own_Arr Z h a ty n f) (K : Keep h h' ws) (q : a ∉ ws) : own_Arr Z h' a ty n f := by obtain ⟨c, A, r⟩ := F; exact ⟨c, ⟨K.2.1 a c A.1 q, A.2⟩, r⟩
theorem own_Arr.new {k : ClassId} (A : Arr Z h a (newA k ty n) ty) (q : ¬ n < 0) (hf : ∀ i, f i = defaultValue ty) : own_Arr Z h a ty n f :=
  ⟨_, A, sz_new _ _ _, q, fun i hi => by rw [hf]; simp [newA, hi]⟩
theorem own_Arr.set {α : Type} (w : α → Value) {g g' : Nat → α} {x : α} {q : Nat} (F : own_Arr Z h a ty n (fun i => w (g i))) (W : Wr h h' a j.toNatClampNeg (w x)) (hj : j.toNatClampNeg = q) (hg : ∀ i, g' i = if i = q then x else g i) : own_Arr Z h' a ty n (fun i => w (g' i)) := by
  obtain ⟨c, A, r1, r2, r3⟩ := F
  subst hj
  refine ⟨_, A.same W, by rw [sz_set]; exact r1, r2, fun i hi => ?_⟩
  show _ = some (w (g' i))
  rw [hg]
  by_cases e : i = j.toNatClampNeg
  · subst e
    rw [if_pos rfl]; simp [Cell.setSlot, r1, hi]
  · rw [if_neg e]
    rw [← r3 i hi]; exact Array.getElem?_setIfInBounds_ne (Ne.symm e)
theorem own_Arr.congr {α : Type} (w : α → Value) {g g' : Nat → α} (F : own_Arr Z h a ty n (fun i => w (g i))) (hg : ∀ i, i < n.toNatClampNeg → g' i = g i) : own_Arr Z h a ty n (fun i => w (g' i)) := by
  obtain ⟨c, A, r1, r2, r3⟩ := F
  exact ⟨c, A, r1, r2, fun i hi => by show _ = some (w (g' i)); rw [hg i hi]; exact r3 i hi⟩
theorem own_at {c : Cell} (S : c.slots.size = n.toNatClampNeg) (G : ∀ i, i < n.toNatClampNeg → c.slots[i]? = some (f i)) (hj : ¬ (j < 0 ∨ c.slots.size ≤ j.toNatClampNeg)) : c.slots[j.toNatClampNeg]? = some (f j.toNatClampNeg) := G _ (by rw [← S]; exact Nat.lt_of_not_le fun y => hj (Or.inr y))
theorem own_nn {n : Int32} (h : ¬ n < 0) : 0 ≤ n.toInt ∧ n.toInt = n.toNatClampNeg := by
  have e := nat_of h
  exact ⟨by omega, e⟩
theorem own_Arr.nn (F : own_Arr Z h a ty n f) : 0 ≤ n.toInt ∧ n.toInt = n.toNatClampNeg := by obtain ⟨c, A, r1, r2, r3⟩ := F; exact own_nn r2
theorem own_ge0 {i : Int32} (h : 0 ≤ i.toInt) : ¬ i < 0 := fun q => by
  have := Int32.lt_iff_toInt_lt.mp q
  have z : (0 : Int32).toInt = 0 := by decide
  omega
theorem own_inb {i n : Int32} (h0 : 0 ≤ i.toInt) (h : i < n) : ¬ i < 0 ∧ i < n := ⟨own_ge0 h0, h⟩
theorem own_inb2 {i n : Int32} (h0 : 0 ≤ i.toInt) (h : i.toInt < n.toInt) : ¬ i < 0 ∧ i < n := ⟨own_ge0 h0, Int32.lt_iff_toInt_lt.mpr h⟩
theorem own_next {i n : Int32} (h0 : 0 ≤ i.toInt) (h : i < n) : (i + 1).toInt = i.toInt + 1 ∧ i.toInt < n.toInt := by
  have q := Int32.lt_iff_toInt_lt.mp h
  have a := c_iadd i 1
  have z : (1 : Int32).toInt = 1 := by decide
  have r1 := rng32 (i + 1)
  have r2 := rng32 n
  omega
end Arrays
end Jvm.RoadKit
namespace Jvm.Pilot.@@N@@
open Jvm Jvm.ClassFile Sem Op Lib Jvm.Free Jvm.Stand Jvm.LawKit Jvm.RoadKit Bundle Jvm.Pilot.@@N@@.Jvm.D
def own_Obj0 (Z : State) (h : Heap) (a : Addr) (v0 : Int32) (v2 : Int32) (v7 : Int32) : Prop := Exa Z h a "com/example/libfacet/libfacet/regex/StateSet" ∧ Fld Z h a "com/example/libfacet/libfacet/regex/StateSet" "stamp" "I" (.int v0) ∧ Fld Z h a "com/example/libfacet/libfacet/regex/StateSet" "stack" "[I" .null ∧ Fld Z h a "com/example/libfacet/libfacet/regex/StateSet" "instructions" "I" (.int v2) ∧ Fld Z h a "com/example/libfacet/libfacet/regex/StateSet" "members" "[I" .null ∧ Fld Z h a "com/example/libfacet/libfacet/regex/StateSet" "marks" "[C" .null ∧ Fld Z h a "com/example/libfacet/libfacet/regex/StateSet" "markBits" "[J" .null ∧ Fld Z h a "com/example/libfacet/libfacet/regex/StateSet" "marked" "[I" .null ∧ Fld Z h a "com/example/libfacet/libfacet/regex/StateSet" "size" "I" (.int v7)
def own_ObjN (Z : State) (h : Heap) (a : Addr) (v0 : Addr) (v1 : Int32) : Prop := Exa Z h a "com/example/libfacet/libfacet/regex/StateSet" ∧ Fld Z h a "com/example/libfacet/libfacet/regex/StateSet" "members" "[I" (.ref v0) ∧ Fld Z h a "com/example/libfacet/libfacet/regex/StateSet" "size" "I" (.int v1)
def own_ObjL (Z : State) (h : Heap) (a : Addr) (v1 : Int32) : Prop := Exa Z h a "com/example/libfacet/libfacet/regex/StateSet" ∧ Fld Z h a "com/example/libfacet/libfacet/regex/StateSet" "members" "[I" .null ∧ Fld Z h a "com/example/libfacet/libfacet/regex/StateSet" "size" "I" (.int v1)
def own_put (g : Nat → Int32) (j x : Int32) : Nat → Int32 := fun i => if i = j.toNatClampNeg then x else g i
theorem own_lt16 {v : Int32} (h : v.toInt < 16) : ¬ v = (16 : Int32) := fun q => by subst q; exact absurd h (by decide)
theorem own_last {n : Int32} (h : n = 0 ∨ n = 1 ∨ n = 2 ∨ n = 3 ∨ n = 4) (h0 : ¬ n = 0) (h1 : ¬ n = 1) (h2 : ¬ n = 2) (h3 : ¬ n = 3) : n = 4 := by
  rcases h with h | h | h | h | h
  · exact absurd h h0
  · exact absurd h h1
  · exact absurd h h2
  · exact absurd h h3
  · exact h
theorem own_five (x : Int32) : ((x &&& (7 : Int32)) % (5 : Int32)) = 0 ∨ ((x &&& (7 : Int32)) % (5 : Int32)) = 1 ∨ ((x &&& (7 : Int32)) % (5 : Int32)) = 2 ∨ ((x &&& (7 : Int32)) % (5 : Int32)) = 3 ∨ ((x &&& (7 : Int32)) % (5 : Int32)) = 4 := by
  have e1 : (x &&& (7 : Int32)).toInt = x.toInt % (2 ^ 3 : Nat) := c_mask x 7 3 (by decide) (by decide)
  have k : (5 : Int32).toInt = 5 := by decide
  have e2 := (c_irem (x &&& (7 : Int32)) 5 5 k).1 (by omega)
  have q : ∀ (y : Int32) (i : Int), y.toInt = i → y = Int32.ofInt i := fun y i h => by rw [← h, Int32.ofInt_toInt]
  generalize ((x &&& (7 : Int32)) % (5 : Int32)) = n at *
  have r : n.toInt = 0 ∨ n.toInt = 1 ∨ n.toInt = 2 ∨ n.toInt = 3 ∨ n.toInt = 4 := by omega
  rcases r with r | r | r | r | r
  · left; exact q _ _ r
  · right; left; exact q _ _ r
  · right; right; left; exact q _ _ r
  · right; right; right; left; exact q _ _ r
  · right; right; right; right; exact q _ _ r
theorem d1N_0 : decode prog_95_method_2_code 0 = .ok (.aload_n 0, 1) := by decide +kernel
theorem d1N_1 : decode prog_95_method_2_code 1 = .ok (.invokespecial 7, 3) := by decide +kernel
theorem d1N_4 : decode prog_95_method_2_code 4 = .ok (.aload_n 0, 1) := by decide +kernel
theorem d1N_5 : decode prog_95_method_2_code 5 = .ok (.iconst 1, 1) := by decide +kernel
theorem d1N_6 : decode prog_95_method_2_code 6 = .ok (.putfield 12, 3) := by decide +kernel
theorem d1N_9 : decode prog_95_method_2_code 9 = .ok (.aload_n 0, 1) := by decide +kernel
theorem d1N_10 : decode prog_95_method_2_code 10 = .ok (.bipush 16, 2) := by decide +kernel
theorem d1N_12 : decode prog_95_method_2_code 12 = .ok (.newarray .int, 2) := by decide +kernel
theorem d1N_14 : decode prog_95_method_2_code 14 = .ok (.putfield 16, 3) := by decide +kernel
theorem d1N_17 : decode prog_95_method_2_code 17 = .ok (.aload_n 0, 1) := by decide +kernel
theorem d1N_18 : decode prog_95_method_2_code 18 = .ok (.iload_n 1, 1) := by decide +kernel
theorem d1N_19 : decode prog_95_method_2_code 19 = .ok (.putfield 20, 3) := by decide +kernel
theorem d1N_22 : decode prog_95_method_2_code 22 = .ok (.aload_n 0, 1) := by decide +kernel
theorem d1N_23 : decode prog_95_method_2_code 23 = .ok (.iload_n 2, 1) := by decide +kernel
theorem d1N_24 : decode prog_95_method_2_code 24 = .ok (.ifCond .eq 7, 3) := by decide +kernel
theorem d1N_31 : decode prog_95_method_2_code 31 = .ok (.bipush 16, 2) := by decide +kernel
theorem d1N_33 : decode prog_95_method_2_code 33 = .ok (.newarray .int, 2) := by decide +kernel
theorem d1N_35 : decode prog_95_method_2_code 35 = .ok (.putfield 23, 3) := by decide +kernel
theorem d1N_38 : decode prog_95_method_2_code 38 = .ok (.aload_n 0, 1) := by decide +kernel
theorem d1N_39 : decode prog_95_method_2_code 39 = .ok (.iload_n 2, 1) := by decide +kernel
theorem d1N_40 : decode prog_95_method_2_code 40 = .ok (.ifCond .eq 7, 3) := by decide +kernel
theorem d1N_47 : decode prog_95_method_2_code 47 = .ok (.iload_n 1, 1) := by decide +kernel
theorem d1N_48 : decode prog_95_method_2_code 48 = .ok (.newarray .char, 2) := by decide +kernel
theorem d1N_50 : decode prog_95_method_2_code 50 = .ok (.putfield 26, 3) := by decide +kernel
theorem d1N_53 : decode prog_95_method_2_code 53 = .ok (.aload_n 0, 1) := by decide +kernel
theorem d1N_54 : decode prog_95_method_2_code 54 = .ok (.iload_n 2, 1) := by decide +kernel
theorem d1N_55 : decode prog_95_method_2_code 55 = .ok (.ifCond .eq 15, 3) := by decide +kernel
theorem d1N_70 : decode prog_95_method_2_code 70 = .ok (.aconst_null, 1) := by decide +kernel
theorem d1N_71 : decode prog_95_method_2_code 71 = .ok (.putfield 30, 3) := by decide +kernel
theorem d1N_74 : decode prog_95_method_2_code 74 = .ok (.aload_n 0, 1) := by decide +kernel
theorem d1N_75 : decode prog_95_method_2_code 75 = .ok (.iload_n 2, 1) := by decide +kernel
theorem d1N_76 : decode prog_95_method_2_code 76 = .ok (.ifCond .eq 10, 3) := by decide +kernel
theorem d1N_86 : decode prog_95_method_2_code 86 = .ok (.aconst_null, 1) := by decide +kernel
theorem d1N_87 : decode prog_95_method_2_code 87 = .ok (.putfield 34, 3) := by decide +kernel
theorem d1N_90 : decode prog_95_method_2_code 90 = .ok (.return_, 1) := by decide +kernel
theorem pn_1N : plainName "com/example/libfacet/libfacet/regex/StateSet" = true := by first | (simp [plainName, overriddenIn]; done) | decide +kernel
theorem ef_1N (m : MethodId) (x0 : Addr) (x1 : Int32) (x2 : Int32) : entryFrame m #[(.ref x0), (.int x1), (.int x2)] 3 = mkF m 0 #[.val (.ref x0), .val (.int x1), .val (.int x2)] [] := by first | (simp [entryFrame, mkF, argsToLocals, Value.category]; done) | rfl
def Q1N (Z : State) (a1 : Addr) (v1 : Int32) (v2 : Int32) (v3 : Int32) (h0 : Heap) (n0 : Nat) (v : Option Value) (h : Heap) (L : List Loc) : Prop := v = none ∧ Fr n0 L ∧ (∃ am : Addr, Keep h0 h [a1] ∧ own_ObjN Z h a1 am v3 ∧ h0.size ≤ am ∧ own_Arr Z h am .int (16 : Int32) (fun i => Value.int ((fun _ => (0 : Int32)) i)))
set_option maxRecDepth 65536 in
set_option maxHeartbeats 40000000 in
theorem rm1N (l : Launch) (Z : State) (a0 : Array Value) (hw : ∀ d ∈ tables_1, d.before a0 Z = true) (ws : List Jvm.Cond) (a1 : Addr) (v1 : Int32) (v2 : Int32) (v3 : Int32) (h0 : Heap) (n0 : Nat) (Z0 : n0 ≤ h0.size) (O_a1 : own_Obj0 Z h0 a1 v1 v2 v3) (g_a1 : n0 ≤ a1) :
    MetFree l (⟨"com/example/libfacet/libfacet/regex/StateSet", "<init>", "(IZ)V"⟩ : MethodName) (head1 (Jvm.Cond.code (⟨"com/example/libfacet/libfacet/regex/StateSet", "<init>", "(IZ)V"⟩ : MethodName) prog_95_method_2_code 3 none :: ws) ({ frames := 1, cells := 3, slots := 36, locals := 12 } : Room)) (fun a U => a = #[(.ref a1), (.int (4 : Int32)), (.int (0 : Int32))] ∧ Z.Warmed39 U.vm ∧ U.heap = h0) (fun _ _ _ _ _ => True) (fun _ U o U' => ∃ v L, o = .returned v ∧ Q1N Z a1 v1 v2 v3 h0 n0 v U'.heap L ∧ FrameEnd U o U' L ({ frames := 1, cells := 3, slots := 36, locals := 12 } : Room).cells ({ frames := 1, cells := 3, slots := 36, locals := 12 } : Room).slots) := by
  refine MetFree.of_bodySF (plainFor_of_name pn_1N) hisR ?_
  intro p e s m args below meth c s₁ Bd hml0 hP hK
  obtain ⟨rfl, hZ, hh⟩ := hP
  have hx := Bd.exec
  have hby := Bd.bytes
  have hml : c.maxLocals = 3 := hml0
  have hown : s.vm.findClass "com/example/libfacet/libfacet/regex/StateSet" = some m.cls := findClass_of_methodNamed Bd.named
  have hnm := (name_of_methodNamed Bd.named Bd.method).1
  have X0 : Stand p l e ({ frames := 1, cells := 3, slots := 36, locals := 12 } : Room) s m #[(.ref a1), (.int (4 : Int32)), (.int (0 : Int32))] below meth c s₁ [] 0 0 := Stand.of_body Bd
  have e0 : s₁.heap = h0 := by rw [← hh, Bd.state]; rfl
  have N0 := Fr.nil n0
  show own_End p e below s (s₁.setTop (entryFrame m #[(.ref a1), (.int (4 : Int32)), (.int (0 : Int32))] 3)) (Q1N Z a1 v1 v2 v3 h0 n0) ({ frames := 1, cells := 3, slots := 36, locals := 12 } : Room).cells ({ frames := 1, cells := 3, slots := 36, locals := 12 } : Room).slots
  obtain ⟨E_a1_1, F_stamp_a1_2, F_stack_a1_3, F_instructions_a1_4, F_members_a1_5, F_marks_a1_6, F_markBits_a1_7, F_marked_a1_8, F_size_a1_9⟩ := O_a1
  refine own_pre (A := s₁.setTop (mkF m 0 #[.val (.ref a1), .val (.int (4 : Int32)), .val (.int (0 : Int32))] [])) (fun tt kt => castTop (ef_1N m a1 (4 : Int32) (0 : Int32)) kt) ?_
  show own_End p e below s (s₁.setTop (mkF m 0 #[.val (.ref a1), .val (.int (4 : Int32)), .val (.int (0 : Int32))] [])) (Q1N Z a1 v1 v2 v3 h0 n0) ({ frames := 1, cells := 3, slots := 36, locals := 12 } : Room).cells ({ frames := 1, cells := 3, slots := 36, locals := 12 } : Room).slots
  obtain ⟨T10, X10, e10, st10⟩ := initO X0 hx hZ hown (hw _ (List.mem_of_getElem? (i := 6) rfl)) (hw _ (List.mem_of_getElem? (i := 7) rfl)) (hw _ (List.mem_of_getElem? (i := 8) rfl)) e0 (g := (mkF m 1 #[.val (.ref a1), .val (.int (4 : Int32)), .val (.int (0 : Int32))] [(.ref a1)])) rfl (by rw [hml]; rfl) rfl (hb hby d1N_1) (by decide) (W := 0) (by show 2 * 0 + _ ≤ _; exact Nat.le_of_eq rfl) (by decide)
  obtain ⟨T11, h11, X11, e11, W11, st11⟩ := putF X10 hx hZ hown (host := "") (Or.inl (hw _ (List.mem_of_getElem? (i := 9) rfl))) Via.refl e10 F_stamp_a1_2 E_a1_1 (Or.inl (hw _ (List.mem_of_getElem? (i := 10) rfl))) (hw _ (List.mem_of_getElem? (i := 1) rfl)) (ty := .int) (by decide) rfl rfl (g := (mkF m 6 #[.val (.ref a1), .val (.int (4 : Int32)), .val (.int (0 : Int32))] [(.int (1 : Int32)), (.ref a1)])) rfl rfl (hb hby d1N_6)
  have Fw11 := Fld.same W11 F_stamp_a1_2
  have fE_a1_x11 := (E_a1_1.wr W11)
  have fF_a1_stack_x11 := (Fld.other W11 F_stack_a1_3 (Or.inr (slot_ne (Or.inl (hw _ (List.mem_of_getElem? (i := 13) rfl))) (Or.inl (hw _ (List.mem_of_getElem? (i := 10) rfl))) (by decide) (t := (.array .int)) (t' := .int) (by decide) (by decide))))
  have fF_a1_instructions_x11 := (Fld.other W11 F_instructions_a1_4 (Or.inr (slot_ne (Or.inr (hw _ (List.mem_of_getElem? (i := 15) rfl))) (Or.inl (hw _ (List.mem_of_getElem? (i := 10) rfl))) (by decide) (t := .int) (t' := .int) (by decide) (by decide))))
  have fF_a1_members_x11 := (Fld.other W11 F_members_a1_5 (Or.inr (slot_ne (Or.inl (hw _ (List.mem_of_getElem? (i := 17) rfl))) (Or.inl (hw _ (List.mem_of_getElem? (i := 10) rfl))) (by decide) (t := (.array .int)) (t' := .int) (by decide) (by decide))))
  have fF_a1_marks_x11 := (Fld.other W11 F_marks_a1_6 (Or.inr (slot_ne (Or.inr (hw _ (List.mem_of_getElem? (i := 20) rfl))) (Or.inl (hw _ (List.mem_of_getElem? (i := 10) rfl))) (by decide) (t := (.array .char)) (t' := .int) (by decide) (by decide))))
  have fF_a1_markBits_x11 := (Fld.other W11 F_markBits_a1_7 (Or.inr (slot_ne (Or.inr (hw _ (List.mem_of_getElem? (i := 22) rfl))) (Or.inl (hw _ (List.mem_of_getElem? (i := 10) rfl))) (by decide) (t := (.array .long)) (t' := .int) (by decide) (by decide))))
  have fF_a1_marked_x11 := (Fld.other W11 F_marked_a1_8 (Or.inr (slot_ne (Or.inl (hw _ (List.mem_of_getElem? (i := 24) rfl))) (Or.inl (hw _ (List.mem_of_getElem? (i := 10) rfl))) (by decide) (t := (.array .int)) (t' := .int) (by decide) (by decide))))
  have fF_a1_size_x11 := (Fld.other W11 F_size_a1_9 (Or.inr (slot_ne (Or.inl (hw _ (List.mem_of_getElem? (i := 31) rfl))) (Or.inl (hw _ (List.mem_of_getElem? (i := 10) rfl))) (by decide) (t := .int) (t' := .int) (by decide) (by decide))))
  have N11 := Fr.snoc X11 N0 g_a1
  have K11 : Keep h0 h11 [a1] := Keep.wr (Keep.refl h0 _) W11 (Or.inl (List.mem_of_getElem? (i := 0) rfl))
  have Z11 : n0 ≤ h11.size := Nat.le_trans Z0 (Nat.le_of_eq W11.size.symm)
  obtain ⟨T12, h12, k12, X12, e12, E12, A12, st12⟩ := newP X11 hx hZ (hw _ (List.mem_of_getElem? (i := 11) rfl)) e11 (g := (mkF m 12 #[.val (.ref a1), .val (.int (4 : Int32)), .val (.int (0 : Int32))] [(.int (16 : Int32)), (.ref a1)])) rfl (hb hby d1N_12) rfl (by decide) (cap := 16) (by decide) (by decide) (by decide) (by decide)
  obtain ⟨b12, g12⟩ : ∃ z, z = h11.size := ⟨_, rfl⟩
  rw [← g12] at A12 st12
  have ne_a1_b12 : a1 ≠ b12 := Nat.ne_of_lt (Nat.lt_of_lt_of_le fE_a1_x11.lt (Nat.le_of_eq g12.symm))
  have g_b12 : n0 ≤ b12 := Nat.le_trans Z11 (Nat.le_of_eq g12.symm)
  have sz_b12 : h0.size ≤ b12 := Nat.le_trans (show Keep h0 h11 [a1] from K11).1 (Nat.le_of_eq g12.symm)
  have fE_a1_x12 := (fE_a1_x11.ext E12)
  have fF_a1_stamp_x12 := (Fw11.ext E12)
  have fF_a1_stack_x12 := (fF_a1_stack_x11.ext E12)
  have fF_a1_instructions_x12 := (fF_a1_instructions_x11.ext E12)
  have fF_a1_members_x12 := (fF_a1_members_x11.ext E12)
  have fF_a1_marks_x12 := (fF_a1_marks_x11.ext E12)
  have fF_a1_markBits_x12 := (fF_a1_markBits_x11.ext E12)
  have fF_a1_marked_x12 := (fF_a1_marked_x11.ext E12)
  have fF_a1_size_x12 := (fF_a1_size_x11.ext E12)
  have K12 : Keep h0 h12 [a1] := Keep.ext K11 E12
  have Z12 : n0 ≤ h12.size := Nat.le_trans Z11 E12.1
  have V12 : own_Arr Z h12 b12 .int (16 : Int32) (fun i => Value.int ((fun _ => (0 : Int32)) i)) := own_Arr.new A12 (by decide) (fun _ => rfl)
  obtain ⟨T13, h13, X13, e13, W13, st13⟩ := putF X12 hx hZ hown (host := "") (Or.inl (hw _ (List.mem_of_getElem? (i := 12) rfl))) Via.refl e12 fF_a1_stack_x12 fE_a1_x12 (Or.inl (hw _ (List.mem_of_getElem? (i := 13) rfl))) (hw _ (List.mem_of_getElem? (i := 1) rfl)) (ty := (.array .int)) (by decide) rfl rfl (g := (mkF m 14 #[.val (.ref a1), .val (.int (4 : Int32)), .val (.int (0 : Int32))] [(.ref b12), (.ref a1)])) rfl rfl (hb hby d1N_14)
  have Fw13 := Fld.same W13 fF_a1_stack_x12
  have fE_a1_x13 := (fE_a1_x12.wr W13)
  have fF_a1_stamp_x13 := (Fld.other W13 fF_a1_stamp_x12 (Or.inr (slot_ne (Or.inl (hw _ (List.mem_of_getElem? (i := 10) rfl))) (Or.inl (hw _ (List.mem_of_getElem? (i := 13) rfl))) (by decide) (t := .int) (t' := (.array .int)) (by decide) (by decide))))
  have fF_a1_instructions_x13 := (Fld.other W13 fF_a1_instructions_x12 (Or.inr (slot_ne (Or.inr (hw _ (List.mem_of_getElem? (i := 15) rfl))) (Or.inl (hw _ (List.mem_of_getElem? (i := 13) rfl))) (by decide) (t := .int) (t' := (.array .int)) (by decide) (by decide))))
  have fF_a1_members_x13 := (Fld.other W13 fF_a1_members_x12 (Or.inr (slot_ne (Or.inl (hw _ (List.mem_of_getElem? (i := 17) rfl))) (Or.inl (hw _ (List.mem_of_getElem? (i := 13) rfl))) (by decide) (t := (.array .int)) (t' := (.array .int)) (by decide) (by decide))))
  have fF_a1_marks_x13 := (Fld.other W13 fF_a1_marks_x12 (Or.inr (slot_ne (Or.inr (hw _ (List.mem_of_getElem? (i := 20) rfl))) (Or.inl (hw _ (List.mem_of_getElem? (i := 13) rfl))) (by decide) (t := (.array .char)) (t' := (.array .int)) (by decide) (by decide))))
  have fF_a1_markBits_x13 := (Fld.other W13 fF_a1_markBits_x12 (Or.inr (slot_ne (Or.inr (hw _ (List.mem_of_getElem? (i := 22) rfl))) (Or.inl (hw _ (List.mem_of_getElem? (i := 13) rfl))) (by decide) (t := (.array .long)) (t' := (.array .int)) (by decide) (by decide))))
  have fF_a1_marked_x13 := (Fld.other W13 fF_a1_marked_x12 (Or.inr (slot_ne (Or.inl (hw _ (List.mem_of_getElem? (i := 24) rfl))) (Or.inl (hw _ (List.mem_of_getElem? (i := 13) rfl))) (by decide) (t := (.array .int)) (t' := (.array .int)) (by decide) (by decide))))
  have fF_a1_size_x13 := (Fld.other W13 fF_a1_size_x12 (Or.inr (slot_ne (Or.inl (hw _ (List.mem_of_getElem? (i := 31) rfl))) (Or.inl (hw _ (List.mem_of_getElem? (i := 13) rfl))) (by decide) (t := .int) (t' := (.array .int)) (by decide) (by decide))))
  have fA_b12_x13 := (V12.other W13 (Ne.symm ne_a1_b12))
  have N13 := Fr.snoc X13 N11 g_a1
  have K13 : Keep h0 h13 [a1] := Keep.wr K12 W13 (Or.inl (List.mem_of_getElem? (i := 0) rfl))
  have Z13 : n0 ≤ h13.size := Nat.le_trans Z12 (Nat.le_of_eq W13.size.symm)
  obtain ⟨T14, h14, X14, e14, W14, st14⟩ := putF X13 hx hZ hown (host := "") (Or.inl (hw _ (List.mem_of_getElem? (i := 14) rfl))) Via.refl e13 fF_a1_instructions_x13 fE_a1_x13 (Or.inr ⟨(hw _ (List.mem_of_getElem? (i := 15) rfl)), rfl, hnm⟩) (hw _ (List.mem_of_getElem? (i := 1) rfl)) (ty := .int) (by decide) rfl rfl (g := (mkF m 19 #[.val (.ref a1), .val (.int (4 : Int32)), .val (.int (0 : Int32))] [(.int (4 : Int32)), (.ref a1)])) rfl rfl (hb hby d1N_19)
  have Fw14 := Fld.same W14 fF_a1_instructions_x13
  have fE_a1_x14 := (fE_a1_x13.wr W14)
  have fF_a1_stamp_x14 := (Fld.other W14 fF_a1_stamp_x13 (Or.inr (slot_ne (Or.inl (hw _ (List.mem_of_getElem? (i := 10) rfl))) (Or.inr (hw _ (List.mem_of_getElem? (i := 15) rfl))) (by decide) (t := .int) (t' := .int) (by decide) (by decide))))
  have fF_a1_stack_x14 := (Fld.other W14 Fw13 (Or.inr (slot_ne (Or.inl (hw _ (List.mem_of_getElem? (i := 13) rfl))) (Or.inr (hw _ (List.mem_of_getElem? (i := 15) rfl))) (by decide) (t := (.array .int)) (t' := .int) (by decide) (by decide))))
  have fF_a1_members_x14 := (Fld.other W14 fF_a1_members_x13 (Or.inr (slot_ne (Or.inl (hw _ (List.mem_of_getElem? (i := 17) rfl))) (Or.inr (hw _ (List.mem_of_getElem? (i := 15) rfl))) (by decide) (t := (.array .int)) (t' := .int) (by decide) (by decide))))
  have fF_a1_marks_x14 := (Fld.other W14 fF_a1_marks_x13 (Or.inr (slot_ne (Or.inr (hw _ (List.mem_of_getElem? (i := 20) rfl))) (Or.inr (hw _ (List.mem_of_getElem? (i := 15) rfl))) (by decide) (t := (.array .char)) (t' := .int) (by decide) (by decide))))
  have fF_a1_markBits_x14 := (Fld.other W14 fF_a1_markBits_x13 (Or.inr (slot_ne (Or.inr (hw _ (List.mem_of_getElem? (i := 22) rfl))) (Or.inr (hw _ (List.mem_of_getElem? (i := 15) rfl))) (by decide) (t := (.array .long)) (t' := .int) (by decide) (by decide))))
  have fF_a1_marked_x14 := (Fld.other W14 fF_a1_marked_x13 (Or.inr (slot_ne (Or.inl (hw _ (List.mem_of_getElem? (i := 24) rfl))) (Or.inr (hw _ (List.mem_of_getElem? (i := 15) rfl))) (by decide) (t := (.array .int)) (t' := .int) (by decide) (by decide))))
  have fF_a1_size_x14 := (Fld.other W14 fF_a1_size_x13 (Or.inr (slot_ne (Or.inl (hw _ (List.mem_of_getElem? (i := 31) rfl))) (Or.inr (hw _ (List.mem_of_getElem? (i := 15) rfl))) (by decide) (t := .int) (t' := .int) (by decide) (by decide))))
  have fA_b12_x14 := (fA_b12_x13.other W14 (Ne.symm ne_a1_b12))
  have N14 := Fr.snoc X14 N13 g_a1
  have K14 : Keep h0 h14 [a1] := Keep.wr K13 W14 (Or.inl (List.mem_of_getElem? (i := 0) rfl))
  have Z14 : n0 ≤ h14.size := Nat.le_trans Z13 (Nat.le_of_eq W14.size.symm)
  obtain ⟨T15, h15, k15, X15, e15, E15, A15, st15⟩ := newP X14 hx hZ (hw _ (List.mem_of_getElem? (i := 11) rfl)) e14 (g := (mkF m 33 #[.val (.ref a1), .val (.int (4 : Int32)), .val (.int (0 : Int32))] [(.int (16 : Int32)), (.ref a1)])) rfl (hb hby d1N_33) rfl (by decide) (cap := 16) (by decide) (by decide) (by decide) (by decide)
  obtain ⟨b15, g15⟩ : ∃ z, z = h14.size := ⟨_, rfl⟩
  rw [← g15] at A15 st15
  have ne_a1_b15 : a1 ≠ b15 := Nat.ne_of_lt (Nat.lt_of_lt_of_le fE_a1_x14.lt (Nat.le_of_eq g15.symm))
  have ne_b12_b15 : b12 ≠ b15 := Nat.ne_of_lt (Nat.lt_of_lt_of_le fA_b12_x14.lt (Nat.le_of_eq g15.symm))
  have g_b15 : n0 ≤ b15 := Nat.le_trans Z14 (Nat.le_of_eq g15.symm)
  have sz_b15 : h0.size ≤ b15 := Nat.le_trans (show Keep h0 h14 [a1] from K14).1 (Nat.le_of_eq g15.symm)
  have fE_a1_x15 := (fE_a1_x14.ext E15)
  have fF_a1_stamp_x15 := (fF_a1_stamp_x14.ext E15)
  have fF_a1_stack_x15 := (fF_a1_stack_x14.ext E15)
  have fF_a1_instructions_x15 := (Fw14.ext E15)
  have fF_a1_members_x15 := (fF_a1_members_x14.ext E15)
  have fF_a1_marks_x15 := (fF_a1_marks_x14.ext E15)
  have fF_a1_markBits_x15 := (fF_a1_markBits_x14.ext E15)
  have fF_a1_marked_x15 := (fF_a1_marked_x14.ext E15)
  have fF_a1_size_x15 := (fF_a1_size_x14.ext E15)
  have fA_b12_x15 := (fA_b12_x14.ext E15)
  have K15 : Keep h0 h15 [a1] := Keep.ext K14 E15
  have Z15 : n0 ≤ h15.size := Nat.le_trans Z14 E15.1
  have V15 : own_Arr Z h15 b15 .int (16 : Int32) (fun i => Value.int ((fun _ => (0 : Int32)) i)) := own_Arr.new A15 (by decide) (fun _ => rfl)
  obtain ⟨T16, h16, X16, e16, W16, st16⟩ := putF X15 hx hZ hown (host := "") (Or.inl (hw _ (List.mem_of_getElem? (i := 16) rfl))) Via.refl e15 fF_a1_members_x15 fE_a1_x15 (Or.inl (hw _ (List.mem_of_getElem? (i := 17) rfl))) (hw _ (List.mem_of_getElem? (i := 1) rfl)) (ty := (.array .int)) (by decide) rfl rfl (g := (mkF m 35 #[.val (.ref a1), .val (.int (4 : Int32)), .val (.int (0 : Int32))] [(.ref b15), (.ref a1)])) rfl rfl (hb hby d1N_35)
  have Fw16 := Fld.same W16 fF_a1_members_x15
  have fE_a1_x16 := (fE_a1_x15.wr W16)
  have fF_a1_stamp_x16 := (Fld.other W16 fF_a1_stamp_x15 (Or.inr (slot_ne (Or.inl (hw _ (List.mem_of_getElem? (i := 10) rfl))) (Or.inl (hw _ (List.mem_of_getElem? (i := 17) rfl))) (by decide) (t := .int) (t' := (.array .int)) (by decide) (by decide))))
  have fF_a1_stack_x16 := (Fld.other W16 fF_a1_stack_x15 (Or.inr (slot_ne (Or.inl (hw _ (List.mem_of_getElem? (i := 13) rfl))) (Or.inl (hw _ (List.mem_of_getElem? (i := 17) rfl))) (by decide) (t := (.array .int)) (t' := (.array .int)) (by decide) (by decide))))
  have fF_a1_instructions_x16 := (Fld.other W16 fF_a1_instructions_x15 (Or.inr (slot_ne (Or.inr (hw _ (List.mem_of_getElem? (i := 15) rfl))) (Or.inl (hw _ (List.mem_of_getElem? (i := 17) rfl))) (by decide) (t := .int) (t' := (.array .int)) (by decide) (by decide))))
  have fF_a1_marks_x16 := (Fld.other W16 fF_a1_marks_x15 (Or.inr (slot_ne (Or.inr (hw _ (List.mem_of_getElem? (i := 20) rfl))) (Or.inl (hw _ (List.mem_of_getElem? (i := 17) rfl))) (by decide) (t := (.array .char)) (t' := (.array .int)) (by decide) (by decide))))
  have fF_a1_markBits_x16 := (Fld.other W16 fF_a1_markBits_x15 (Or.inr (slot_ne (Or.inr (hw _ (List.mem_of_getElem? (i := 22) rfl))) (Or.inl (hw _ (List.mem_of_getElem? (i := 17) rfl))) (by decide) (t := (.array .long)) (t' := (.array .int)) (by decide) (by decide))))
  have fF_a1_marked_x16 := (Fld.other W16 fF_a1_marked_x15 (Or.inr (slot_ne (Or.inl (hw _ (List.mem_of_getElem? (i := 24) rfl))) (Or.inl (hw _ (List.mem_of_getElem? (i := 17) rfl))) (by decide) (t := (.array .int)) (t' := (.array .int)) (by decide) (by decide))))
  have fF_a1_size_x16 := (Fld.other W16 fF_a1_size_x15 (Or.inr (slot_ne (Or.inl (hw _ (List.mem_of_getElem? (i := 31) rfl))) (Or.inl (hw _ (List.mem_of_getElem? (i := 17) rfl))) (by decide) (t := .int) (t' := (.array .int)) (by decide) (by decide))))
  have fA_b12_x16 := (fA_b12_x15.other W16 (Ne.symm ne_a1_b12))
  have fA_b15_x16 := (V15.other W16 (Ne.symm ne_a1_b15))
  have N16 := Fr.snoc X16 N14 g_a1
  have K16 : Keep h0 h16 [a1] := Keep.wr K15 W16 (Or.inl (List.mem_of_getElem? (i := 0) rfl))
  have Z16 : n0 ≤ h16.size := Nat.le_trans Z15 (Nat.le_of_eq W16.size.symm)
  obtain ⟨T17, h17, k17, X17, e17, E17, A17, st17⟩ := newP X16 hx hZ (hw _ (List.mem_of_getElem? (i := 18) rfl)) e16 (g := (mkF m 48 #[.val (.ref a1), .val (.int (4 : Int32)), .val (.int (0 : Int32))] [(.int (4 : Int32)), (.ref a1)])) rfl (hb hby d1N_48) rfl (by decide) (cap := 4) (by decide) (by decide) (by decide) (by decide)
  obtain ⟨b17, g17⟩ : ∃ z, z = h16.size := ⟨_, rfl⟩
  rw [← g17] at A17 st17
  have ne_a1_b17 : a1 ≠ b17 := Nat.ne_of_lt (Nat.lt_of_lt_of_le fE_a1_x16.lt (Nat.le_of_eq g17.symm))
  have ne_b15_b17 : b15 ≠ b17 := Nat.ne_of_lt (Nat.lt_of_lt_of_le fA_b15_x16.lt (Nat.le_of_eq g17.symm))
  have ne_b12_b17 : b12 ≠ b17 := Nat.ne_of_lt (Nat.lt_of_lt_of_le fA_b12_x16.lt (Nat.le_of_eq g17.symm))
  have g_b17 : n0 ≤ b17 := Nat.le_trans Z16 (Nat.le_of_eq g17.symm)
  have sz_b17 : h0.size ≤ b17 := Nat.le_trans (show Keep h0 h16 [a1] from K16).1 (Nat.le_of_eq g17.symm)
  have fE_a1_x17 := (fE_a1_x16.ext E17)
  have fF_a1_stamp_x17 := (fF_a1_stamp_x16.ext E17)
  have fF_a1_stack_x17 := (fF_a1_stack_x16.ext E17)
  have fF_a1_instructions_x17 := (fF_a1_instructions_x16.ext E17)
  have fF_a1_members_x17 := (Fw16.ext E17)
  have fF_a1_marks_x17 := (fF_a1_marks_x16.ext E17)
  have fF_a1_markBits_x17 := (fF_a1_markBits_x16.ext E17)
  have fF_a1_marked_x17 := (fF_a1_marked_x16.ext E17)
  have fF_a1_size_x17 := (fF_a1_size_x16.ext E17)
  have fA_b12_x17 := (fA_b12_x16.ext E17)
  have fA_b15_x17 := (fA_b15_x16.ext E17)
  have K17 : Keep h0 h17 [a1] := Keep.ext K16 E17
  have Z17 : n0 ≤ h17.size := Nat.le_trans Z16 E17.1
  have V17 : own_Arr Z h17 b17 .char (4 : Int32) (fun i => Value.int ((fun _ => (0 : Int32)) i)) := own_Arr.new A17 (by decide) (fun _ => rfl)
  obtain ⟨T18, h18, X18, e18, W18, st18⟩ := putF X17 hx hZ hown (host := "") (Or.inl (hw _ (List.mem_of_getElem? (i := 19) rfl))) Via.refl e17 fF_a1_marks_x17 fE_a1_x17 (Or.inr ⟨(hw _ (List.mem_of_getElem? (i := 20) rfl)), rfl, hnm⟩) (hw _ (List.mem_of_getElem? (i := 1) rfl)) (ty := (.array .char)) (by decide) rfl rfl (g := (mkF m 50 #[.val (.ref a1), .val (.int (4 : Int32)), .val (.int (0 : Int32))] [(.ref b17), (.ref a1)])) rfl rfl (hb hby d1N_50)
  have Fw18 := Fld.same W18 fF_a1_marks_x17
  have fE_a1_x18 := (fE_a1_x17.wr W18)
  have fF_a1_stamp_x18 := (Fld.other W18 fF_a1_stamp_x17 (Or.inr (slot_ne (Or.inl (hw _ (List.mem_of_getElem? (i := 10) rfl))) (Or.inr (hw _ (List.mem_of_getElem? (i := 20) rfl))) (by decide) (t := .int) (t' := (.array .char)) (by decide) (by decide))))
  have fF_a1_stack_x18 := (Fld.other W18 fF_a1_stack_x17 (Or.inr (slot_ne (Or.inl (hw _ (List.mem_of_getElem? (i := 13) rfl))) (Or.inr (hw _ (List.mem_of_getElem? (i := 20) rfl))) (by decide) (t := (.array .int)) (t' := (.array .char)) (by decide) (by decide))))
  have fF_a1_instructions_x18 := (Fld.other W18 fF_a1_instructions_x17 (Or.inr (slot_ne (Or.inr (hw _ (List.mem_of_getElem? (i := 15) rfl))) (Or.inr (hw _ (List.mem_of_getElem? (i := 20) rfl))) (by decide) (t := .int) (t' := (.array .char)) (by decide) (by decide))))
  have fF_a1_members_x18 := (Fld.other W18 fF_a1_members_x17 (Or.inr (slot_ne (Or.inl (hw _ (List.mem_of_getElem? (i := 17) rfl))) (Or.inr (hw _ (List.mem_of_getElem? (i := 20) rfl))) (by decide) (t := (.array .int)) (t' := (.array .char)) (by decide) (by decide))))
  have fF_a1_markBits_x18 := (Fld.other W18 fF_a1_markBits_x17 (Or.inr (slot_ne (Or.inr (hw _ (List.mem_of_getElem? (i := 22) rfl))) (Or.inr (hw _ (List.mem_of_getElem? (i := 20) rfl))) (by decide) (t := (.array .long)) (t' := (.array .char)) (by decide) (by decide))))
  have fF_a1_marked_x18 := (Fld.other W18 fF_a1_marked_x17 (Or.inr (slot_ne (Or.inl (hw _ (List.mem_of_getElem? (i := 24) rfl))) (Or.inr (hw _ (List.mem_of_getElem? (i := 20) rfl))) (by decide) (t := (.array .int)) (t' := (.array .char)) (by decide) (by decide))))
  have fF_a1_size_x18 := (Fld.other W18 fF_a1_size_x17 (Or.inr (slot_ne (Or.inl (hw _ (List.mem_of_getElem? (i := 31) rfl))) (Or.inr (hw _ (List.mem_of_getElem? (i := 20) rfl))) (by decide) (t := .int) (t' := (.array .char)) (by decide) (by decide))))
  have fA_b12_x18 := (fA_b12_x17.other W18 (Ne.symm ne_a1_b12))
  have fA_b15_x18 := (fA_b15_x17.other W18 (Ne.symm ne_a1_b15))
  have fA_b17_x18 := (V17.other W18 (Ne.symm ne_a1_b17))
  have N18 := Fr.snoc X18 N16 g_a1
  have K18 : Keep h0 h18 [a1] := Keep.wr K17 W18 (Or.inl (List.mem_of_getElem? (i := 0) rfl))
  have Z18 : n0 ≤ h18.size := Nat.le_trans Z17 (Nat.le_of_eq W18.size.symm)
  obtain ⟨T19, h19, X19, e19, W19, st19⟩ := putF X18 hx hZ hown (host := "") (Or.inl (hw _ (List.mem_of_getElem? (i := 21) rfl))) Via.refl e18 fF_a1_markBits_x18 fE_a1_x18 (Or.inr ⟨(hw _ (List.mem_of_getElem? (i := 22) rfl)), rfl, hnm⟩) (hw _ (List.mem_of_getElem? (i := 1) rfl)) (ty := (.array .long)) (by decide) rfl rfl (g := (mkF m 71 #[.val (.ref a1), .val (.int (4 : Int32)), .val (.int (0 : Int32))] [.null, (.ref a1)])) rfl rfl (hb hby d1N_71)
  have Fw19 := Fld.same W19 fF_a1_markBits_x18
  have fE_a1_x19 := (fE_a1_x18.wr W19)
  have fF_a1_stamp_x19 := (Fld.other W19 fF_a1_stamp_x18 (Or.inr (slot_ne (Or.inl (hw _ (List.mem_of_getElem? (i := 10) rfl))) (Or.inr (hw _ (List.mem_of_getElem? (i := 22) rfl))) (by decide) (t := .int) (t' := (.array .long)) (by decide) (by decide))))
  have fF_a1_stack_x19 := (Fld.other W19 fF_a1_stack_x18 (Or.inr (slot_ne (Or.inl (hw _ (List.mem_of_getElem? (i := 13) rfl))) (Or.inr (hw _ (List.mem_of_getElem? (i := 22) rfl))) (by decide) (t := (.array .int)) (t' := (.array .long)) (by decide) (by decide))))
  have fF_a1_instructions_x19 := (Fld.other W19 fF_a1_instructions_x18 (Or.inr (slot_ne (Or.inr (hw _ (List.mem_of_getElem? (i := 15) rfl))) (Or.inr (hw _ (List.mem_of_getElem? (i := 22) rfl))) (by decide) (t := .int) (t' := (.array .long)) (by decide) (by decide))))
  have fF_a1_members_x19 := (Fld.other W19 fF_a1_members_x18 (Or.inr (slot_ne (Or.inl (hw _ (List.mem_of_getElem? (i := 17) rfl))) (Or.inr (hw _ (List.mem_of_getElem? (i := 22) rfl))) (by decide) (t := (.array .int)) (t' := (.array .long)) (by decide) (by decide))))
  have fF_a1_marks_x19 := (Fld.other W19 Fw18 (Or.inr (slot_ne (Or.inr (hw _ (List.mem_of_getElem? (i := 20) rfl))) (Or.inr (hw _ (List.mem_of_getElem? (i := 22) rfl))) (by decide) (t := (.array .char)) (t' := (.array .long)) (by decide) (by decide))))
  have fF_a1_marked_x19 := (Fld.other W19 fF_a1_marked_x18 (Or.inr (slot_ne (Or.inl (hw _ (List.mem_of_getElem? (i := 24) rfl))) (Or.inr (hw _ (List.mem_of_getElem? (i := 22) rfl))) (by decide) (t := (.array .int)) (t' := (.array .long)) (by decide) (by decide))))
  have fF_a1_size_x19 := (Fld.other W19 fF_a1_size_x18 (Or.inr (slot_ne (Or.inl (hw _ (List.mem_of_getElem? (i := 31) rfl))) (Or.inr (hw _ (List.mem_of_getElem? (i := 22) rfl))) (by decide) (t := .int) (t' := (.array .long)) (by decide) (by decide))))
  have fA_b12_x19 := (fA_b12_x18.other W19 (Ne.symm ne_a1_b12))
  have fA_b15_x19 := (fA_b15_x18.other W19 (Ne.symm ne_a1_b15))
  have fA_b17_x19 := (fA_b17_x18.other W19 (Ne.symm ne_a1_b17))
  have N19 := Fr.snoc X19 N18 g_a1
  have K19 : Keep h0 h19 [a1] := Keep.wr K18 W19 (Or.inl (List.mem_of_getElem? (i := 0) rfl))
  have Z19 : n0 ≤ h19.size := Nat.le_trans Z18 (Nat.le_of_eq W19.size.symm)
  obtain ⟨T20, h20, X20, e20, W20, st20⟩ := putF X19 hx hZ hown (host := "") (Or.inl (hw _ (List.mem_of_getElem? (i := 23) rfl))) Via.refl e19 fF_a1_marked_x19 fE_a1_x19 (Or.inl (hw _ (List.mem_of_getElem? (i := 24) rfl))) (hw _ (List.mem_of_getElem? (i := 1) rfl)) (ty := (.array .int)) (by decide) rfl rfl (g := (mkF m 87 #[.val (.ref a1), .val (.int (4 : Int32)), .val (.int (0 : Int32))] [.null, (.ref a1)])) rfl rfl (hb hby d1N_87)
  have Fw20 := Fld.same W20 fF_a1_marked_x19
  have fE_a1_x20 := (fE_a1_x19.wr W20)
  have fF_a1_stamp_x20 := (Fld.other W20 fF_a1_stamp_x19 (Or.inr (slot_ne (Or.inl (hw _ (List.mem_of_getElem? (i := 10) rfl))) (Or.inl (hw _ (List.mem_of_getElem? (i := 24) rfl))) (by decide) (t := .int) (t' := (.array .int)) (by decide) (by decide))))
  have fF_a1_stack_x20 := (Fld.other W20 fF_a1_stack_x19 (Or.inr (slot_ne (Or.inl (hw _ (List.mem_of_getElem? (i := 13) rfl))) (Or.inl (hw _ (List.mem_of_getElem? (i := 24) rfl))) (by decide) (t := (.array .int)) (t' := (.array .int)) (by decide) (by decide))))
  have fF_a1_instructions_x20 := (Fld.other W20 fF_a1_instructions_x19 (Or.inr (slot_ne (Or.inr (hw _ (List.mem_of_getElem? (i := 15) rfl))) (Or.inl (hw _ (List.mem_of_getElem? (i := 24) rfl))) (by decide) (t := .int) (t' := (.array .int)) (by decide) (by decide))))
  have fF_a1_members_x20 := (Fld.other W20 fF_a1_members_x19 (Or.inr (slot_ne (Or.inl (hw _ (List.mem_of_getElem? (i := 17) rfl))) (Or.inl (hw _ (List.mem_of_getElem? (i := 24) rfl))) (by decide) (t := (.array .int)) (t' := (.array .int)) (by decide) (by decide))))
  have fF_a1_marks_x20 := (Fld.other W20 fF_a1_marks_x19 (Or.inr (slot_ne (Or.inr (hw _ (List.mem_of_getElem? (i := 20) rfl))) (Or.inl (hw _ (List.mem_of_getElem? (i := 24) rfl))) (by decide) (t := (.array .char)) (t' := (.array .int)) (by decide) (by decide))))
  have fF_a1_markBits_x20 := (Fld.other W20 Fw19 (Or.inr (slot_ne (Or.inr (hw _ (List.mem_of_getElem? (i := 22) rfl))) (Or.inl (hw _ (List.mem_of_getElem? (i := 24) rfl))) (by decide) (t := (.array .long)) (t' := (.array .int)) (by decide) (by decide))))
  have fF_a1_size_x20 := (Fld.other W20 fF_a1_size_x19 (Or.inr (slot_ne (Or.inl (hw _ (List.mem_of_getElem? (i := 31) rfl))) (Or.inl (hw _ (List.mem_of_getElem? (i := 24) rfl))) (by decide) (t := .int) (t' := (.array .int)) (by decide) (by decide))))
  have fA_b12_x20 := (fA_b12_x19.other W20 (Ne.symm ne_a1_b12))
  have fA_b15_x20 := (fA_b15_x19.other W20 (Ne.symm ne_a1_b15))
  have fA_b17_x20 := (fA_b17_x19.other W20 (Ne.symm ne_a1_b17))
  have N20 := Fr.snoc X20 N19 g_a1
  have K20 : Keep h0 h20 [a1] := Keep.wr K19 W20 (Or.inl (List.mem_of_getElem? (i := 0) rfl))
  have Z20 : n0 ≤ h20.size := Nat.le_trans Z19 (Nat.le_of_eq W20.size.symm)
  refine own_pre (A := T20.setTop (mkF m 90 #[.val (.ref a1), .val (.int (4 : Int32)), .val (.int (0 : Int32))] [])) (fun tt kt => ?_) ?_
  · show Steps p.tables e below (s₁.setTop (mkF m 0 #[.val (.ref a1), .val (.int (4 : Int32)), .val (.int (0 : Int32))] [])) _
    refine XS.aloadN X0.here hx rfl (hb hby d1N_0) rfl rfl ?_
    show Steps p.tables e below (s₁.setTop (mkF m 1 #[.val (.ref a1), .val (.int (4 : Int32)), .val (.int (0 : Int32))] [(.ref a1)])) _
    refine st10 _ ?_
    show Steps p.tables e below (T10.setTop (mkF m 4 #[.val (.ref a1), .val (.int (4 : Int32)), .val (.int (0 : Int32))] [])) _
    refine XS.aloadN X10.here hx rfl (hb hby d1N_4) rfl rfl ?_
    show Steps p.tables e below (T10.setTop (mkF m 5 #[.val (.ref a1), .val (.int (4 : Int32)), .val (.int (0 : Int32))] [(.ref a1)])) _
    refine XS.iconst X10.here hx rfl (hb hby d1N_5) ?_
    show Steps p.tables e below (T10.setTop (mkF m 6 #[.val (.ref a1), .val (.int (4 : Int32)), .val (.int (0 : Int32))] [(.int (1 : Int32)), (.ref a1)])) _
    refine st11 _ ?_
    show Steps p.tables e below (T11.setTop (mkF m 9 #[.val (.ref a1), .val (.int (4 : Int32)), .val (.int (0 : Int32))] [])) _
    refine XS.aloadN X11.here hx rfl (hb hby d1N_9) rfl rfl ?_
    show Steps p.tables e below (T11.setTop (mkF m 10 #[.val (.ref a1), .val (.int (4 : Int32)), .val (.int (0 : Int32))] [(.ref a1)])) _
    refine XS.bipush X11.here hx rfl (hb hby d1N_10) ?_
    show Steps p.tables e below (T11.setTop (mkF m 12 #[.val (.ref a1), .val (.int (4 : Int32)), .val (.int (0 : Int32))] [(.int (16 : Int32)), (.ref a1)])) _
    refine st12 _ ?_
    show Steps p.tables e below (T12.setTop (mkF m 14 #[.val (.ref a1), .val (.int (4 : Int32)), .val (.int (0 : Int32))] [(.ref b12), (.ref a1)])) _
    refine st13 _ ?_
    show Steps p.tables e below (T13.setTop (mkF m 17 #[.val (.ref a1), .val (.int (4 : Int32)), .val (.int (0 : Int32))] [])) _
    refine XS.aloadN X13.here hx rfl (hb hby d1N_17) rfl rfl ?_
    show Steps p.tables e below (T13.setTop (mkF m 18 #[.val (.ref a1), .val (.int (4 : Int32)), .val (.int (0 : Int32))] [(.ref a1)])) _
    refine XS.iloadN X13.here hx rfl (hb hby d1N_18) rfl ?_
    show Steps p.tables e below (T13.setTop (mkF m 19 #[.val (.ref a1), .val (.int (4 : Int32)), .val (.int (0 : Int32))] [(.int (4 : Int32)), (.ref a1)])) _
    refine st14 _ ?_
    show Steps p.tables e below (T14.setTop (mkF m 22 #[.val (.ref a1), .val (.int (4 : Int32)), .val (.int (0 : Int32))] [])) _
    refine XS.aloadN X14.here hx rfl (hb hby d1N_22) rfl rfl ?_
    show Steps p.tables e below (T14.setTop (mkF m 23 #[.val (.ref a1), .val (.int (4 : Int32)), .val (.int (0 : Int32))] [(.ref a1)])) _
    refine XS.iloadN X14.here hx rfl (hb hby d1N_23) rfl ?_
    show Steps p.tables e below (T14.setTop (mkF m 24 #[.val (.ref a1), .val (.int (4 : Int32)), .val (.int (0 : Int32))] [(.int (0 : Int32)), (.ref a1)])) _
    refine XS.ifYes X14.here hx rfl (pc0 := 24) (pc' := 31) rfl (hb hby d1N_24) rfl ((if0 _ _).trans (teq ((by decide) : (0 : Int32) = (0 : Int32))).1) (by decide) (by decide) ?_
    show Steps p.tables e below (T14.setTop (mkF m 31 #[.val (.ref a1), .val (.int (4 : Int32)), .val (.int (0 : Int32))] [(.ref a1)])) _
    refine XS.bipush X14.here hx rfl (hb hby d1N_31) ?_
    show Steps p.tables e below (T14.setTop (mkF m 33 #[.val (.ref a1), .val (.int (4 : Int32)), .val (.int (0 : Int32))] [(.int (16 : Int32)), (.ref a1)])) _
    refine st15 _ ?_
    show Steps p.tables e below (T15.setTop (mkF m 35 #[.val (.ref a1), .val (.int (4 : Int32)), .val (.int (0 : Int32))] [(.ref b15), (.ref a1)])) _
    refine st16 _ ?_
    show Steps p.tables e below (T16.setTop (mkF m 38 #[.val (.ref a1), .val (.int (4 : Int32)), .val (.int (0 : Int32))] [])) _
    refine XS.aloadN X16.here hx rfl (hb hby d1N_38) rfl rfl ?_
    show Steps p.tables e below (T16.setTop (mkF m 39 #[.val (.ref a1), .val (.int (4 : Int32)), .val (.int (0 : Int32))] [(.ref a1)])) _
    refine XS.iloadN X16.here hx rfl (hb hby d1N_39) rfl ?_
    show Steps p.tables e below (T16.setTop (mkF m 40 #[.val (.ref a1), .val (.int (4 : Int32)), .val (.int (0 : Int32))] [(.int (0 : Int32)), (.ref a1)])) _
    refine XS.ifYes X16.here hx rfl (pc0 := 40) (pc' := 47) rfl (hb hby d1N_40) rfl ((if0 _ _).trans (teq ((by decide) : (0 : Int32) = (0 : Int32))).1) (by decide) (by decide) ?_
    show Steps p.tables e below (T16.setTop (mkF m 47 #[.val (.ref a1), .val (.int (4 : Int32)), .val (.int (0 : Int32))] [(.ref a1)])) _
    refine XS.iloadN X16.here hx rfl (hb hby d1N_47) rfl ?_
    show Steps p.tables e below (T16.setTop (mkF m 48 #[.val (.ref a1), .val (.int (4 : Int32)), .val (.int (0 : Int32))] [(.int (4 : Int32)), (.ref a1)])) _
    refine st17 _ ?_
    show Steps p.tables e below (T17.setTop (mkF m 50 #[.val (.ref a1), .val (.int (4 : Int32)), .val (.int (0 : Int32))] [(.ref b17), (.ref a1)])) _
    refine st18 _ ?_
    show Steps p.tables e below (T18.setTop (mkF m 53 #[.val (.ref a1), .val (.int (4 : Int32)), .val (.int (0 : Int32))] [])) _
    refine XS.aloadN X18.here hx rfl (hb hby d1N_53) rfl rfl ?_
    show Steps p.tables e below (T18.setTop (mkF m 54 #[.val (.ref a1), .val (.int (4 : Int32)), .val (.int (0 : Int32))] [(.ref a1)])) _
    refine XS.iloadN X18.here hx rfl (hb hby d1N_54) rfl ?_
    show Steps p.tables e below (T18.setTop (mkF m 55 #[.val (.ref a1), .val (.int (4 : Int32)), .val (.int (0 : Int32))] [(.int (0 : Int32)), (.ref a1)])) _
    refine XS.ifYes X18.here hx rfl (pc0 := 55) (pc' := 70) rfl (hb hby d1N_55) rfl ((if0 _ _).trans (teq ((by decide) : (0 : Int32) = (0 : Int32))).1) (by decide) (by decide) ?_
    show Steps p.tables e below (T18.setTop (mkF m 70 #[.val (.ref a1), .val (.int (4 : Int32)), .val (.int (0 : Int32))] [(.ref a1)])) _
    refine XS.aconstNull X18.here hx rfl (hb hby d1N_70) ?_
    show Steps p.tables e below (T18.setTop (mkF m 71 #[.val (.ref a1), .val (.int (4 : Int32)), .val (.int (0 : Int32))] [.null, (.ref a1)])) _
    refine st19 _ ?_
    show Steps p.tables e below (T19.setTop (mkF m 74 #[.val (.ref a1), .val (.int (4 : Int32)), .val (.int (0 : Int32))] [])) _
    refine XS.aloadN X19.here hx rfl (hb hby d1N_74) rfl rfl ?_
    show Steps p.tables e below (T19.setTop (mkF m 75 #[.val (.ref a1), .val (.int (4 : Int32)), .val (.int (0 : Int32))] [(.ref a1)])) _
    refine XS.iloadN X19.here hx rfl (hb hby d1N_75) rfl ?_
    show Steps p.tables e below (T19.setTop (mkF m 76 #[.val (.ref a1), .val (.int (4 : Int32)), .val (.int (0 : Int32))] [(.int (0 : Int32)), (.ref a1)])) _
    refine XS.ifYes X19.here hx rfl (pc0 := 76) (pc' := 86) rfl (hb hby d1N_76) rfl ((if0 _ _).trans (teq ((by decide) : (0 : Int32) = (0 : Int32))).1) (by decide) (by decide) ?_
    show Steps p.tables e below (T19.setTop (mkF m 86 #[.val (.ref a1), .val (.int (4 : Int32)), .val (.int (0 : Int32))] [(.ref a1)])) _
    refine XS.aconstNull X19.here hx rfl (hb hby d1N_86) ?_
    show Steps p.tables e below (T19.setTop (mkF m 87 #[.val (.ref a1), .val (.int (4 : Int32)), .val (.int (0 : Int32))] [.null, (.ref a1)])) _
    refine st20 _ ?_
    exact kt
  show own_End p e below s (T20.setTop (mkF m 90 #[.val (.ref a1), .val (.int (4 : Int32)), .val (.int (0 : Int32))] [])) (Q1N Z a1 v1 v2 v3 h0 n0) ({ frames := 1, cells := 3, slots := 36, locals := 12 } : Room).cells ({ frames := 1, cells := 3, slots := 36, locals := 12 } : Room).slots
  obtain ⟨fs, hr, hrun, hended, hW, hsame⟩ := X20.leave (v := none) (fun _ => rfl)
  refine ⟨_, _, ?_, hrun, hended, _, _, rfl, ?_, ⟨_, rfl⟩, hW, hsame.mono (by decide) (by decide)⟩
  · exact X20.returnOut hx Bd.returns (hb hby d1N_90) hr
  · show Q1N Z a1 v1 v2 v3 h0 n0 _ T20.heap _
    rw [e20]
    exact ⟨rfl, N20, b15, K20, ⟨fE_a1_x20, fF_a1_members_x20, fF_a1_size_x20⟩, sz_b15, fA_b15_x20⟩
theorem d1L_0 : decode prog_95_method_2_code 0 = .ok (.aload_n 0, 1) := by decide +kernel
theorem d1L_1 : decode prog_95_method_2_code 1 = .ok (.invokespecial 7, 3) := by decide +kernel
theorem d1L_4 : decode prog_95_method_2_code 4 = .ok (.aload_n 0, 1) := by decide +kernel
theorem d1L_5 : decode prog_95_method_2_code 5 = .ok (.iconst 1, 1) := by decide +kernel
theorem d1L_6 : decode prog_95_method_2_code 6 = .ok (.putfield 12, 3) := by decide +kernel
theorem d1L_9 : decode prog_95_method_2_code 9 = .ok (.aload_n 0, 1) := by decide +kernel
theorem d1L_10 : decode prog_95_method_2_code 10 = .ok (.bipush 16, 2) := by decide +kernel
theorem d1L_12 : decode prog_95_method_2_code 12 = .ok (.newarray .int, 2) := by decide +kernel
theorem d1L_14 : decode prog_95_method_2_code 14 = .ok (.putfield 16, 3) := by decide +kernel
theorem d1L_17 : decode prog_95_method_2_code 17 = .ok (.aload_n 0, 1) := by decide +kernel
theorem d1L_18 : decode prog_95_method_2_code 18 = .ok (.iload_n 1, 1) := by decide +kernel
theorem d1L_19 : decode prog_95_method_2_code 19 = .ok (.putfield 20, 3) := by decide +kernel
theorem d1L_22 : decode prog_95_method_2_code 22 = .ok (.aload_n 0, 1) := by decide +kernel
theorem d1L_23 : decode prog_95_method_2_code 23 = .ok (.iload_n 2, 1) := by decide +kernel
theorem d1L_24 : decode prog_95_method_2_code 24 = .ok (.ifCond .eq 7, 3) := by decide +kernel
theorem d1L_27 : decode prog_95_method_2_code 27 = .ok (.aconst_null, 1) := by decide +kernel
theorem d1L_28 : decode prog_95_method_2_code 28 = .ok (.goto 7, 3) := by decide +kernel
theorem d1L_35 : decode prog_95_method_2_code 35 = .ok (.putfield 23, 3) := by decide +kernel
theorem d1L_38 : decode prog_95_method_2_code 38 = .ok (.aload_n 0, 1) := by decide +kernel
theorem d1L_39 : decode prog_95_method_2_code 39 = .ok (.iload_n 2, 1) := by decide +kernel
theorem d1L_40 : decode prog_95_method_2_code 40 = .ok (.ifCond .eq 7, 3) := by decide +kernel
theorem d1L_43 : decode prog_95_method_2_code 43 = .ok (.aconst_null, 1) := by decide +kernel
theorem d1L_44 : decode prog_95_method_2_code 44 = .ok (.goto 6, 3) := by decide +kernel
theorem d1L_50 : decode prog_95_method_2_code 50 = .ok (.putfield 26, 3) := by decide +kernel
theorem d1L_53 : decode prog_95_method_2_code 53 = .ok (.aload_n 0, 1) := by decide +kernel
theorem d1L_54 : decode prog_95_method_2_code 54 = .ok (.iload_n 2, 1) := by decide +kernel
theorem d1L_55 : decode prog_95_method_2_code 55 = .ok (.ifCond .eq 15, 3) := by decide +kernel
theorem d1L_58 : decode prog_95_method_2_code 58 = .ok (.iload_n 1, 1) := by decide +kernel
theorem d1L_59 : decode prog_95_method_2_code 59 = .ok (.bipush 63, 2) := by decide +kernel
theorem d1L_61 : decode prog_95_method_2_code 61 = .ok (.iadd, 1) := by decide +kernel
theorem d1L_62 : decode prog_95_method_2_code 62 = .ok (.bipush 6, 2) := by decide +kernel
theorem d1L_64 : decode prog_95_method_2_code 64 = .ok (.iushr, 1) := by decide +kernel
theorem d1L_65 : decode prog_95_method_2_code 65 = .ok (.newarray .long, 2) := by decide +kernel
theorem d1L_67 : decode prog_95_method_2_code 67 = .ok (.goto 4, 3) := by decide +kernel
theorem d1L_71 : decode prog_95_method_2_code 71 = .ok (.putfield 30, 3) := by decide +kernel
theorem d1L_74 : decode prog_95_method_2_code 74 = .ok (.aload_n 0, 1) := by decide +kernel
theorem d1L_75 : decode prog_95_method_2_code 75 = .ok (.iload_n 2, 1) := by decide +kernel
theorem d1L_76 : decode prog_95_method_2_code 76 = .ok (.ifCond .eq 10, 3) := by decide +kernel
theorem d1L_79 : decode prog_95_method_2_code 79 = .ok (.bipush 16, 2) := by decide +kernel
theorem d1L_81 : decode prog_95_method_2_code 81 = .ok (.newarray .int, 2) := by decide +kernel
theorem d1L_83 : decode prog_95_method_2_code 83 = .ok (.goto 4, 3) := by decide +kernel
theorem d1L_87 : decode prog_95_method_2_code 87 = .ok (.putfield 34, 3) := by decide +kernel
theorem d1L_90 : decode prog_95_method_2_code 90 = .ok (.return_, 1) := by decide +kernel
theorem pn_1L : plainName "com/example/libfacet/libfacet/regex/StateSet" = true := by first | (simp [plainName, overriddenIn]; done) | decide +kernel
theorem ef_1L (m : MethodId) (x0 : Addr) (x1 : Int32) (x2 : Int32) : entryFrame m #[(.ref x0), (.int x1), (.int x2)] 3 = mkF m 0 #[.val (.ref x0), .val (.int x1), .val (.int x2)] [] := by first | (simp [entryFrame, mkF, argsToLocals, Value.category]; done) | rfl
def Q1L (Z : State) (a1 : Addr) (v1 : Int32) (v2 : Int32) (v3 : Int32) (h0 : Heap) (n0 : Nat) (v : Option Value) (h : Heap) (L : List Loc) : Prop := v = none ∧ Fr n0 L ∧ Keep h0 h [a1] ∧ own_ObjL Z h a1 v3
set_option maxRecDepth 65536 in
set_option maxHeartbeats 40000000 in
theorem rm1L (l : Launch) (Z : State) (a0 : Array Value) (hw : ∀ d ∈ tables_1, d.before a0 Z = true) (ws : List Jvm.Cond) (a1 : Addr) (v1 : Int32) (v2 : Int32) (v3 : Int32) (h0 : Heap) (n0 : Nat) (Z0 : n0 ≤ h0.size) (O_a1 : own_Obj0 Z h0 a1 v1 v2 v3) (g_a1 : n0 ≤ a1) :
    MetFree l (⟨"com/example/libfacet/libfacet/regex/StateSet", "<init>", "(IZ)V"⟩ : MethodName) (head1 (Jvm.Cond.code (⟨"com/example/libfacet/libfacet/regex/StateSet", "<init>", "(IZ)V"⟩ : MethodName) prog_95_method_2_code 3 none :: ws) ({ frames := 1, cells := 3, slots := 33, locals := 12 } : Room)) (fun a U => a = #[(.ref a1), (.int (4 : Int32)), (.int (1 : Int32))] ∧ Z.Warmed39 U.vm ∧ U.heap = h0) (fun _ _ _ _ _ => True) (fun _ U o U' => ∃ v L, o = .returned v ∧ Q1L Z a1 v1 v2 v3 h0 n0 v U'.heap L ∧ FrameEnd U o U' L ({ frames := 1, cells := 3, slots := 33, locals := 12 } : Room).cells ({ frames := 1, cells := 3, slots := 33, locals := 12 } : Room).slots) := by
  refine MetFree.of_bodySF (plainFor_of_name pn_1L) hisR ?_
  intro p e s m args below meth c s₁ Bd hml0 hP hK
  obtain ⟨rfl, hZ, hh⟩ := hP
  have hx := Bd.exec
  have hby := Bd.bytes
  have hml : c.maxLocals = 3 := hml0
  have hown : s.vm.findClass "com/example/libfacet/libfacet/regex/StateSet" = some m.cls := findClass_of_methodNamed Bd.named
  have hnm := (name_of_methodNamed Bd.named Bd.method).1
  have X0 : Stand p l e ({ frames := 1, cells := 3, slots := 33, locals := 12 } : Room) s m #[(.ref a1), (.int (4 : Int32)), (.int (1 : Int32))] below meth c s₁ [] 0 0 := Stand.of_body Bd
  have e0 : s₁.heap = h0 := by rw [← hh, Bd.state]; rfl
  have N0 := Fr.nil n0
  show own_End p e below s (s₁.setTop (entryFrame m #[(.ref a1), (.int (4 : Int32)), (.int (1 : Int32))] 3)) (Q1L Z a1 v1 v2 v3 h0 n0) ({ frames := 1, cells := 3, slots := 33, locals := 12 } : Room).cells ({ frames := 1, cells := 3, slots := 33, locals := 12 } : Room).slots
  obtain ⟨E_a1_1, F_stamp_a1_2, F_stack_a1_3, F_instructions_a1_4, F_members_a1_5, F_marks_a1_6, F_markBits_a1_7, F_marked_a1_8, F_size_a1_9⟩ := O_a1
  refine own_pre (A := s₁.setTop (mkF m 0 #[.val (.ref a1), .val (.int (4 : Int32)), .val (.int (1 : Int32))] [])) (fun tt kt => castTop (ef_1L m a1 (4 : Int32) (1 : Int32)) kt) ?_
  show own_End p e below s (s₁.setTop (mkF m 0 #[.val (.ref a1), .val (.int (4 : Int32)), .val (.int (1 : Int32))] [])) (Q1L Z a1 v1 v2 v3 h0 n0) ({ frames := 1, cells := 3, slots := 33, locals := 12 } : Room).cells ({ frames := 1, cells := 3, slots := 33, locals := 12 } : Room).slots
  obtain ⟨T10, X10, e10, st10⟩ := initO X0 hx hZ hown (hw _ (List.mem_of_getElem? (i := 6) rfl)) (hw _ (List.mem_of_getElem? (i := 7) rfl)) (hw _ (List.mem_of_getElem? (i := 8) rfl)) e0 (g := (mkF m 1 #[.val (.ref a1), .val (.int (4 : Int32)), .val (.int (1 : Int32))] [(.ref a1)])) rfl (by rw [hml]; rfl) rfl (hb hby d1L_1) (by decide) (W := 0) (by show 2 * 0 + _ ≤ _; exact Nat.le_of_eq rfl) (by decide)
  obtain ⟨T11, h11, X11, e11, W11, st11⟩ := putF X10 hx hZ hown (host := "") (Or.inl (hw _ (List.mem_of_getElem? (i := 9) rfl))) Via.refl e10 F_stamp_a1_2 E_a1_1 (Or.inl (hw _ (List.mem_of_getElem? (i := 10) rfl))) (hw _ (List.mem_of_getElem? (i := 1) rfl)) (ty := .int) (by decide) rfl rfl (g := (mkF m 6 #[.val (.ref a1), .val (.int (4 : Int32)), .val (.int (1 : Int32))] [(.int (1 : Int32)), (.ref a1)])) rfl rfl (hb hby d1L_6)
  have Fw11 := Fld.same W11 F_stamp_a1_2
  have fE_a1_x11 := (E_a1_1.wr W11)
  have fF_a1_stack_x11 := (Fld.other W11 F_stack_a1_3 (Or.inr (slot_ne (Or.inl (hw _ (List.mem_of_getElem? (i := 13) rfl))) (Or.inl (hw _ (List.mem_of_getElem? (i := 10) rfl))) (by decide) (t := (.array .int)) (t' := .int) (by decide) (by decide))))
  have fF_a1_instructions_x11 := (Fld.other W11 F_instructions_a1_4 (Or.inr (slot_ne (Or.inr (hw _ (List.mem_of_getElem? (i := 15) rfl))) (Or.inl (hw _ (List.mem_of_getElem? (i := 10) rfl))) (by decide) (t := .int) (t' := .int) (by decide) (by decide))))
  have fF_a1_members_x11 := (Fld.other W11 F_members_a1_5 (Or.inr (slot_ne (Or.inl (hw _ (List.mem_of_getElem? (i := 17) rfl))) (Or.inl (hw _ (List.mem_of_getElem? (i := 10) rfl))) (by decide) (t := (.array .int)) (t' := .int) (by decide) (by decide))))
  have fF_a1_marks_x11 := (Fld.other W11 F_marks_a1_6 (Or.inr (slot_ne (Or.inr (hw _ (List.mem_of_getElem? (i := 20) rfl))) (Or.inl (hw _ (List.mem_of_getElem? (i := 10) rfl))) (by decide) (t := (.array .char)) (t' := .int) (by decide) (by decide))))
  have fF_a1_markBits_x11 := (Fld.other W11 F_markBits_a1_7 (Or.inr (slot_ne (Or.inr (hw _ (List.mem_of_getElem? (i := 22) rfl))) (Or.inl (hw _ (List.mem_of_getElem? (i := 10) rfl))) (by decide) (t := (.array .long)) (t' := .int) (by decide) (by decide))))
  have fF_a1_marked_x11 := (Fld.other W11 F_marked_a1_8 (Or.inr (slot_ne (Or.inl (hw _ (List.mem_of_getElem? (i := 24) rfl))) (Or.inl (hw _ (List.mem_of_getElem? (i := 10) rfl))) (by decide) (t := (.array .int)) (t' := .int) (by decide) (by decide))))
  have fF_a1_size_x11 := (Fld.other W11 F_size_a1_9 (Or.inr (slot_ne (Or.inl (hw _ (List.mem_of_getElem? (i := 31) rfl))) (Or.inl (hw _ (List.mem_of_getElem? (i := 10) rfl))) (by decide) (t := .int) (t' := .int) (by decide) (by decide))))
  have N11 := Fr.snoc X11 N0 g_a1
  have K11 : Keep h0 h11 [a1] := Keep.wr (Keep.refl h0 _) W11 (Or.inl (List.mem_of_getElem? (i := 0) rfl))
  have Z11 : n0 ≤ h11.size := Nat.le_trans Z0 (Nat.le_of_eq W11.size.symm)
  obtain ⟨T12, h12, k12, X12, e12, E12, A12, st12⟩ := newP X11 hx hZ (hw _ (List.mem_of_getElem? (i := 11) rfl)) e11 (g := (mkF m 12 #[.val (.ref a1), .val (.int (4 : Int32)), .val (.int (1 : Int32))] [(.int (16 : Int32)), (.ref a1)])) rfl (hb hby d1L_12) rfl (by decide) (cap := 16) (by decide) (by decide) (by decide) (by decide)
  obtain ⟨b12, g12⟩ : ∃ z, z = h11.size := ⟨_, rfl⟩
  rw [← g12] at A12 st12
  have ne_a1_b12 : a1 ≠ b12 := Nat.ne_of_lt (Nat.lt_of_lt_of_le fE_a1_x11.lt (Nat.le_of_eq g12.symm))
  have g_b12 : n0 ≤ b12 := Nat.le_trans Z11 (Nat.le_of_eq g12.symm)
  have sz_b12 : h0.size ≤ b12 := Nat.le_trans (show Keep h0 h11 [a1] from K11).1 (Nat.le_of_eq g12.symm)
  have fE_a1_x12 := (fE_a1_x11.ext E12)
  have fF_a1_stamp_x12 := (Fw11.ext E12)
  have fF_a1_stack_x12 := (fF_a1_stack_x11.ext E12)
  have fF_a1_instructions_x12 := (fF_a1_instructions_x11.ext E12)
  have fF_a1_members_x12 := (fF_a1_members_x11.ext E12)
  have fF_a1_marks_x12 := (fF_a1_marks_x11.ext E12)
  have fF_a1_markBits_x12 := (fF_a1_markBits_x11.ext E12)
  have fF_a1_marked_x12 := (fF_a1_marked_x11.ext E12)
  have fF_a1_size_x12 := (fF_a1_size_x11.ext E12)
  have K12 : Keep h0 h12 [a1] := Keep.ext K11 E12
  have Z12 : n0 ≤ h12.size := Nat.le_trans Z11 E12.1
  have V12 : own_Arr Z h12 b12 .int (16 : Int32) (fun i => Value.int ((fun _ => (0 : Int32)) i)) := own_Arr.new A12 (by decide) (fun _ => rfl)
  obtain ⟨T13, h13, X13, e13, W13, st13⟩ := putF X12 hx hZ hown (host := "") (Or.inl (hw _ (List.mem_of_getElem? (i := 12) rfl))) Via.refl e12 fF_a1_stack_x12 fE_a1_x12 (Or.inl (hw _ (List.mem_of_getElem? (i := 13) rfl))) (hw _ (List.mem_of_getElem? (i := 1) rfl)) (ty := (.array .int)) (by decide) rfl rfl (g := (mkF m 14 #[.val (.ref a1), .val (.int (4 : Int32)), .val (.int (1 : Int32))] [(.ref b12), (.ref a1)])) rfl rfl (hb hby d1L_14)
  have Fw13 := Fld.same W13 fF_a1_stack_x12
  have fE_a1_x13 := (fE_a1_x12.wr W13)
  have fF_a1_stamp_x13 := (Fld.other W13 fF_a1_stamp_x12 (Or.inr (slot_ne (Or.inl (hw _ (List.mem_of_getElem? (i := 10) rfl))) (Or.inl (hw _ (List.mem_of_getElem? (i := 13) rfl))) (by decide) (t := .int) (t' := (.array .int)) (by decide) (by decide))))
  have fF_a1_instructions_x13 := (Fld.other W13 fF_a1_instructions_x12 (Or.inr (slot_ne (Or.inr (hw _ (List.mem_of_getElem? (i := 15) rfl))) (Or.inl (hw _ (List.mem_of_getElem? (i := 13) rfl))) (by decide) (t := .int) (t' := (.array .int)) (by decide) (by decide))))
  have fF_a1_members_x13 := (Fld.other W13 fF_a1_members_x12 (Or.inr (slot_ne (Or.inl (hw _ (List.mem_of_getElem? (i := 17) rfl))) (Or.inl (hw _ (List.mem_of_getElem? (i := 13) rfl))) (by decide) (t := (.array .int)) (t' := (.array .int)) (by decide) (by decide))))
  have fF_a1_marks_x13 := (Fld.other W13 fF_a1_marks_x12 (Or.inr (slot_ne (Or.inr (hw _ (List.mem_of_getElem? (i := 20) rfl))) (Or.inl (hw _ (List.mem_of_getElem? (i := 13) rfl))) (by decide) (t := (.array .char)) (t' := (.array .int)) (by decide) (by decide))))
  have fF_a1_markBits_x13 := (Fld.other W13 fF_a1_markBits_x12 (Or.inr (slot_ne (Or.inr (hw _ (List.mem_of_getElem? (i := 22) rfl))) (Or.inl (hw _ (List.mem_of_getElem? (i := 13) rfl))) (by decide) (t := (.array .long)) (t' := (.array .int)) (by decide) (by decide))))
  have fF_a1_marked_x13 := (Fld.other W13 fF_a1_marked_x12 (Or.inr (slot_ne (Or.inl (hw _ (List.mem_of_getElem? (i := 24) rfl))) (Or.inl (hw _ (List.mem_of_getElem? (i := 13) rfl))) (by decide) (t := (.array .int)) (t' := (.array .int)) (by decide) (by decide))))
  have fF_a1_size_x13 := (Fld.other W13 fF_a1_size_x12 (Or.inr (slot_ne (Or.inl (hw _ (List.mem_of_getElem? (i := 31) rfl))) (Or.inl (hw _ (List.mem_of_getElem? (i := 13) rfl))) (by decide) (t := .int) (t' := (.array .int)) (by decide) (by decide))))
  have fA_b12_x13 := (V12.other W13 (Ne.symm ne_a1_b12))
  have N13 := Fr.snoc X13 N11 g_a1
  have K13 : Keep h0 h13 [a1] := Keep.wr K12 W13 (Or.inl (List.mem_of_getElem? (i := 0) rfl))
  have Z13 : n0 ≤ h13.size := Nat.le_trans Z12 (Nat.le_of_eq W13.size.symm)
  obtain ⟨T14, h14, X14, e14, W14, st14⟩ := putF X13 hx hZ hown (host := "") (Or.inl (hw _ (List.mem_of_getElem? (i := 14) rfl))) Via.refl e13 fF_a1_instructions_x13 fE_a1_x13 (Or.inr ⟨(hw _ (List.mem_of_getElem? (i := 15) rfl)), rfl, hnm⟩) (hw _ (List.mem_of_getElem? (i := 1) rfl)) (ty := .int) (by decide) rfl rfl (g := (mkF m 19 #[.val (.ref a1), .val (.int (4 : Int32)), .val (.int (1 : Int32))] [(.int (4 : Int32)), (.ref a1)])) rfl rfl (hb hby d1L_19)
  have Fw14 := Fld.same W14 fF_a1_instructions_x13
  have fE_a1_x14 := (fE_a1_x13.wr W14)
  have fF_a1_stamp_x14 := (Fld.other W14 fF_a1_stamp_x13 (Or.inr (slot_ne (Or.inl (hw _ (List.mem_of_getElem? (i := 10) rfl))) (Or.inr (hw _ (List.mem_of_getElem? (i := 15) rfl))) (by decide) (t := .int) (t' := .int) (by decide) (by decide))))
  have fF_a1_stack_x14 := (Fld.other W14 Fw13 (Or.inr (slot_ne (Or.inl (hw _ (List.mem_of_getElem? (i := 13) rfl))) (Or.inr (hw _ (List.mem_of_getElem? (i := 15) rfl))) (by decide) (t := (.array .int)) (t' := .int) (by decide) (by decide))))
  have fF_a1_members_x14 := (Fld.other W14 fF_a1_members_x13 (Or.inr (slot_ne (Or.inl (hw _ (List.mem_of_getElem? (i := 17) rfl))) (Or.inr (hw _ (List.mem_of_getElem? (i := 15) rfl))) (by decide) (t := (.array .int)) (t' := .int) (by decide) (by decide))))
  have fF_a1_marks_x14 := (Fld.other W14 fF_a1_marks_x13 (Or.inr (slot_ne (Or.inr (hw _ (List.mem_of_getElem? (i := 20) rfl))) (Or.inr (hw _ (List.mem_of_getElem? (i := 15) rfl))) (by decide) (t := (.array .char)) (t' := .int) (by decide) (by decide))))
  have fF_a1_markBits_x14 := (Fld.other W14 fF_a1_markBits_x13 (Or.inr (slot_ne (Or.inr (hw _ (List.mem_of_getElem? (i := 22) rfl))) (Or.inr (hw _ (List.mem_of_getElem? (i := 15) rfl))) (by decide) (t := (.array .long)) (t' := .int) (by decide) (by decide))))
  have fF_a1_marked_x14 := (Fld.other W14 fF_a1_marked_x13 (Or.inr (slot_ne (Or.inl (hw _ (List.mem_of_getElem? (i := 24) rfl))) (Or.inr (hw _ (List.mem_of_getElem? (i := 15) rfl))) (by decide) (t := (.array .int)) (t' := .int) (by decide) (by decide))))
  have fF_a1_size_x14 := (Fld.other W14 fF_a1_size_x13 (Or.inr (slot_ne (Or.inl (hw _ (List.mem_of_getElem? (i := 31) rfl))) (Or.inr (hw _ (List.mem_of_getElem? (i := 15) rfl))) (by decide) (t := .int) (t' := .int) (by decide) (by decide))))
  have fA_b12_x14 := (fA_b12_x13.other W14 (Ne.symm ne_a1_b12))
  have N14 := Fr.snoc X14 N13 g_a1
  have K14 : Keep h0 h14 [a1] := Keep.wr K13 W14 (Or.inl (List.mem_of_getElem? (i := 0) rfl))
  have Z14 : n0 ≤ h14.size := Nat.le_trans Z13 (Nat.le_of_eq W14.size.symm)
  obtain ⟨T15, h15, X15, e15, W15, st15⟩ := putF X14 hx hZ hown (host := "") (Or.inl (hw _ (List.mem_of_getElem? (i := 16) rfl))) Via.refl e14 fF_a1_members_x14 fE_a1_x14 (Or.inl (hw _ (List.mem_of_getElem? (i := 17) rfl))) (hw _ (List.mem_of_getElem? (i := 1) rfl)) (ty := (.array .int)) (by decide) rfl rfl (g := (mkF m 35 #[.val (.ref a1), .val (.int (4 : Int32)), .val (.int (1 : Int32))] [.null, (.ref a1)])) rfl rfl (hb hby d1L_35)
  have Fw15 := Fld.same W15 fF_a1_members_x14
  have fE_a1_x15 := (fE_a1_x14.wr W15)
  have fF_a1_stamp_x15 := (Fld.other W15 fF_a1_stamp_x14 (Or.inr (slot_ne (Or.inl (hw _ (List.mem_of_getElem? (i := 10) rfl))) (Or.inl (hw _ (List.mem_of_getElem? (i := 17) rfl))) (by decide) (t := .int) (t' := (.array .int)) (by decide) (by decide))))
  have fF_a1_stack_x15 := (Fld.other W15 fF_a1_stack_x14 (Or.inr (slot_ne (Or.inl (hw _ (List.mem_of_getElem? (i := 13) rfl))) (Or.inl (hw _ (List.mem_of_getElem? (i := 17) rfl))) (by decide) (t := (.array .int)) (t' := (.array .int)) (by decide) (by decide))))
  have fF_a1_instructions_x15 := (Fld.other W15 Fw14 (Or.inr (slot_ne (Or.inr (hw _ (List.mem_of_getElem? (i := 15) rfl))) (Or.inl (hw _ (List.mem_of_getElem? (i := 17) rfl))) (by decide) (t := .int) (t' := (.array .int)) (by decide) (by decide))))
  have fF_a1_marks_x15 := (Fld.other W15 fF_a1_marks_x14 (Or.inr (slot_ne (Or.inr (hw _ (List.mem_of_getElem? (i := 20) rfl))) (Or.inl (hw _ (List.mem_of_getElem? (i := 17) rfl))) (by decide) (t := (.array .char)) (t' := (.array .int)) (by decide) (by decide))))
  have fF_a1_markBits_x15 := (Fld.other W15 fF_a1_markBits_x14 (Or.inr (slot_ne (Or.inr (hw _ (List.mem_of_getElem? (i := 22) rfl))) (Or.inl (hw _ (List.mem_of_getElem? (i := 17) rfl))) (by decide) (t := (.array .long)) (t' := (.array .int)) (by decide) (by decide))))
  have fF_a1_marked_x15 := (Fld.other W15 fF_a1_marked_x14 (Or.inr (slot_ne (Or.inl (hw _ (List.mem_of_getElem? (i := 24) rfl))) (Or.inl (hw _ (List.mem_of_getElem? (i := 17) rfl))) (by decide) (t := (.array .int)) (t' := (.array .int)) (by decide) (by decide))))
  have fF_a1_size_x15 := (Fld.other W15 fF_a1_size_x14 (Or.inr (slot_ne (Or.inl (hw _ (List.mem_of_getElem? (i := 31) rfl))) (Or.inl (hw _ (List.mem_of_getElem? (i := 17) rfl))) (by decide) (t := .int) (t' := (.array .int)) (by decide) (by decide))))
  have fA_b12_x15 := (fA_b12_x14.other W15 (Ne.symm ne_a1_b12))
  have N15 := Fr.snoc X15 N14 g_a1
  have K15 : Keep h0 h15 [a1] := Keep.wr K14 W15 (Or.inl (List.mem_of_getElem? (i := 0) rfl))
  have Z15 : n0 ≤ h15.size := Nat.le_trans Z14 (Nat.le_of_eq W15.size.symm)
  obtain ⟨T16, h16, X16, e16, W16, st16⟩ := putF X15 hx hZ hown (host := "") (Or.inl (hw _ (List.mem_of_getElem? (i := 19) rfl))) Via.refl e15 fF_a1_marks_x15 fE_a1_x15 (Or.inr ⟨(hw _ (List.mem_of_getElem? (i := 20) rfl)), rfl, hnm⟩) (hw _ (List.mem_of_getElem? (i := 1) rfl)) (ty := (.array .char)) (by decide) rfl rfl (g := (mkF m 50 #[.val (.ref a1), .val (.int (4 : Int32)), .val (.int (1 : Int32))] [.null, (.ref a1)])) rfl rfl (hb hby d1L_50)
  have Fw16 := Fld.same W16 fF_a1_marks_x15
  have fE_a1_x16 := (fE_a1_x15.wr W16)
  have fF_a1_stamp_x16 := (Fld.other W16 fF_a1_stamp_x15 (Or.inr (slot_ne (Or.inl (hw _ (List.mem_of_getElem? (i := 10) rfl))) (Or.inr (hw _ (List.mem_of_getElem? (i := 20) rfl))) (by decide) (t := .int) (t' := (.array .char)) (by decide) (by decide))))
  have fF_a1_stack_x16 := (Fld.other W16 fF_a1_stack_x15 (Or.inr (slot_ne (Or.inl (hw _ (List.mem_of_getElem? (i := 13) rfl))) (Or.inr (hw _ (List.mem_of_getElem? (i := 20) rfl))) (by decide) (t := (.array .int)) (t' := (.array .char)) (by decide) (by decide))))
  have fF_a1_instructions_x16 := (Fld.other W16 fF_a1_instructions_x15 (Or.inr (slot_ne (Or.inr (hw _ (List.mem_of_getElem? (i := 15) rfl))) (Or.inr (hw _ (List.mem_of_getElem? (i := 20) rfl))) (by decide) (t := .int) (t' := (.array .char)) (by decide) (by decide))))
  have fF_a1_members_x16 := (Fld.other W16 Fw15 (Or.inr (slot_ne (Or.inl (hw _ (List.mem_of_getElem? (i := 17) rfl))) (Or.inr (hw _ (List.mem_of_getElem? (i := 20) rfl))) (by decide) (t := (.array .int)) (t' := (.array .char)) (by decide) (by decide))))
  have fF_a1_markBits_x16 := (Fld.other W16 fF_a1_markBits_x15 (Or.inr (slot_ne (Or.inr (hw _ (List.mem_of_getElem? (i := 22) rfl))) (Or.inr (hw _ (List.mem_of_getElem? (i := 20) rfl))) (by decide) (t := (.array .long)) (t' := (.array .char)) (by decide) (by decide))))
  have fF_a1_marked_x16 := (Fld.other W16 fF_a1_marked_x15 (Or.inr (slot_ne (Or.inl (hw _ (List.mem_of_getElem? (i := 24) rfl))) (Or.inr (hw _ (List.mem_of_getElem? (i := 20) rfl))) (by decide) (t := (.array .int)) (t' := (.array .char)) (by decide) (by decide))))
  have fF_a1_size_x16 := (Fld.other W16 fF_a1_size_x15 (Or.inr (slot_ne (Or.inl (hw _ (List.mem_of_getElem? (i := 31) rfl))) (Or.inr (hw _ (List.mem_of_getElem? (i := 20) rfl))) (by decide) (t := .int) (t' := (.array .char)) (by decide) (by decide))))
  have fA_b12_x16 := (fA_b12_x15.other W16 (Ne.symm ne_a1_b12))
  have N16 := Fr.snoc X16 N15 g_a1
  have K16 : Keep h0 h16 [a1] := Keep.wr K15 W16 (Or.inl (List.mem_of_getElem? (i := 0) rfl))
  have Z16 : n0 ≤ h16.size := Nat.le_trans Z15 (Nat.le_of_eq W16.size.symm)
  obtain ⟨T17, h17, k17, X17, e17, E17, A17, st17⟩ := newP X16 hx hZ (hw _ (List.mem_of_getElem? (i := 37) rfl)) e16 (g := (mkF m 65 #[.val (.ref a1), .val (.int (4 : Int32)), .val (.int (1 : Int32))] [(.int (((67 : Int32).toUInt32 >>> ((6 : Int32) &&& 31).toUInt32).toInt32)), (.ref a1)])) rfl (hb hby d1L_65) rfl (by decide) (cap := 1) (by decide) (by decide) (by decide) (by decide)
  obtain ⟨b17, g17⟩ : ∃ z, z = h16.size := ⟨_, rfl⟩
  rw [← g17] at A17 st17
  have ne_a1_b17 : a1 ≠ b17 := Nat.ne_of_lt (Nat.lt_of_lt_of_le fE_a1_x16.lt (Nat.le_of_eq g17.symm))
  have ne_b12_b17 : b12 ≠ b17 := Nat.ne_of_lt (Nat.lt_of_lt_of_le fA_b12_x16.lt (Nat.le_of_eq g17.symm))
  have g_b17 : n0 ≤ b17 := Nat.le_trans Z16 (Nat.le_of_eq g17.symm)
  have sz_b17 : h0.size ≤ b17 := Nat.le_trans (show Keep h0 h16 [a1] from K16).1 (Nat.le_of_eq g17.symm)
  have fE_a1_x17 := (fE_a1_x16.ext E17)
  have fF_a1_stamp_x17 := (fF_a1_stamp_x16.ext E17)
  have fF_a1_stack_x17 := (fF_a1_stack_x16.ext E17)
  have fF_a1_instructions_x17 := (fF_a1_instructions_x16.ext E17)
  have fF_a1_members_x17 := (fF_a1_members_x16.ext E17)
  have fF_a1_marks_x17 := (Fw16.ext E17)
  have fF_a1_markBits_x17 := (fF_a1_markBits_x16.ext E17)
  have fF_a1_marked_x17 := (fF_a1_marked_x16.ext E17)
  have fF_a1_size_x17 := (fF_a1_size_x16.ext E17)
  have fA_b12_x17 := (fA_b12_x16.ext E17)
  have K17 : Keep h0 h17 [a1] := Keep.ext K16 E17
  have Z17 : n0 ≤ h17.size := Nat.le_trans Z16 E17.1
  have V17 : own_Arr Z h17 b17 .long (((67 : Int32).toUInt32 >>> ((6 : Int32) &&& 31).toUInt32).toInt32) (fun i => Value.long ((fun _ => (0 : Int64)) i)) := own_Arr.new A17 (by decide) (fun _ => rfl)
  obtain ⟨T18, h18, X18, e18, W18, st18⟩ := putF X17 hx hZ hown (host := "") (Or.inl (hw _ (List.mem_of_getElem? (i := 21) rfl))) Via.refl e17 fF_a1_markBits_x17 fE_a1_x17 (Or.inr ⟨(hw _ (List.mem_of_getElem? (i := 22) rfl)), rfl, hnm⟩) (hw _ (List.mem_of_getElem? (i := 1) rfl)) (ty := (.array .long)) (by decide) rfl rfl (g := (mkF m 71 #[.val (.ref a1), .val (.int (4 : Int32)), .val (.int (1 : Int32))] [(.ref b17), (.ref a1)])) rfl rfl (hb hby d1L_71)
  have Fw18 := Fld.same W18 fF_a1_markBits_x17
  have fE_a1_x18 := (fE_a1_x17.wr W18)
  have fF_a1_stamp_x18 := (Fld.other W18 fF_a1_stamp_x17 (Or.inr (slot_ne (Or.inl (hw _ (List.mem_of_getElem? (i := 10) rfl))) (Or.inr (hw _ (List.mem_of_getElem? (i := 22) rfl))) (by decide) (t := .int) (t' := (.array .long)) (by decide) (by decide))))
  have fF_a1_stack_x18 := (Fld.other W18 fF_a1_stack_x17 (Or.inr (slot_ne (Or.inl (hw _ (List.mem_of_getElem? (i := 13) rfl))) (Or.inr (hw _ (List.mem_of_getElem? (i := 22) rfl))) (by decide) (t := (.array .int)) (t' := (.array .long)) (by decide) (by decide))))
  have fF_a1_instructions_x18 := (Fld.other W18 fF_a1_instructions_x17 (Or.inr (slot_ne (Or.inr (hw _ (List.mem_of_getElem? (i := 15) rfl))) (Or.inr (hw _ (List.mem_of_getElem? (i := 22) rfl))) (by decide) (t := .int) (t' := (.array .long)) (by decide) (by decide))))
  have fF_a1_members_x18 := (Fld.other W18 fF_a1_members_x17 (Or.inr (slot_ne (Or.inl (hw _ (List.mem_of_getElem? (i := 17) rfl))) (Or.inr (hw _ (List.mem_of_getElem? (i := 22) rfl))) (by decide) (t := (.array .int)) (t' := (.array .long)) (by decide) (by decide))))
  have fF_a1_marks_x18 := (Fld.other W18 fF_a1_marks_x17 (Or.inr (slot_ne (Or.inr (hw _ (List.mem_of_getElem? (i := 20) rfl))) (Or.inr (hw _ (List.mem_of_getElem? (i := 22) rfl))) (by decide) (t := (.array .char)) (t' := (.array .long)) (by decide) (by decide))))
  have fF_a1_marked_x18 := (Fld.other W18 fF_a1_marked_x17 (Or.inr (slot_ne (Or.inl (hw _ (List.mem_of_getElem? (i := 24) rfl))) (Or.inr (hw _ (List.mem_of_getElem? (i := 22) rfl))) (by decide) (t := (.array .int)) (t' := (.array .long)) (by decide) (by decide))))
  have fF_a1_size_x18 := (Fld.other W18 fF_a1_size_x17 (Or.inr (slot_ne (Or.inl (hw _ (List.mem_of_getElem? (i := 31) rfl))) (Or.inr (hw _ (List.mem_of_getElem? (i := 22) rfl))) (by decide) (t := .int) (t' := (.array .long)) (by decide) (by decide))))
  have fA_b12_x18 := (fA_b12_x17.other W18 (Ne.symm ne_a1_b12))
  have fA_b17_x18 := (V17.other W18 (Ne.symm ne_a1_b17))
  have N18 := Fr.snoc X18 N16 g_a1
  have K18 : Keep h0 h18 [a1] := Keep.wr K17 W18 (Or.inl (List.mem_of_getElem? (i := 0) rfl))
  have Z18 : n0 ≤ h18.size := Nat.le_trans Z17 (Nat.le_of_eq W18.size.symm)
  obtain ⟨T19, h19, k19, X19, e19, E19, A19, st19⟩ := newP X18 hx hZ (hw _ (List.mem_of_getElem? (i := 11) rfl)) e18 (g := (mkF m 81 #[.val (.ref a1), .val (.int (4 : Int32)), .val (.int (1 : Int32))] [(.int (16 : Int32)), (.ref a1)])) rfl (hb hby d1L_81) rfl (by decide) (cap := 16) (by decide) (by decide) (by decide) (by decide)
  obtain ⟨b19, g19⟩ : ∃ z, z = h18.size := ⟨_, rfl⟩
  rw [← g19] at A19 st19
  have ne_a1_b19 : a1 ≠ b19 := Nat.ne_of_lt (Nat.lt_of_lt_of_le fE_a1_x18.lt (Nat.le_of_eq g19.symm))
  have ne_b12_b19 : b12 ≠ b19 := Nat.ne_of_lt (Nat.lt_of_lt_of_le fA_b12_x18.lt (Nat.le_of_eq g19.symm))
  have ne_b17_b19 : b17 ≠ b19 := Nat.ne_of_lt (Nat.lt_of_lt_of_le fA_b17_x18.lt (Nat.le_of_eq g19.symm))
  have g_b19 : n0 ≤ b19 := Nat.le_trans Z18 (Nat.le_of_eq g19.symm)
  have sz_b19 : h0.size ≤ b19 := Nat.le_trans (show Keep h0 h18 [a1] from K18).1 (Nat.le_of_eq g19.symm)
  have fE_a1_x19 := (fE_a1_x18.ext E19)
  have fF_a1_stamp_x19 := (fF_a1_stamp_x18.ext E19)
  have fF_a1_stack_x19 := (fF_a1_stack_x18.ext E19)
  have fF_a1_instructions_x19 := (fF_a1_instructions_x18.ext E19)
  have fF_a1_members_x19 := (fF_a1_members_x18.ext E19)
  have fF_a1_marks_x19 := (fF_a1_marks_x18.ext E19)
  have fF_a1_markBits_x19 := (Fw18.ext E19)
  have fF_a1_marked_x19 := (fF_a1_marked_x18.ext E19)
  have fF_a1_size_x19 := (fF_a1_size_x18.ext E19)
  have fA_b12_x19 := (fA_b12_x18.ext E19)
  have fA_b17_x19 := (fA_b17_x18.ext E19)
  have K19 : Keep h0 h19 [a1] := Keep.ext K18 E19
  have Z19 : n0 ≤ h19.size := Nat.le_trans Z18 E19.1
  have V19 : own_Arr Z h19 b19 .int (16 : Int32) (fun i => Value.int ((fun _ => (0 : Int32)) i)) := own_Arr.new A19 (by decide) (fun _ => rfl)
  obtain ⟨T20, h20, X20, e20, W20, st20⟩ := putF X19 hx hZ hown (host := "") (Or.inl (hw _ (List.mem_of_getElem? (i := 23) rfl))) Via.refl e19 fF_a1_marked_x19 fE_a1_x19 (Or.inl (hw _ (List.mem_of_getElem? (i := 24) rfl))) (hw _ (List.mem_of_getElem? (i := 1) rfl)) (ty := (.array .int)) (by decide) rfl rfl (g := (mkF m 87 #[.val (.ref a1), .val (.int (4 : Int32)), .val (.int (1 : Int32))] [(.ref b19), (.ref a1)])) rfl rfl (hb hby d1L_87)
  have Fw20 := Fld.same W20 fF_a1_marked_x19
  have fE_a1_x20 := (fE_a1_x19.wr W20)
  have fF_a1_stamp_x20 := (Fld.other W20 fF_a1_stamp_x19 (Or.inr (slot_ne (Or.inl (hw _ (List.mem_of_getElem? (i := 10) rfl))) (Or.inl (hw _ (List.mem_of_getElem? (i := 24) rfl))) (by decide) (t := .int) (t' := (.array .int)) (by decide) (by decide))))
  have fF_a1_stack_x20 := (Fld.other W20 fF_a1_stack_x19 (Or.inr (slot_ne (Or.inl (hw _ (List.mem_of_getElem? (i := 13) rfl))) (Or.inl (hw _ (List.mem_of_getElem? (i := 24) rfl))) (by decide) (t := (.array .int)) (t' := (.array .int)) (by decide) (by decide))))
  have fF_a1_instructions_x20 := (Fld.other W20 fF_a1_instructions_x19 (Or.inr (slot_ne (Or.inr (hw _ (List.mem_of_getElem? (i := 15) rfl))) (Or.inl (hw _ (List.mem_of_getElem? (i := 24) rfl))) (by decide) (t := .int) (t' := (.array .int)) (by decide) (by decide))))
  have fF_a1_members_x20 := (Fld.other W20 fF_a1_members_x19 (Or.inr (slot_ne (Or.inl (hw _ (List.mem_of_getElem? (i := 17) rfl))) (Or.inl (hw _ (List.mem_of_getElem? (i := 24) rfl))) (by decide) (t := (.array .int)) (t' := (.array .int)) (by decide) (by decide))))
  have fF_a1_marks_x20 := (Fld.other W20 fF_a1_marks_x19 (Or.inr (slot_ne (Or.inr (hw _ (List.mem_of_getElem? (i := 20) rfl))) (Or.inl (hw _ (List.mem_of_getElem? (i := 24) rfl))) (by decide) (t := (.array .char)) (t' := (.array .int)) (by decide) (by decide))))
  have fF_a1_markBits_x20 := (Fld.other W20 fF_a1_markBits_x19 (Or.inr (slot_ne (Or.inr (hw _ (List.mem_of_getElem? (i := 22) rfl))) (Or.inl (hw _ (List.mem_of_getElem? (i := 24) rfl))) (by decide) (t := (.array .long)) (t' := (.array .int)) (by decide) (by decide))))
  have fF_a1_size_x20 := (Fld.other W20 fF_a1_size_x19 (Or.inr (slot_ne (Or.inl (hw _ (List.mem_of_getElem? (i := 31) rfl))) (Or.inl (hw _ (List.mem_of_getElem? (i := 24) rfl))) (by decide) (t := .int) (t' := (.array .int)) (by decide) (by decide))))
  have fA_b12_x20 := (fA_b12_x19.other W20 (Ne.symm ne_a1_b12))
  have fA_b17_x20 := (fA_b17_x19.other W20 (Ne.symm ne_a1_b17))
  have fA_b19_x20 := (V19.other W20 (Ne.symm ne_a1_b19))
  have N20 := Fr.snoc X20 N18 g_a1
  have K20 : Keep h0 h20 [a1] := Keep.wr K19 W20 (Or.inl (List.mem_of_getElem? (i := 0) rfl))
  have Z20 : n0 ≤ h20.size := Nat.le_trans Z19 (Nat.le_of_eq W20.size.symm)
  refine own_pre (A := T20.setTop (mkF m 90 #[.val (.ref a1), .val (.int (4 : Int32)), .val (.int (1 : Int32))] [])) (fun tt kt => ?_) ?_
  · show Steps p.tables e below (s₁.setTop (mkF m 0 #[.val (.ref a1), .val (.int (4 : Int32)), .val (.int (1 : Int32))] [])) _
    refine XS.aloadN X0.here hx rfl (hb hby d1L_0) rfl rfl ?_
    show Steps p.tables e below (s₁.setTop (mkF m 1 #[.val (.ref a1), .val (.int (4 : Int32)), .val (.int (1 : Int32))] [(.ref a1)])) _
    refine st10 _ ?_
    show Steps p.tables e below (T10.setTop (mkF m 4 #[.val (.ref a1), .val (.int (4 : Int32)), .val (.int (1 : Int32))] [])) _
    refine XS.aloadN X10.here hx rfl (hb hby d1L_4) rfl rfl ?_
    show Steps p.tables e below (T10.setTop (mkF m 5 #[.val (.ref a1), .val (.int (4 : Int32)), .val (.int (1 : Int32))] [(.ref a1)])) _
    refine XS.iconst X10.here hx rfl (hb hby d1L_5) ?_
    show Steps p.tables e below (T10.setTop (mkF m 6 #[.val (.ref a1), .val (.int (4 : Int32)), .val (.int (1 : Int32))] [(.int (1 : Int32)), (.ref a1)])) _
    refine st11 _ ?_
    show Steps p.tables e below (T11.setTop (mkF m 9 #[.val (.ref a1), .val (.int (4 : Int32)), .val (.int (1 : Int32))] [])) _
    refine XS.aloadN X11.here hx rfl (hb hby d1L_9) rfl rfl ?_
    show Steps p.tables e below (T11.setTop (mkF m 10 #[.val (.ref a1), .val (.int (4 : Int32)), .val (.int (1 : Int32))] [(.ref a1)])) _
    refine XS.bipush X11.here hx rfl (hb hby d1L_10) ?_
    show Steps p.tables e below (T11.setTop (mkF m 12 #[.val (.ref a1), .val (.int (4 : Int32)), .val (.int (1 : Int32))] [(.int (16 : Int32)), (.ref a1)])) _
    refine st12 _ ?_
    show Steps p.tables e below (T12.setTop (mkF m 14 #[.val (.ref a1), .val (.int (4 : Int32)), .val (.int (1 : Int32))] [(.ref b12), (.ref a1)])) _
    refine st13 _ ?_
    show Steps p.tables e below (T13.setTop (mkF m 17 #[.val (.ref a1), .val (.int (4 : Int32)), .val (.int (1 : Int32))] [])) _
    refine XS.aloadN X13.here hx rfl (hb hby d1L_17) rfl rfl ?_
    show Steps p.tables e below (T13.setTop (mkF m 18 #[.val (.ref a1), .val (.int (4 : Int32)), .val (.int (1 : Int32))] [(.ref a1)])) _
    refine XS.iloadN X13.here hx rfl (hb hby d1L_18) rfl ?_
    show Steps p.tables e below (T13.setTop (mkF m 19 #[.val (.ref a1), .val (.int (4 : Int32)), .val (.int (1 : Int32))] [(.int (4 : Int32)), (.ref a1)])) _
    refine st14 _ ?_
    show Steps p.tables e below (T14.setTop (mkF m 22 #[.val (.ref a1), .val (.int (4 : Int32)), .val (.int (1 : Int32))] [])) _
    refine XS.aloadN X14.here hx rfl (hb hby d1L_22) rfl rfl ?_
    show Steps p.tables e below (T14.setTop (mkF m 23 #[.val (.ref a1), .val (.int (4 : Int32)), .val (.int (1 : Int32))] [(.ref a1)])) _
    refine XS.iloadN X14.here hx rfl (hb hby d1L_23) rfl ?_
    show Steps p.tables e below (T14.setTop (mkF m 24 #[.val (.ref a1), .val (.int (4 : Int32)), .val (.int (1 : Int32))] [(.int (1 : Int32)), (.ref a1)])) _
    refine XS.ifNo X14.here hx rfl (hb hby d1L_24) rfl ((if0 _ _).trans (feq ((by decide) : ¬ ((1 : Int32) = (0 : Int32)))).1) ?_
    show Steps p.tables e below (T14.setTop (mkF m 27 #[.val (.ref a1), .val (.int (4 : Int32)), .val (.int (1 : Int32))] [(.ref a1)])) _
    refine XS.aconstNull X14.here hx rfl (hb hby d1L_27) ?_
    show Steps p.tables e below (T14.setTop (mkF m 28 #[.val (.ref a1), .val (.int (4 : Int32)), .val (.int (1 : Int32))] [.null, (.ref a1)])) _
    refine XS.goto X14.here hx rfl (pc0 := 28) (pc' := 35) rfl (hb hby d1L_28) (by decide) (by decide) ?_
    show Steps p.tables e below (T14.setTop (mkF m 35 #[.val (.ref a1), .val (.int (4 : Int32)), .val (.int (1 : Int32))] [.null, (.ref a1)])) _
    refine st15 _ ?_
    show Steps p.tables e below (T15.setTop (mkF m 38 #[.val (.ref a1), .val (.int (4 : Int32)), .val (.int (1 : Int32))] [])) _
    refine XS.aloadN X15.here hx rfl (hb hby d1L_38) rfl rfl ?_
    show Steps p.tables e below (T15.setTop (mkF m 39 #[.val (.ref a1), .val (.int (4 : Int32)), .val (.int (1 : Int32))] [(.ref a1)])) _
    refine XS.iloadN X15.here hx rfl (hb hby d1L_39) rfl ?_
    show Steps p.tables e below (T15.setTop (mkF m 40 #[.val (.ref a1), .val (.int (4 : Int32)), .val (.int (1 : Int32))] [(.int (1 : Int32)), (.ref a1)])) _
    refine XS.ifNo X15.here hx rfl (hb hby d1L_40) rfl ((if0 _ _).trans (feq ((by decide) : ¬ ((1 : Int32) = (0 : Int32)))).1) ?_
    show Steps p.tables e below (T15.setTop (mkF m 43 #[.val (.ref a1), .val (.int (4 : Int32)), .val (.int (1 : Int32))] [(.ref a1)])) _
    refine XS.aconstNull X15.here hx rfl (hb hby d1L_43) ?_
    show Steps p.tables e below (T15.setTop (mkF m 44 #[.val (.ref a1), .val (.int (4 : Int32)), .val (.int (1 : Int32))] [.null, (.ref a1)])) _
    refine XS.goto X15.here hx rfl (pc0 := 44) (pc' := 50) rfl (hb hby d1L_44) (by decide) (by decide) ?_
    show Steps p.tables e below (T15.setTop (mkF m 50 #[.val (.ref a1), .val (.int (4 : Int32)), .val (.int (1 : Int32))] [.null, (.ref a1)])) _
    refine st16 _ ?_
    show Steps p.tables e below (T16.setTop (mkF m 53 #[.val (.ref a1), .val (.int (4 : Int32)), .val (.int (1 : Int32))] [])) _
    refine XS.aloadN X16.here hx rfl (hb hby d1L_53) rfl rfl ?_
    show Steps p.tables e below (T16.setTop (mkF m 54 #[.val (.ref a1), .val (.int (4 : Int32)), .val (.int (1 : Int32))] [(.ref a1)])) _
    refine XS.iloadN X16.here hx rfl (hb hby d1L_54) rfl ?_
    show Steps p.tables e below (T16.setTop (mkF m 55 #[.val (.ref a1), .val (.int (4 : Int32)), .val (.int (1 : Int32))] [(.int (1 : Int32)), (.ref a1)])) _
    refine XS.ifNo X16.here hx rfl (hb hby d1L_55) rfl ((if0 _ _).trans (feq ((by decide) : ¬ ((1 : Int32) = (0 : Int32)))).1) ?_
    show Steps p.tables e below (T16.setTop (mkF m 58 #[.val (.ref a1), .val (.int (4 : Int32)), .val (.int (1 : Int32))] [(.ref a1)])) _
    refine XS.iloadN X16.here hx rfl (hb hby d1L_58) rfl ?_
    show Steps p.tables e below (T16.setTop (mkF m 59 #[.val (.ref a1), .val (.int (4 : Int32)), .val (.int (1 : Int32))] [(.int (4 : Int32)), (.ref a1)])) _
    refine XS.bipush X16.here hx rfl (hb hby d1L_59) ?_
    show Steps p.tables e below (T16.setTop (mkF m 61 #[.val (.ref a1), .val (.int (4 : Int32)), .val (.int (1 : Int32))] [(.int (63 : Int32)), (.int (4 : Int32)), (.ref a1)])) _
    refine XS.iadd X16.here hx rfl (hb hby d1L_61) rfl ?_
    show Steps p.tables e below (T16.setTop (mkF m 62 #[.val (.ref a1), .val (.int (4 : Int32)), .val (.int (1 : Int32))] [(.int (67 : Int32)), (.ref a1)])) _
    refine XS.bipush X16.here hx rfl (hb hby d1L_62) ?_
    show Steps p.tables e below (T16.setTop (mkF m 64 #[.val (.ref a1), .val (.int (4 : Int32)), .val (.int (1 : Int32))] [(.int (6 : Int32)), (.int (67 : Int32)), (.ref a1)])) _
    refine XS.iushr X16.here hx rfl (hb hby d1L_64) rfl ?_
    show Steps p.tables e below (T16.setTop (mkF m 65 #[.val (.ref a1), .val (.int (4 : Int32)), .val (.int (1 : Int32))] [(.int (((67 : Int32).toUInt32 >>> ((6 : Int32) &&& 31).toUInt32).toInt32)), (.ref a1)])) _
    refine st17 _ ?_
    show Steps p.tables e below (T17.setTop (mkF m 67 #[.val (.ref a1), .val (.int (4 : Int32)), .val (.int (1 : Int32))] [(.ref b17), (.ref a1)])) _
    refine XS.goto X17.here hx rfl (pc0 := 67) (pc' := 71) rfl (hb hby d1L_67) (by decide) (by decide) ?_
    show Steps p.tables e below (T17.setTop (mkF m 71 #[.val (.ref a1), .val (.int (4 : Int32)), .val (.int (1 : Int32))] [(.ref b17), (.ref a1)])) _
    refine st18 _ ?_
    show Steps p.tables e below (T18.setTop (mkF m 74 #[.val (.ref a1), .val (.int (4 : Int32)), .val (.int (1 : Int32))] [])) _
    refine XS.aloadN X18.here hx rfl (hb hby d1L_74) rfl rfl ?_
    show Steps p.tables e below (T18.setTop (mkF m 75 #[.val (.ref a1), .val (.int (4 : Int32)), .val (.int (1 : Int32))] [(.ref a1)])) _
    refine XS.iloadN X18.here hx rfl (hb hby d1L_75) rfl ?_
    show Steps p.tables e below (T18.setTop (mkF m 76 #[.val (.ref a1), .val (.int (4 : Int32)), .val (.int (1 : Int32))] [(.int (1 : Int32)), (.ref a1)])) _
    refine XS.ifNo X18.here hx rfl (hb hby d1L_76) rfl ((if0 _ _).trans (feq ((by decide) : ¬ ((1 : Int32) = (0 : Int32)))).1) ?_
    show Steps p.tables e below (T18.setTop (mkF m 79 #[.val (.ref a1), .val (.int (4 : Int32)), .val (.int (1 : Int32))] [(.ref a1)])) _
    refine XS.bipush X18.here hx rfl (hb hby d1L_79) ?_
    show Steps p.tables e below (T18.setTop (mkF m 81 #[.val (.ref a1), .val (.int (4 : Int32)), .val (.int (1 : Int32))] [(.int (16 : Int32)), (.ref a1)])) _
    refine st19 _ ?_
    show Steps p.tables e below (T19.setTop (mkF m 83 #[.val (.ref a1), .val (.int (4 : Int32)), .val (.int (1 : Int32))] [(.ref b19), (.ref a1)])) _
    refine XS.goto X19.here hx rfl (pc0 := 83) (pc' := 87) rfl (hb hby d1L_83) (by decide) (by decide) ?_
    show Steps p.tables e below (T19.setTop (mkF m 87 #[.val (.ref a1), .val (.int (4 : Int32)), .val (.int (1 : Int32))] [(.ref b19), (.ref a1)])) _
    refine st20 _ ?_
    exact kt
  show own_End p e below s (T20.setTop (mkF m 90 #[.val (.ref a1), .val (.int (4 : Int32)), .val (.int (1 : Int32))] [])) (Q1L Z a1 v1 v2 v3 h0 n0) ({ frames := 1, cells := 3, slots := 33, locals := 12 } : Room).cells ({ frames := 1, cells := 3, slots := 33, locals := 12 } : Room).slots
  obtain ⟨fs, hr, hrun, hended, hW, hsame⟩ := X20.leave (v := none) (fun _ => rfl)
  refine ⟨_, _, ?_, hrun, hended, _, _, rfl, ?_, ⟨_, rfl⟩, hW, hsame.mono (by decide) (by decide)⟩
  · exact X20.returnOut hx Bd.returns (hb hby d1L_90) hr
  · show Q1L Z a1 v1 v2 v3 h0 n0 _ T20.heap _
    rw [e20]
    exact ⟨rfl, N20, K20, ⟨fE_a1_x20, fF_a1_members_x20, fF_a1_size_x20⟩⟩
def own_hash_4 (g : Nat → Int32) (vs : Int32) (acc : Int32) (i : Int32) : Nat → Int32
  | 0 => 0
  | k + 1 => (if i < vs then (own_hash_4 g vs (((31 : Int32) * acc) + (g i.toNatClampNeg)) (i + (1 : Int32)) k) else acc)
def own_hash (g : Nat → Int32) (vs : Int32) : Int32 := (own_hash_4 g vs (1 : Int32) (0 : Int32) (vs.toInt.toNat + 1))
theorem d3N_0 : decode prog_95_method_14_code 0 = .ok (.iconst 1, 1) := by decide +kernel
theorem d3N_1 : decode prog_95_method_14_code 1 = .ok (.istore_n 1, 1) := by decide +kernel
theorem d3N_2 : decode prog_95_method_14_code 2 = .ok (.iconst 0, 1) := by decide +kernel
theorem d3N_3 : decode prog_95_method_14_code 3 = .ok (.istore_n 2, 1) := by decide +kernel
theorem d3N_4 : decode prog_95_method_14_code 4 = .ok (.iload_n 2, 1) := by decide +kernel
theorem d3N_5 : decode prog_95_method_14_code 5 = .ok (.aload_n 0, 1) := by decide +kernel
theorem d3N_6 : decode prog_95_method_14_code 6 = .ok (.getfield 37, 3) := by decide +kernel
theorem d3N_9 : decode prog_95_method_14_code 9 = .ok (.if_icmp .ge 21, 3) := by decide +kernel
theorem d3N_12 : decode prog_95_method_14_code 12 = .ok (.bipush 31, 2) := by decide +kernel
theorem d3N_14 : decode prog_95_method_14_code 14 = .ok (.iload_n 1, 1) := by decide +kernel
theorem d3N_15 : decode prog_95_method_14_code 15 = .ok (.imul, 1) := by decide +kernel
theorem d3N_16 : decode prog_95_method_14_code 16 = .ok (.aload_n 0, 1) := by decide +kernel
theorem d3N_17 : decode prog_95_method_14_code 17 = .ok (.getfield 23, 3) := by decide +kernel
theorem d3N_20 : decode prog_95_method_14_code 20 = .ok (.iload_n 2, 1) := by decide +kernel
theorem d3N_21 : decode prog_95_method_14_code 21 = .ok (.iaload, 1) := by decide +kernel
theorem d3N_22 : decode prog_95_method_14_code 22 = .ok (.iadd, 1) := by decide +kernel
theorem d3N_23 : decode prog_95_method_14_code 23 = .ok (.istore_n 1, 1) := by decide +kernel
theorem d3N_24 : decode prog_95_method_14_code 24 = .ok (.iinc 2 1, 3) := by decide +kernel
theorem d3N_27 : decode prog_95_method_14_code 27 = .ok (.goto (-23), 3) := by decide +kernel
theorem d3N_30 : decode prog_95_method_14_code 30 = .ok (.iload_n 1, 1) := by decide +kernel
theorem d3N_31 : decode prog_95_method_14_code 31 = .ok (.ireturn, 1) := by decide +kernel
theorem pn_3N : plainName "com/example/libfacet/libfacet/regex/StateSet" = true := by first | (simp [plainName, overriddenIn]; done) | decide +kernel
theorem ef_3N (m : MethodId) (x0 : Addr) : entryFrame m #[(.ref x0)] 3 = mkF m 0 #[.val (.ref x0), .unset, .unset] [] := by first | (simp [entryFrame, mkF, argsToLocals, Value.category]; done) | rfl
def Q3N (Z : State) (a1 : Addr) (am : Addr) (vs : Int32) (g : Nat → Int32) (h0 : Heap) (n0 : Nat) (v : Option Value) (h : Heap) (L : List Loc) : Prop := v = some (.int (own_hash g vs)) ∧ Fr n0 L ∧ h = h0
set_option maxRecDepth 65536 in
set_option maxHeartbeats 40000000 in
theorem rm3N (l : Launch) (Z : State) (a0 : Array Value) (hw : ∀ d ∈ tables_1, d.before a0 Z = true) (ws : List Jvm.Cond) (a1 : Addr) (am : Addr) (vs : Int32) (g : Nat → Int32) (h0 : Heap) (n0 : Nat) (Z0 : n0 ≤ h0.size) (O_a1 : own_ObjN Z h0 a1 am vs) (V_am : own_Arr Z h0 am .int (16 : Int32) (fun i => Value.int (g i))) (hs0 : 0 ≤ vs.toInt) (hs1 : vs.toInt ≤ 16) :
    MetFree l (⟨"com/example/libfacet/libfacet/regex/StateSet", "membersHash", "()I"⟩ : MethodName) (head1 (Jvm.Cond.code (⟨"com/example/libfacet/libfacet/regex/StateSet", "membersHash", "()I"⟩ : MethodName) prog_95_method_14_code 3 (some .int) :: ws) ({ frames := 0, cells := 0, slots := 0, locals := 0 } : Room)) (fun a U => a = #[(.ref a1)] ∧ Z.Warmed39 U.vm ∧ U.heap = h0) (fun _ _ _ _ _ => True) (fun _ U o U' => ∃ v L, o = .returned v ∧ Q3N Z a1 am vs g h0 n0 v U'.heap L ∧ FrameEnd U o U' L ({ frames := 0, cells := 0, slots := 0, locals := 0 } : Room).cells ({ frames := 0, cells := 0, slots := 0, locals := 0 } : Room).slots) := by
  refine MetFree.of_bodySF (plainFor_of_name pn_3N) hisR ?_
  intro p e s m args below meth c s₁ Bd hml0 hP hK
  obtain ⟨rfl, hZ, hh⟩ := hP
  have hx := Bd.exec
  have hby := Bd.bytes
  have hml : c.maxLocals = 3 := hml0
  have hown : s.vm.findClass "com/example/libfacet/libfacet/regex/StateSet" = some m.cls := findClass_of_methodNamed Bd.named
  have hnm := (name_of_methodNamed Bd.named Bd.method).1
  have X0 : Stand p l e ({ frames := 0, cells := 0, slots := 0, locals := 0 } : Room) s m #[(.ref a1)] below meth c s₁ [] 0 0 := Stand.of_body Bd
  have e0 : s₁.heap = h0 := by rw [← hh, Bd.state]; rfl
  have N0 := Fr.nil n0
  show own_End p e below s (s₁.setTop (entryFrame m #[(.ref a1)] 3)) (Q3N Z a1 am vs g h0 n0) ({ frames := 0, cells := 0, slots := 0, locals := 0 } : Room).cells ({ frames := 0, cells := 0, slots := 0, locals := 0 } : Room).slots
  obtain ⟨E_a1_1, F_members_a1_2, F_size_a1_3⟩ := O_a1
  refine own_pre (A := s₁.setTop (mkF m 0 #[.val (.ref a1), .unset, .unset] [])) (fun tt kt => castTop (ef_3N m a1) kt) ?_
  show own_End p e below s (s₁.setTop (mkF m 0 #[.val (.ref a1), .unset, .unset] [])) (Q3N Z a1 am vs g h0 n0) ({ frames := 0, cells := 0, slots := 0, locals := 0 } : Room).cells ({ frames := 0, cells := 0, slots := 0, locals := 0 } : Room).slots
  have hj : own_hash g vs = own_hash g vs := rfl
  refine own_pre (A := s₁.setTop (mkF m 4 #[.val (.ref a1), .val (.int (1 : Int32)), .val (.int (0 : Int32))] [])) (fun tt kt => ?_) ?_
  · show Steps p.tables e below (s₁.setTop (mkF m 0 #[.val (.ref a1), .unset, .unset] [])) _
    refine XS.iconst X0.here hx rfl (hb hby d3N_0) ?_
    show Steps p.tables e below (s₁.setTop (mkF m 1 #[.val (.ref a1), .unset, .unset] [(.int (1 : Int32))])) _
    refine XS.istoreN X0.here hx rfl (hb hby d3N_1) rfl (l' := #[.val (.ref a1), .val (.int (1 : Int32)), .unset]) rfl ?_
    show Steps p.tables e below (s₁.setTop (mkF m 2 #[.val (.ref a1), .val (.int (1 : Int32)), .unset] [])) _
    refine XS.iconst X0.here hx rfl (hb hby d3N_2) ?_
    show Steps p.tables e below (s₁.setTop (mkF m 3 #[.val (.ref a1), .val (.int (1 : Int32)), .unset] [(.int (0 : Int32))])) _
    refine XS.istoreN X0.here hx rfl (hb hby d3N_3) rfl (l' := #[.val (.ref a1), .val (.int (1 : Int32)), .val (.int (0 : Int32))]) rfl ?_
    exact kt
  show own_End p e below s (s₁.setTop (mkF m 4 #[.val (.ref a1), .val (.int (1 : Int32)), .val (.int (0 : Int32))] [])) (Q3N Z a1 am vs g h0 n0) ({ frames := 0, cells := 0, slots := 0, locals := 0 } : Room).cells ({ frames := 0, cells := 0, slots := 0, locals := 0 } : Room).slots
  have j4 : ∀ (k : Nat)  (Tj4 : State) (Lj4 : List Loc) (Xj4 : Stand p l e ({ frames := 0, cells := 0, slots := 0, locals := 0 } : Room) s m #[(.ref a1)] below meth c Tj4 Lj4 0 0) (ej4 : Tj4.heap = h0) (Nj4 : Fr n0 Lj4) (acc : Int32) (i : Int32)  (hi0 : 0 ≤ i.toInt) (hin : i.toInt ≤ vs.toInt) (hk : vs.toInt - i.toInt < k), own_hash g vs = own_hash_4 g vs acc i k → own_End p e below s (Tj4.setTop (mkF m 4 #[.val (.ref a1), .val (.int acc), .val (.int i)] [])) (Q3N Z a1 am vs g h0 n0) ({ frames := 0, cells := 0, slots := 0, locals := 0 } : Room).cells ({ frames := 0, cells := 0, slots := 0, locals := 0 } : Room).slots := by
    intro k
    induction k with
    | zero =>
      intro Tj4 Lj4 Xj4 ej4 Nj4 acc i  hi0 hin hk hj
      exfalso; omega
    | succ k ih =>
      intro Tj4 Lj4 Xj4 ej4 Nj4 acc i  hi0 hin hk hj
      obtain ⟨T4, X4, e4, st4⟩ := getF Xj4 hx hZ hown (host := "") (Or.inl (hw _ (List.mem_of_getElem? (i := 30) rfl))) Via.refl ej4 F_size_a1_3 (g := (mkF m 6 #[.val (.ref a1), .val (.int acc), .val (.int i)] [(.ref a1), (.int i)])) rfl rfl (hb hby d3N_6)
      refine own_pre (A := T4.setTop (mkF m 9 #[.val (.ref a1), .val (.int acc), .val (.int i)] [(.int vs), (.int i)])) (fun tt kt => ?_) ?_
      · show Steps p.tables e below (Tj4.setTop (mkF m 4 #[.val (.ref a1), .val (.int acc), .val (.int i)] [])) _
        refine XS.iloadN Xj4.here hx rfl (hb hby d3N_4) rfl ?_
        show Steps p.tables e below (Tj4.setTop (mkF m 5 #[.val (.ref a1), .val (.int acc), .val (.int i)] [(.int i)])) _
        refine XS.aloadN Xj4.here hx rfl (hb hby d3N_5) rfl rfl ?_
        show Steps p.tables e below (Tj4.setTop (mkF m 6 #[.val (.ref a1), .val (.int acc), .val (.int i)] [(.ref a1), (.int i)])) _
        refine st4 _ ?_
        exact kt
      show own_End p e below s (T4.setTop (mkF m 9 #[.val (.ref a1), .val (.int acc), .val (.int i)] [(.int vs), (.int i)])) (Q3N Z a1 am vs g h0 n0) ({ frames := 0, cells := 0, slots := 0, locals := 0 } : Room).cells ({ frames := 0, cells := 0, slots := 0, locals := 0 } : Room).slots
      by_cases hc9_5 : i < vs
      · obtain ⟨T6, X6, e6, st6⟩ := getF X4 hx hZ hown (host := "") (Or.inl (hw _ (List.mem_of_getElem? (i := 16) rfl))) Via.refl e4 F_members_a1_2 (g := (mkF m 17 #[.val (.ref a1), .val (.int acc), .val (.int i)] [(.ref a1), (.int ((31 : Int32) * acc))])) rfl rfl (hb hby d3N_17)
        obtain ⟨cl7, Ar7, S7, Nn7, G7⟩ := id V_am
        have hin7 : ¬ (i < 0 ∨ cl7.slots.size ≤ i.toNatClampNeg) := inb_of S7 (own_inb2 hi0 (by have := own_next hi0 hc9_5; have z : (16 : Int32).toInt = 16 := (by decide); omega) : ¬ i < 0 ∧ i < (16 : Int32))
        have hat7 : cl7.slots[i.toNatClampNeg]? = some (.int (g i.toNatClampNeg)) := own_at S7 G7 hin7
        refine own_pre (A := T6.setTop (mkF m 4 #[.val (.ref a1), .val (.int (((31 : Int32) * acc) + (g i.toNatClampNeg))), .val (.int (i + (1 : Int32)))] [])) (fun tt kt => ?_) ?_
        · show Steps p.tables e below (T4.setTop (mkF m 9 #[.val (.ref a1), .val (.int acc), .val (.int i)] [(.int vs), (.int i)])) _
          refine XS.icmpNo X4.here hx rfl (hb hby d3N_9) rfl (tlt hc9_5).2.1 ?_
          show Steps p.tables e below (T4.setTop (mkF m 12 #[.val (.ref a1), .val (.int acc), .val (.int i)] [])) _
          refine XS.bipush X4.here hx rfl (hb hby d3N_12) ?_
          show Steps p.tables e below (T4.setTop (mkF m 14 #[.val (.ref a1), .val (.int acc), .val (.int i)] [(.int (31 : Int32))])) _
          refine XS.iloadN X4.here hx rfl (hb hby d3N_14) rfl ?_
          show Steps p.tables e below (T4.setTop (mkF m 15 #[.val (.ref a1), .val (.int acc), .val (.int i)] [(.int acc), (.int (31 : Int32))])) _
          refine XS.imul X4.here hx rfl (hb hby d3N_15) rfl ?_
          show Steps p.tables e below (T4.setTop (mkF m 16 #[.val (.ref a1), .val (.int acc), .val (.int i)] [(.int ((31 : Int32) * acc))])) _
          refine XS.aloadN X4.here hx rfl (hb hby d3N_16) rfl rfl ?_
          show Steps p.tables e below (T4.setTop (mkF m 17 #[.val (.ref a1), .val (.int acc), .val (.int i)] [(.ref a1), (.int ((31 : Int32) * acc))])) _
          refine st6 _ ?_
          show Steps p.tables e below (T6.setTop (mkF m 20 #[.val (.ref a1), .val (.int acc), .val (.int i)] [(.ref am), (.int ((31 : Int32) * acc))])) _
          refine XS.iloadN X6.here hx rfl (hb hby d3N_20) rfl ?_
          show Steps p.tables e below (T6.setTop (mkF m 21 #[.val (.ref a1), .val (.int acc), .val (.int i)] [(.int i), (.ref am), (.int ((31 : Int32) * acc))])) _
          refine X6.iaload hx (j := i) (v := (.int (g i.toNatClampNeg))) (by rw [e6]; exact Ar7.1) (State.isArrayOf_alike hZ.alike Ar7.2.1) Ar7.2.2 hin7 hat7 (g := (mkF m 21 #[.val (.ref a1), .val (.int acc), .val (.int i)] [(.int i), (.ref am), (.int ((31 : Int32) * acc))])) rfl rfl (hb hby d3N_21) _ ?_
          show Steps p.tables e below (T6.setTop (mkF m 22 #[.val (.ref a1), .val (.int acc), .val (.int i)] [(.int (g i.toNatClampNeg)), (.int ((31 : Int32) * acc))])) _
          refine XS.iadd X6.here hx rfl (hb hby d3N_22) rfl ?_
          show Steps p.tables e below (T6.setTop (mkF m 23 #[.val (.ref a1), .val (.int acc), .val (.int i)] [(.int (((31 : Int32) * acc) + (g i.toNatClampNeg)))])) _
          refine XS.istoreN X6.here hx rfl (hb hby d3N_23) rfl (l' := #[.val (.ref a1), .val (.int (((31 : Int32) * acc) + (g i.toNatClampNeg))), .val (.int i)]) rfl ?_
          show Steps p.tables e below (T6.setTop (mkF m 24 #[.val (.ref a1), .val (.int (((31 : Int32) * acc) + (g i.toNatClampNeg))), .val (.int i)] [])) _
          refine XS.iinc X6.here hx rfl (hb hby d3N_24) rfl (l' := #[.val (.ref a1), .val (.int (((31 : Int32) * acc) + (g i.toNatClampNeg))), .val (.int (i + (1 : Int32)))]) rfl ?_
          show Steps p.tables e below (T6.setTop (mkF m 27 #[.val (.ref a1), .val (.int (((31 : Int32) * acc) + (g i.toNatClampNeg))), .val (.int (i + (1 : Int32)))] [])) _
          refine XS.goto X6.here hx rfl (pc0 := 27) (pc' := 4) rfl (hb hby d3N_27) (by decide) (by decide) ?_
          exact kt
        show own_End p e below s (T6.setTop (mkF m 4 #[.val (.ref a1), .val (.int (((31 : Int32) * acc) + (g i.toNatClampNeg))), .val (.int (i + (1 : Int32)))] [])) (Q3N Z a1 am vs g h0 n0) ({ frames := 0, cells := 0, slots := 0, locals := 0 } : Room).cells ({ frames := 0, cells := 0, slots := 0, locals := 0 } : Room).slots
        exact ih _ _ X6 e6 Nj4 (((31 : Int32) * acc) + (g i.toNatClampNeg)) (i + (1 : Int32))  (by have := own_next hi0 hc9_5; omega) (by have := own_next hi0 hc9_5; omega) (by have := own_next hi0 hc9_5; omega) (hj.trans (by simp only [own_hash_4, if_pos hc9_5]))
      · refine own_pre (A := T4.setTop (mkF m 31 #[.val (.ref a1), .val (.int acc), .val (.int i)] [(.int acc)])) (fun tt kt => ?_) ?_
        · show Steps p.tables e below (T4.setTop (mkF m 9 #[.val (.ref a1), .val (.int acc), .val (.int i)] [(.int vs), (.int i)])) _
          refine XS.icmpYes X4.here hx rfl (pc0 := 9) (pc' := 30) rfl (hb hby d3N_9) rfl (flt hc9_5).2.1 (by decide) (by decide) ?_
          show Steps p.tables e below (T4.setTop (mkF m 30 #[.val (.ref a1), .val (.int acc), .val (.int i)] [])) _
          refine XS.iloadN X4.here hx rfl (hb hby d3N_30) rfl ?_
          exact kt
        show own_End p e below s (T4.setTop (mkF m 31 #[.val (.ref a1), .val (.int acc), .val (.int i)] [(.int acc)])) (Q3N Z a1 am vs g h0 n0) ({ frames := 0, cells := 0, slots := 0, locals := 0 } : Room).cells ({ frames := 0, cells := 0, slots := 0, locals := 0 } : Room).slots
        have hv : (own_hash g vs) = acc := hj.trans (by simp only [own_hash_4, if_neg hc9_5])
        obtain ⟨fs, hr, hrun, hended, hW, hsame⟩ := X4.leave (v := some (.int acc)) (fun h => by rw [Bd.returns] at h; cases h)
        refine ⟨_, _, ?_, hrun, hended, _, _, rfl, ?_, ⟨_, rfl⟩, hW, hsame.mono (by decide) (by decide)⟩
        · exact retI X4 hx Bd.returns (hb hby d3N_31) hr
        · show Q3N Z a1 am vs g h0 n0 _ T4.heap _
          rw [e4]
          exact ⟨(congrArg (fun z => some (Value.int z)) hv.symm), Nj4, rfl⟩
  exact j4 (vs.toInt.toNat + 1) _ _ X0 e0 N0 (1 : Int32) (0 : Int32)  (by decide) (by have z : (0 : Int32).toInt = 0 := (by decide); omega) (by have z : (0 : Int32).toInt = 0 := (by decide); omega) (hj.trans (by simp only [own_hash]))
theorem d3L_0 : decode prog_95_method_14_code 0 = .ok (.iconst 1, 1) := by decide +kernel
theorem d3L_1 : decode prog_95_method_14_code 1 = .ok (.istore_n 1, 1) := by decide +kernel
theorem d3L_2 : decode prog_95_method_14_code 2 = .ok (.iconst 0, 1) := by decide +kernel
theorem d3L_3 : decode prog_95_method_14_code 3 = .ok (.istore_n 2, 1) := by decide +kernel
theorem d3L_4 : decode prog_95_method_14_code 4 = .ok (.iload_n 2, 1) := by decide +kernel
theorem d3L_5 : decode prog_95_method_14_code 5 = .ok (.aload_n 0, 1) := by decide +kernel
theorem d3L_6 : decode prog_95_method_14_code 6 = .ok (.getfield 37, 3) := by decide +kernel
theorem d3L_9 : decode prog_95_method_14_code 9 = .ok (.if_icmp .ge 21, 3) := by decide +kernel
theorem d3L_30 : decode prog_95_method_14_code 30 = .ok (.iload_n 1, 1) := by decide +kernel
theorem d3L_31 : decode prog_95_method_14_code 31 = .ok (.ireturn, 1) := by decide +kernel
theorem pn_3L : plainName "com/example/libfacet/libfacet/regex/StateSet" = true := by first | (simp [plainName, overriddenIn]; done) | decide +kernel
theorem ef_3L (m : MethodId) (x0 : Addr) : entryFrame m #[(.ref x0)] 3 = mkF m 0 #[.val (.ref x0), .unset, .unset] [] := by first | (simp [entryFrame, mkF, argsToLocals, Value.category]; done) | rfl
def Q3L (Z : State) (a1 : Addr) (h0 : Heap) (n0 : Nat) (v : Option Value) (h : Heap) (L : List Loc) : Prop := v = some (.int (1 : Int32)) ∧ Fr n0 L ∧ h = h0
set_option maxRecDepth 65536 in
set_option maxHeartbeats 40000000 in
theorem rm3L (l : Launch) (Z : State) (a0 : Array Value) (hw : ∀ d ∈ tables_1, d.before a0 Z = true) (ws : List Jvm.Cond) (a1 : Addr) (h0 : Heap) (n0 : Nat) (Z0 : n0 ≤ h0.size) (O_a1 : own_ObjL Z h0 a1 (0 : Int32)) :
    MetFree l (⟨"com/example/libfacet/libfacet/regex/StateSet", "membersHash", "()I"⟩ : MethodName) (head1 (Jvm.Cond.code (⟨"com/example/libfacet/libfacet/regex/StateSet", "membersHash", "()I"⟩ : MethodName) prog_95_method_14_code 3 (some .int) :: ws) ({ frames := 0, cells := 0, slots := 0, locals := 0 } : Room)) (fun a U => a = #[(.ref a1)] ∧ Z.Warmed39 U.vm ∧ U.heap = h0) (fun _ _ _ _ _ => True) (fun _ U o U' => ∃ v L, o = .returned v ∧ Q3L Z a1 h0 n0 v U'.heap L ∧ FrameEnd U o U' L ({ frames := 0, cells := 0, slots := 0, locals := 0 } : Room).cells ({ frames := 0, cells := 0, slots := 0, locals := 0 } : Room).slots) := by
  refine MetFree.of_bodySF (plainFor_of_name pn_3L) hisR ?_
  intro p e s m args below meth c s₁ Bd hml0 hP hK
  obtain ⟨rfl, hZ, hh⟩ := hP
  have hx := Bd.exec
  have hby := Bd.bytes
  have hml : c.maxLocals = 3 := hml0
  have hown : s.vm.findClass "com/example/libfacet/libfacet/regex/StateSet" = some m.cls := findClass_of_methodNamed Bd.named
  have hnm := (name_of_methodNamed Bd.named Bd.method).1
  have X0 : Stand p l e ({ frames := 0, cells := 0, slots := 0, locals := 0 } : Room) s m #[(.ref a1)] below meth c s₁ [] 0 0 := Stand.of_body Bd
  have e0 : s₁.heap = h0 := by rw [← hh, Bd.state]; rfl
  have N0 := Fr.nil n0
  show own_End p e below s (s₁.setTop (entryFrame m #[(.ref a1)] 3)) (Q3L Z a1 h0 n0) ({ frames := 0, cells := 0, slots := 0, locals := 0 } : Room).cells ({ frames := 0, cells := 0, slots := 0, locals := 0 } : Room).slots
  obtain ⟨E_a1_1, F_members_a1_2, F_size_a1_3⟩ := O_a1
  refine own_pre (A := s₁.setTop (mkF m 0 #[.val (.ref a1), .unset, .unset] [])) (fun tt kt => castTop (ef_3L m a1) kt) ?_
  show own_End p e below s (s₁.setTop (mkF m 0 #[.val (.ref a1), .unset, .unset] [])) (Q3L Z a1 h0 n0) ({ frames := 0, cells := 0, slots := 0, locals := 0 } : Room).cells ({ frames := 0, cells := 0, slots := 0, locals := 0 } : Room).slots
  obtain ⟨T4, X4, e4, st4⟩ := getF X0 hx hZ hown (host := "") (Or.inl (hw _ (List.mem_of_getElem? (i := 30) rfl))) Via.refl e0 F_size_a1_3 (g := (mkF m 6 #[.val (.ref a1), .val (.int (1 : Int32)), .val (.int (0 : Int32))] [(.ref a1), (.int (0 : Int32))])) rfl rfl (hb hby d3L_6)
  refine own_pre (A := T4.setTop (mkF m 31 #[.val (.ref a1), .val (.int (1 : Int32)), .val (.int (0 : Int32))] [(.int (1 : Int32))])) (fun tt kt => ?_) ?_
  · show Steps p.tables e below (s₁.setTop (mkF m 0 #[.val (.ref a1), .unset, .unset] [])) _
    refine XS.iconst X0.here hx rfl (hb hby d3L_0) ?_
    show Steps p.tables e below (s₁.setTop (mkF m 1 #[.val (.ref a1), .unset, .unset] [(.int (1 : Int32))])) _
    refine XS.istoreN X0.here hx rfl (hb hby d3L_1) rfl (l' := #[.val (.ref a1), .val (.int (1 : Int32)), .unset]) rfl ?_
    show Steps p.tables e below (s₁.setTop (mkF m 2 #[.val (.ref a1), .val (.int (1 : Int32)), .unset] [])) _
    refine XS.iconst X0.here hx rfl (hb hby d3L_2) ?_
    show Steps p.tables e below (s₁.setTop (mkF m 3 #[.val (.ref a1), .val (.int (1 : Int32)), .unset] [(.int (0 : Int32))])) _
    refine XS.istoreN X0.here hx rfl (hb hby d3L_3) rfl (l' := #[.val (.ref a1), .val (.int (1 : Int32)), .val (.int (0 : Int32))]) rfl ?_
    show Steps p.tables e below (s₁.setTop (mkF m 4 #[.val (.ref a1), .val (.int (1 : Int32)), .val (.int (0 : Int32))] [])) _
    refine XS.iloadN X0.here hx rfl (hb hby d3L_4) rfl ?_
    show Steps p.tables e below (s₁.setTop (mkF m 5 #[.val (.ref a1), .val (.int (1 : Int32)), .val (.int (0 : Int32))] [(.int (0 : Int32))])) _
    refine XS.aloadN X0.here hx rfl (hb hby d3L_5) rfl rfl ?_
    show Steps p.tables e below (s₁.setTop (mkF m 6 #[.val (.ref a1), .val (.int (1 : Int32)), .val (.int (0 : Int32))] [(.ref a1), (.int (0 : Int32))])) _
    refine st4 _ ?_
    show Steps p.tables e below (T4.setTop (mkF m 9 #[.val (.ref a1), .val (.int (1 : Int32)), .val (.int (0 : Int32))] [(.int (0 : Int32)), (.int (0 : Int32))])) _
    refine XS.icmpYes X4.here hx rfl (pc0 := 9) (pc' := 30) rfl (hb hby d3L_9) rfl (flt ((by decide) : ¬ ((0 : Int32) < (0 : Int32)))).2.1 (by decide) (by decide) ?_
    show Steps p.tables e below (T4.setTop (mkF m 30 #[.val (.ref a1), .val (.int (1 : Int32)), .val (.int (0 : Int32))] [])) _
    refine XS.iloadN X4.here hx rfl (hb hby d3L_30) rfl ?_
    exact kt
  show own_End p e below s (T4.setTop (mkF m 31 #[.val (.ref a1), .val (.int (1 : Int32)), .val (.int (0 : Int32))] [(.int (1 : Int32))])) (Q3L Z a1 h0 n0) ({ frames := 0, cells := 0, slots := 0, locals := 0 } : Room).cells ({ frames := 0, cells := 0, slots := 0, locals := 0 } : Room).slots
  obtain ⟨fs, hr, hrun, hended, hW, hsame⟩ := X4.leave (v := some (.int (1 : Int32))) (fun h => by rw [Bd.returns] at h; cases h)
  refine ⟨_, _, ?_, hrun, hended, _, _, rfl, ?_, ⟨_, rfl⟩, hW, hsame.mono (by decide) (by decide)⟩
  · exact retI X4 hx Bd.returns (hb hby d3L_31) hr
  · show Q3L Z a1 h0 n0 _ T4.heap _
    rw [e4]
    exact ⟨rfl, N0, rfl⟩
theorem d4N_0 : decode prog_95_method_9_code 0 = .ok (.aload_n 0, 1) := by decide +kernel
theorem d4N_1 : decode prog_95_method_9_code 1 = .ok (.getfield 23, 3) := by decide +kernel
theorem d4N_4 : decode prog_95_method_9_code 4 = .ok (.ifnull 49, 3) := by decide +kernel
theorem d4N_7 : decode prog_95_method_9_code 7 = .ok (.aload_n 0, 1) := by decide +kernel
theorem d4N_8 : decode prog_95_method_9_code 8 = .ok (.getfield 37, 3) := by decide +kernel
theorem d4N_11 : decode prog_95_method_9_code 11 = .ok (.aload_n 0, 1) := by decide +kernel
theorem d4N_12 : decode prog_95_method_9_code 12 = .ok (.getfield 23, 3) := by decide +kernel
theorem d4N_15 : decode prog_95_method_9_code 15 = .ok (.arraylength, 1) := by decide +kernel
theorem d4N_16 : decode prog_95_method_9_code 16 = .ok (.if_icmp .ne 20, 3) := by decide +kernel
theorem d4N_36 : decode prog_95_method_9_code 36 = .ok (.aload_n 0, 1) := by decide +kernel
theorem d4N_37 : decode prog_95_method_9_code 37 = .ok (.getfield 23, 3) := by decide +kernel
theorem d4N_40 : decode prog_95_method_9_code 40 = .ok (.aload_n 0, 1) := by decide +kernel
theorem d4N_41 : decode prog_95_method_9_code 41 = .ok (.dup, 1) := by decide +kernel
theorem d4N_42 : decode prog_95_method_9_code 42 = .ok (.getfield 37, 3) := by decide +kernel
theorem d4N_45 : decode prog_95_method_9_code 45 = .ok (.dup_x1, 1) := by decide +kernel
theorem d4N_46 : decode prog_95_method_9_code 46 = .ok (.iconst 1, 1) := by decide +kernel
theorem d4N_47 : decode prog_95_method_9_code 47 = .ok (.iadd, 1) := by decide +kernel
theorem d4N_48 : decode prog_95_method_9_code 48 = .ok (.putfield 37, 3) := by decide +kernel
theorem d4N_51 : decode prog_95_method_9_code 51 = .ok (.iload_n 1, 1) := by decide +kernel
theorem d4N_52 : decode prog_95_method_9_code 52 = .ok (.iastore, 1) := by decide +kernel
theorem d4N_53 : decode prog_95_method_9_code 53 = .ok (.return_, 1) := by decide +kernel
theorem pn_4N : plainName "com/example/libfacet/libfacet/regex/StateSet" = true := by first | (simp [plainName, overriddenIn]; done) | decide +kernel
theorem ef_4N (m : MethodId) (x0 : Addr) (x1 : Int32) : entryFrame m #[(.ref x0), (.int x1)] 2 = mkF m 0 #[.val (.ref x0), .val (.int x1)] [] := by first | (simp [entryFrame, mkF, argsToLocals, Value.category]; done) | rfl
def Q4N (Z : State) (a1 : Addr) (p2 : Int32) (am : Addr) (vs : Int32) (g : Nat → Int32) (h0 : Heap) (n0 : Nat) (v : Option Value) (h : Heap) (L : List Loc) : Prop := v = none ∧ Fr n0 L ∧ Keep h0 h [a1, am] ∧ own_ObjN Z h a1 am (vs + (1 : Int32)) ∧ own_Arr Z h am .int (16 : Int32) (fun i => Value.int ((own_put g vs p2) i))
set_option maxRecDepth 65536 in
set_option maxHeartbeats 40000000 in
theorem rm4N (l : Launch) (Z : State) (a0 : Array Value) (hw : ∀ d ∈ tables_1, d.before a0 Z = true) (ws : List Jvm.Cond) (a1 : Addr) (p2 : Int32) (am : Addr) (vs : Int32) (g : Nat → Int32) (h0 : Heap) (n0 : Nat) (Z0 : n0 ≤ h0.size) (O_a1 : own_ObjN Z h0 a1 am vs) (V_am : own_Arr Z h0 am .int (16 : Int32) (fun i => Value.int (g i))) (ne_a1_am : a1 ≠ am) (g_a1 : n0 ≤ a1) (g_am : n0 ≤ am) (hs0 : 0 ≤ vs.toInt) (hs1 : vs.toInt < 16) :
    MetFree l (⟨"com/example/libfacet/libfacet/regex/StateSet", "add", "(I)V"⟩ : MethodName) (head1 (Jvm.Cond.code (⟨"com/example/libfacet/libfacet/regex/StateSet", "add", "(I)V"⟩ : MethodName) prog_95_method_9_code 2 none :: ws) ({ frames := 0, cells := 0, slots := 0, locals := 0 } : Room)) (fun a U => a = #[(.ref a1), (.int p2)] ∧ Z.Warmed39 U.vm ∧ U.heap = h0) (fun _ _ _ _ _ => True) (fun _ U o U' => ∃ v L, o = .returned v ∧ Q4N Z a1 p2 am vs g h0 n0 v U'.heap L ∧ FrameEnd U o U' L ({ frames := 0, cells := 0, slots := 0, locals := 0 } : Room).cells ({ frames := 0, cells := 0, slots := 0, locals := 0 } : Room).slots) := by
  refine MetFree.of_bodySF (plainFor_of_name pn_4N) hisR ?_
  intro p e s m args below meth c s₁ Bd hml0 hP hK
  obtain ⟨rfl, hZ, hh⟩ := hP
  have hx := Bd.exec
  have hby := Bd.bytes
  have hml : c.maxLocals = 2 := hml0
  have hown : s.vm.findClass "com/example/libfacet/libfacet/regex/StateSet" = some m.cls := findClass_of_methodNamed Bd.named
  have hnm := (name_of_methodNamed Bd.named Bd.method).1
  have X0 : Stand p l e ({ frames := 0, cells := 0, slots := 0, locals := 0 } : Room) s m #[(.ref a1), (.int p2)] below meth c s₁ [] 0 0 := Stand.of_body Bd
  have e0 : s₁.heap = h0 := by rw [← hh, Bd.state]; rfl
  have N0 := Fr.nil n0
  show own_End p e below s (s₁.setTop (entryFrame m #[(.ref a1), (.int p2)] 2)) (Q4N Z a1 p2 am vs g h0 n0) ({ frames := 0, cells := 0, slots := 0, locals := 0 } : Room).cells ({ frames := 0, cells := 0, slots := 0, locals := 0 } : Room).slots
  obtain ⟨E_a1_1, F_members_a1_2, F_size_a1_3⟩ := O_a1
  refine own_pre (A := s₁.setTop (mkF m 0 #[.val (.ref a1), .val (.int p2)] [])) (fun tt kt => castTop (ef_4N m a1 p2) kt) ?_
  show own_End p e below s (s₁.setTop (mkF m 0 #[.val (.ref a1), .val (.int p2)] [])) (Q4N Z a1 p2 am vs g h0 n0) ({ frames := 0, cells := 0, slots := 0, locals := 0 } : Room).cells ({ frames := 0, cells := 0, slots := 0, locals := 0 } : Room).slots
  obtain ⟨T4, X4, e4, st4⟩ := getF X0 hx hZ hown (host := "") (Or.inl (hw _ (List.mem_of_getElem? (i := 16) rfl))) Via.refl e0 F_members_a1_2 (g := (mkF m 1 #[.val (.ref a1), .val (.int p2)] [(.ref a1)])) rfl rfl (hb hby d4N_1)
  obtain ⟨T5, X5, e5, st5⟩ := getF X4 hx hZ hown (host := "") (Or.inl (hw _ (List.mem_of_getElem? (i := 30) rfl))) Via.refl e4 F_size_a1_3 (g := (mkF m 8 #[.val (.ref a1), .val (.int p2)] [(.ref a1)])) rfl rfl (hb hby d4N_8)
  obtain ⟨T6, X6, e6, st6⟩ := getF X5 hx hZ hown (host := "") (Or.inl (hw _ (List.mem_of_getElem? (i := 16) rfl))) Via.refl e5 F_members_a1_2 (g := (mkF m 12 #[.val (.ref a1), .val (.int p2)] [(.ref a1), (.int vs)])) rfl rfl (hb hby d4N_12)
  obtain ⟨cl7, Ar7, S7, Nn7, G7⟩ := id V_am
  obtain ⟨T8, X8, e8, st8⟩ := getF X6 hx hZ hown (host := "") (Or.inl (hw _ (List.mem_of_getElem? (i := 16) rfl))) Via.refl e6 F_members_a1_2 (g := (mkF m 37 #[.val (.ref a1), .val (.int p2)] [(.ref a1)])) rfl rfl (hb hby d4N_37)
  obtain ⟨T9, X9, e9, st9⟩ := getF X8 hx hZ hown (host := "") (Or.inl (hw _ (List.mem_of_getElem? (i := 30) rfl))) Via.refl e8 F_size_a1_3 (g := (mkF m 42 #[.val (.ref a1), .val (.int p2)] [(.ref a1), (.ref a1), (.ref am)])) rfl rfl (hb hby d4N_42)
  obtain ⟨T10, h10, X10, e10, W10, st10⟩ := putF X9 hx hZ hown (host := "") (Or.inl (hw _ (List.mem_of_getElem? (i := 30) rfl))) Via.refl e9 F_size_a1_3 E_a1_1 (Or.inl (hw _ (List.mem_of_getElem? (i := 31) rfl))) (hw _ (List.mem_of_getElem? (i := 1) rfl)) (ty := .int) (by decide) rfl rfl (g := (mkF m 48 #[.val (.ref a1), .val (.int p2)] [(.int (vs + (1 : Int32))), (.ref a1), (.int vs), (.ref am)])) rfl rfl (hb hby d4N_48)
  have Fw10 := Fld.same W10 F_size_a1_3
  have fE_a1_x10 := (E_a1_1.wr W10)
  have fF_a1_members_x10 := (Fld.other W10 F_members_a1_2 (Or.inr (slot_ne (Or.inl (hw _ (List.mem_of_getElem? (i := 17) rfl))) (Or.inl (hw _ (List.mem_of_getElem? (i := 31) rfl))) (by decide) (t := (.array .int)) (t' := .int) (by decide) (by decide))))
  have fA_am_x10 := (V_am.other W10 (Ne.symm ne_a1_am))
  have N10 := Fr.snoc X10 N0 g_a1
  have K10 : Keep h0 h10 [a1, am] := Keep.wr (Keep.refl h0 _) W10 (Or.inl (List.mem_of_getElem? (i := 0) rfl))
  have Z10 : n0 ≤ h10.size := Nat.le_trans Z0 (Nat.le_of_eq W10.size.symm)
  obtain ⟨cl11, Ar11, S11, Nn11, G11⟩ := id fA_am_x10
  have hin11 : ¬ (vs < 0 ∨ cl11.slots.size ≤ vs.toNatClampNeg) := inb_of S11 (own_inb2 hs0 (by have z : (16 : Int32).toInt = 16 := (by decide); omega) : ¬ vs < 0 ∧ vs < (16 : Int32))
  obtain ⟨T12, h12, X12, e12, W12, st12⟩ := stI X10 hx hZ e10 Ar11 (j := vs) hin11 (g := (mkF m 52 #[.val (.ref a1), .val (.int p2)] [(.int p2), (.int vs), (.ref am)])) rfl rfl (hb hby d4N_52)
  have fE_a1_x12 := (fE_a1_x10.wr W12)
  have fF_a1_members_x12 := (Fld.other W12 fF_a1_members_x10 (Or.inl ne_a1_am))
  have fF_a1_size_x12 := (Fld.other W12 Fw10 (Or.inl ne_a1_am))
  have V12 : own_Arr Z h12 am .int (16 : Int32) (fun i => Value.int ((own_put g vs p2) i)) := own_Arr.set (w := Value.int) (g := g) (x := p2) fA_am_x10 W12 rfl (fun i => rfl)
  have N12 := Fr.snoc X12 N10 g_am
  have K12 : Keep h0 h12 [a1, am] := Keep.wr K10 W12 (Or.inl (List.mem_of_getElem? (i := 1) rfl))
  have Z12 : n0 ≤ h12.size := Nat.le_trans Z10 (Nat.le_of_eq W12.size.symm)
  refine own_pre (A := T12.setTop (mkF m 53 #[.val (.ref a1), .val (.int p2)] [])) (fun tt kt => ?_) ?_
  · show Steps p.tables e below (s₁.setTop (mkF m 0 #[.val (.ref a1), .val (.int p2)] [])) _
    refine XS.aloadN X0.here hx rfl (hb hby d4N_0) rfl rfl ?_
    show Steps p.tables e below (s₁.setTop (mkF m 1 #[.val (.ref a1), .val (.int p2)] [(.ref a1)])) _
    refine st4 _ ?_
    show Steps p.tables e below (T4.setTop (mkF m 4 #[.val (.ref a1), .val (.int p2)] [(.ref am)])) _
    refine XS.ifnullNo X4.here hx rfl (hb hby d4N_4) rfl ?_
    show Steps p.tables e below (T4.setTop (mkF m 7 #[.val (.ref a1), .val (.int p2)] [])) _
    refine XS.aloadN X4.here hx rfl (hb hby d4N_7) rfl rfl ?_
    show Steps p.tables e below (T4.setTop (mkF m 8 #[.val (.ref a1), .val (.int p2)] [(.ref a1)])) _
    refine st5 _ ?_
    show Steps p.tables e below (T5.setTop (mkF m 11 #[.val (.ref a1), .val (.int p2)] [(.int vs)])) _
    refine XS.aloadN X5.here hx rfl (hb hby d4N_11) rfl rfl ?_
    show Steps p.tables e below (T5.setTop (mkF m 12 #[.val (.ref a1), .val (.int p2)] [(.ref a1), (.int vs)])) _
    refine st6 _ ?_
    show Steps p.tables e below (T6.setTop (mkF m 15 #[.val (.ref a1), .val (.int p2)] [(.ref am), (.int vs)])) _
    refine X6.arraylength hx (by rw [e6]; exact Ar7.1) (State.isArrayOf_alike hZ.alike Ar7.2.1) (g := (mkF m 15 #[.val (.ref a1), .val (.int p2)] [(.ref am), (.int vs)])) rfl rfl (hb hby d4N_15) _ ?_
    rw [len_of S7 Nn7]
    show Steps p.tables e below (T6.setTop (mkF m 16 #[.val (.ref a1), .val (.int p2)] [(.int (16 : Int32)), (.int vs)])) _
    refine XS.icmpYes X6.here hx rfl (pc0 := 16) (pc' := 36) rfl (hb hby d4N_16) rfl (feq (own_lt16 hs1 : ¬ (vs = (16 : Int32)))).2 (by decide) (by decide) ?_
    show Steps p.tables e below (T6.setTop (mkF m 36 #[.val (.ref a1), .val (.int p2)] [])) _
    refine XS.aloadN X6.here hx rfl (hb hby d4N_36) rfl rfl ?_
    show Steps p.tables e below (T6.setTop (mkF m 37 #[.val (.ref a1), .val (.int p2)] [(.ref a1)])) _
    refine st8 _ ?_
    show Steps p.tables e below (T8.setTop (mkF m 40 #[.val (.ref a1), .val (.int p2)] [(.ref am)])) _
    refine XS.aloadN X8.here hx rfl (hb hby d4N_40) rfl rfl ?_
    show Steps p.tables e below (T8.setTop (mkF m 41 #[.val (.ref a1), .val (.int p2)] [(.ref a1), (.ref am)])) _
    refine XS.dup X8.here hx rfl (hb hby d4N_41) rfl rfl ?_
    show Steps p.tables e below (T8.setTop (mkF m 42 #[.val (.ref a1), .val (.int p2)] [(.ref a1), (.ref a1), (.ref am)])) _
    refine st9 _ ?_
    show Steps p.tables e below (T9.setTop (mkF m 45 #[.val (.ref a1), .val (.int p2)] [(.int vs), (.ref a1), (.ref am)])) _
    refine XS.dupX1 X9.here hx rfl (hb hby d4N_45) rfl rfl rfl ?_
    show Steps p.tables e below (T9.setTop (mkF m 46 #[.val (.ref a1), .val (.int p2)] [(.int vs), (.ref a1), (.int vs), (.ref am)])) _
    refine XS.iconst X9.here hx rfl (hb hby d4N_46) ?_
    show Steps p.tables e below (T9.setTop (mkF m 47 #[.val (.ref a1), .val (.int p2)] [(.int (1 : Int32)), (.int vs), (.ref a1), (.int vs), (.ref am)])) _
    refine XS.iadd X9.here hx rfl (hb hby d4N_47) rfl ?_
    show Steps p.tables e below (T9.setTop (mkF m 48 #[.val (.ref a1), .val (.int p2)] [(.int (vs + (1 : Int32))), (.ref a1), (.int vs), (.ref am)])) _
    refine st10 _ ?_
    show Steps p.tables e below (T10.setTop (mkF m 51 #[.val (.ref a1), .val (.int p2)] [(.int vs), (.ref am)])) _
    refine XS.iloadN X10.here hx rfl (hb hby d4N_51) rfl ?_
    show Steps p.tables e below (T10.setTop (mkF m 52 #[.val (.ref a1), .val (.int p2)] [(.int p2), (.int vs), (.ref am)])) _
    refine st12 _ ?_
    exact kt
  show own_End p e below s (T12.setTop (mkF m 53 #[.val (.ref a1), .val (.int p2)] [])) (Q4N Z a1 p2 am vs g h0 n0) ({ frames := 0, cells := 0, slots := 0, locals := 0 } : Room).cells ({ frames := 0, cells := 0, slots := 0, locals := 0 } : Room).slots
  obtain ⟨fs, hr, hrun, hended, hW, hsame⟩ := X12.leave (v := none) (fun _ => rfl)
  refine ⟨_, _, ?_, hrun, hended, _, _, rfl, ?_, ⟨_, rfl⟩, hW, hsame.mono (by decide) (by decide)⟩
  · exact X12.returnOut hx Bd.returns (hb hby d4N_53) hr
  · show Q4N Z a1 p2 am vs g h0 n0 _ T12.heap _
    rw [e12]
    exact ⟨rfl, N12, K12, ⟨fE_a1_x12, fF_a1_members_x12, fF_a1_size_x12⟩, V12⟩
theorem d4L_0 : decode prog_95_method_9_code 0 = .ok (.aload_n 0, 1) := by decide +kernel
theorem d4L_1 : decode prog_95_method_9_code 1 = .ok (.getfield 23, 3) := by decide +kernel
theorem d4L_4 : decode prog_95_method_9_code 4 = .ok (.ifnull 49, 3) := by decide +kernel
theorem d4L_53 : decode prog_95_method_9_code 53 = .ok (.return_, 1) := by decide +kernel
theorem pn_4L : plainName "com/example/libfacet/libfacet/regex/StateSet" = true := by first | (simp [plainName, overriddenIn]; done) | decide +kernel
theorem ef_4L (m : MethodId) (x0 : Addr) (x1 : Int32) : entryFrame m #[(.ref x0), (.int x1)] 2 = mkF m 0 #[.val (.ref x0), .val (.int x1)] [] := by first | (simp [entryFrame, mkF, argsToLocals, Value.category]; done) | rfl
def Q4L (Z : State) (a1 : Addr) (p2 : Int32) (vs : Int32) (h0 : Heap) (n0 : Nat) (v : Option Value) (h : Heap) (L : List Loc) : Prop := v = none ∧ Fr n0 L ∧ h = h0
set_option maxRecDepth 65536 in
set_option maxHeartbeats 40000000 in
theorem rm4L (l : Launch) (Z : State) (a0 : Array Value) (hw : ∀ d ∈ tables_1, d.before a0 Z = true) (ws : List Jvm.Cond) (a1 : Addr) (p2 : Int32) (vs : Int32) (h0 : Heap) (n0 : Nat) (Z0 : n0 ≤ h0.size) (O_a1 : own_ObjL Z h0 a1 vs) :
    MetFree l (⟨"com/example/libfacet/libfacet/regex/StateSet", "add", "(I)V"⟩ : MethodName) (head1 (Jvm.Cond.code (⟨"com/example/libfacet/libfacet/regex/StateSet", "add", "(I)V"⟩ : MethodName) prog_95_method_9_code 2 none :: ws) ({ frames := 0, cells := 0, slots := 0, locals := 0 } : Room)) (fun a U => a = #[(.ref a1), (.int p2)] ∧ Z.Warmed39 U.vm ∧ U.heap = h0) (fun _ _ _ _ _ => True) (fun _ U o U' => ∃ v L, o = .returned v ∧ Q4L Z a1 p2 vs h0 n0 v U'.heap L ∧ FrameEnd U o U' L ({ frames := 0, cells := 0, slots := 0, locals := 0 } : Room).cells ({ frames := 0, cells := 0, slots := 0, locals := 0 } : Room).slots) := by
  refine MetFree.of_bodySF (plainFor_of_name pn_4L) hisR ?_
  intro p e s m args below meth c s₁ Bd hml0 hP hK
  obtain ⟨rfl, hZ, hh⟩ := hP
  have hx := Bd.exec
  have hby := Bd.bytes
  have hml : c.maxLocals = 2 := hml0
  have hown : s.vm.findClass "com/example/libfacet/libfacet/regex/StateSet" = some m.cls := findClass_of_methodNamed Bd.named
  have hnm := (name_of_methodNamed Bd.named Bd.method).1
  have X0 : Stand p l e ({ frames := 0, cells := 0, slots := 0, locals := 0 } : Room) s m #[(.ref a1), (.int p2)] below meth c s₁ [] 0 0 := Stand.of_body Bd
  have e0 : s₁.heap = h0 := by rw [← hh, Bd.state]; rfl
  have N0 := Fr.nil n0
  show own_End p e below s (s₁.setTop (entryFrame m #[(.ref a1), (.int p2)] 2)) (Q4L Z a1 p2 vs h0 n0) ({ frames := 0, cells := 0, slots := 0, locals := 0 } : Room).cells ({ frames := 0, cells := 0, slots := 0, locals := 0 } : Room).slots
  obtain ⟨E_a1_1, F_members_a1_2, F_size_a1_3⟩ := O_a1
  refine own_pre (A := s₁.setTop (mkF m 0 #[.val (.ref a1), .val (.int p2)] [])) (fun tt kt => castTop (ef_4L m a1 p2) kt) ?_
  show own_End p e below s (s₁.setTop (mkF m 0 #[.val (.ref a1), .val (.int p2)] [])) (Q4L Z a1 p2 vs h0 n0) ({ frames := 0, cells := 0, slots := 0, locals := 0 } : Room).cells ({ frames := 0, cells := 0, slots := 0, locals := 0 } : Room).slots
  obtain ⟨T4, X4, e4, st4⟩ := getF X0 hx hZ hown (host := "") (Or.inl (hw _ (List.mem_of_getElem? (i := 16) rfl))) Via.refl e0 F_members_a1_2 (g := (mkF m 1 #[.val (.ref a1), .val (.int p2)] [(.ref a1)])) rfl rfl (hb hby d4L_1)
  refine own_pre (A := T4.setTop (mkF m 53 #[.val (.ref a1), .val (.int p2)] [])) (fun tt kt => ?_) ?_
  · show Steps p.tables e below (s₁.setTop (mkF m 0 #[.val (.ref a1), .val (.int p2)] [])) _
    refine XS.aloadN X0.here hx rfl (hb hby d4L_0) rfl rfl ?_
    show Steps p.tables e below (s₁.setTop (mkF m 1 #[.val (.ref a1), .val (.int p2)] [(.ref a1)])) _
    refine st4 _ ?_
    show Steps p.tables e below (T4.setTop (mkF m 4 #[.val (.ref a1), .val (.int p2)] [.null])) _
    refine XS.ifnullYes X4.here hx rfl (pc0 := 4) (pc' := 53) rfl (hb hby d4L_4) rfl (by decide) (by decide) ?_
    exact kt
  show own_End p e below s (T4.setTop (mkF m 53 #[.val (.ref a1), .val (.int p2)] [])) (Q4L Z a1 p2 vs h0 n0) ({ frames := 0, cells := 0, slots := 0, locals := 0 } : Room).cells ({ frames := 0, cells := 0, slots := 0, locals := 0 } : Room).slots
  obtain ⟨fs, hr, hrun, hended, hW, hsame⟩ := X4.leave (v := none) (fun _ => rfl)
  refine ⟨_, _, ?_, hrun, hended, _, _, rfl, ?_, ⟨_, rfl⟩, hW, hsame.mono (by decide) (by decide)⟩
  · exact X4.returnOut hx Bd.returns (hb hby d4L_53) hr
  · show Q4L Z a1 p2 vs h0 n0 _ T4.heap _
    rw [e4]
    exact ⟨rfl, N0, rfl⟩
def own_law_8 (p1 : Int32) (p2 : Int32) (p3 : Int32) (p4 : Int32) (p5 : Int32) (n : Int32) : Int32 := (if n = (0 : Int32) then (if (p1 &&& (8 : Int32)) = (0 : Int32) then (if (own_hash (fun _ => (0 : Int32)) (0 : Int32)) = (1 : Int32) then (1 : Int32) else (0 : Int32)) else (1 : Int32)) else (if n = (1 : Int32) then (if (p1 &&& (8 : Int32)) = (0 : Int32) then (if (own_hash (own_put (fun _ => (0 : Int32)) (0 : Int32) p2) (1 : Int32)) = ((31 : Int32) + p2) then (1 : Int32) else (0 : Int32)) else (1 : Int32)) else (if n = (2 : Int32) then (if (p1 &&& (8 : Int32)) = (0 : Int32) then (if (own_hash (own_put (own_put (fun _ => (0 : Int32)) (0 : Int32) p2) (1 : Int32) p3) (2 : Int32)) = (((961 : Int32) + ((31 : Int32) * p2)) + p3) then (1 : Int32) else (0 : Int32)) else (1 : Int32)) else (if n = (3 : Int32) then (if (p1 &&& (8 : Int32)) = (0 : Int32) then (if (own_hash (own_put (own_put (own_put (fun _ => (0 : Int32)) (0 : Int32) p2) (1 : Int32) p3) (2 : Int32) p4) (3 : Int32)) = ((((29791 : Int32) + ((961 : Int32) * p2)) + ((31 : Int32) * p3)) + p4) then (1 : Int32) else (0 : Int32)) else (1 : Int32)) else (if (p1 &&& (8 : Int32)) = (0 : Int32) then (if (own_hash (own_put (own_put (own_put (own_put (fun _ => (0 : Int32)) (0 : Int32) p2) (1 : Int32) p3) (2 : Int32) p4) (3 : Int32) p5) (4 : Int32)) = (((((923521 : Int32) + ((29791 : Int32) * p2)) + ((961 : Int32) * p3)) + ((31 : Int32) * p4)) + p5) then (1 : Int32) else (0 : Int32)) else (1 : Int32))))))
def own_law (p1 : Int32) (p2 : Int32) (p3 : Int32) (p4 : Int32) (p5 : Int32) : Int32 := (own_law_8 p1 p2 p3 p4 p5 ((p1 &&& (7 : Int32)) % (5 : Int32)))
theorem pn_0 : plainName "com/example/libfacet/libfacet/regex/StateSetMembersHashPinLaw" = true := by first | (simp [plainName, overriddenIn]; done) | decide +kernel
theorem pd_0_0 : parseMethodDescriptor "(IZ)V" = some ⟨[.int, .boolean], none⟩ := by decide +kernel
theorem pd_0_1 : parseMethodDescriptor "()I" = some ⟨[], some .int⟩ := by decide +kernel
theorem pd_0_2 : parseMethodDescriptor "(I)V" = some ⟨[.int], none⟩ := by decide +kernel
theorem ef_0 (m : MethodId) (x0 : Int32) (x1 : Int32) (x2 : Int32) (x3 : Int32) (x4 : Int32) : entryFrame m #[(.int x0), (.int x1), (.int x2), (.int x3), (.int x4)] maxLocals = mkF m 0 #[.val (.int x0), .val (.int x1), .val (.int x2), .val (.int x3), .val (.int x4), .unset, .unset, .unset, .unset] [] := by first | (simp [entryFrame, mkF, argsToLocals, Value.category, maxLocals]; done) | rfl
def Q0 (Z : State) (p1 : Int32) (p2 : Int32) (p3 : Int32) (p4 : Int32) (p5 : Int32) (h0 : Heap) (n0 : Nat) (v : Option Value) (h : Heap) (L : List Loc) : Prop := v = some (.int (own_law p1 p2 p3 p4 p5)) ∧ Fr n0 L
set_option maxRecDepth 65536 in
set_option maxHeartbeats 40000000 in
theorem rm0 (l : Launch) (Z : State) (a0 : Array Value) (hw : ∀ d ∈ tables_1, d.before a0 Z = true) (ws : List Jvm.Cond) (p1 : Int32) (p2 : Int32) (p3 : Int32) (p4 : Int32) (p5 : Int32) (h0 : Heap) (n0 : Nat) (Z0 : n0 ≤ h0.size) :
    MetFree l x (head1 (Jvm.Cond.code x code maxLocals ret :: ws) room_1) (fun a U => a = #[(.int p1), (.int p2), (.int p3), (.int p4), (.int p5)] ∧ Z.Warmed39 U.vm ∧ U.heap = h0) (fun _ _ _ _ _ => True) (fun _ U o U' => ∃ v L, o = .returned v ∧ Q0 Z p1 p2 p3 p4 p5 h0 n0 v U'.heap L ∧ FrameEnd U o U' L room_1.cells room_1.slots) := by
  refine MetFree.of_bodySF (plainFor_of_name pn_0) hisR ?_
  intro p e s m args below meth c s₁ Bd hml0 hP hK
  obtain ⟨rfl, hZ, hh⟩ := hP
  have hx := Bd.exec
  have hby := Bd.bytes
  have hml : c.maxLocals = 9 := hml0
  have hown : s.vm.findClass "com/example/libfacet/libfacet/regex/StateSetMembersHashPinLaw" = some m.cls := findClass_of_methodNamed Bd.named
  have hnm := (name_of_methodNamed Bd.named Bd.method).1
  have X0 : Stand p l e room_1 s m #[(.int p1), (.int p2), (.int p3), (.int p4), (.int p5)] below meth c s₁ [] 0 0 := Stand.of_body Bd
  have e0 : s₁.heap = h0 := by rw [← hh, Bd.state]; rfl
  have N0 := Fr.nil n0
  show own_End p e below s (s₁.setTop (entryFrame m #[(.int p1), (.int p2), (.int p3), (.int p4), (.int p5)] maxLocals)) (Q0 Z p1 p2 p3 p4 p5 h0 n0) room_1.cells room_1.slots
  refine own_pre (A := s₁.setTop (mkF m 0 #[.val (.int p1), .val (.int p2), .val (.int p3), .val (.int p4), .val (.int p5), .unset, .unset, .unset, .unset] [])) (fun tt kt => castTop (ef_0 m p1 p2 p3 p4 p5) kt) ?_
  show own_End p e below s (s₁.setTop (mkF m 0 #[.val (.int p1), .val (.int p2), .val (.int p3), .val (.int p4), .val (.int p5), .unset, .unset, .unset, .unset] [])) (Q0 Z p1 p2 p3 p4 p5 h0 n0) room_1.cells room_1.slots
  have hj : own_law p1 p2 p3 p4 p5 = own_law p1 p2 p3 p4 p5 := rfl
  refine own_pre (A := s₁.setTop (mkF m 8 #[.val (.int p1), .val (.int p2), .val (.int p3), .val (.int p4), .val (.int p5), .val (.int ((p1 &&& (7 : Int32)) % (5 : Int32))), .unset, .unset, .unset] [])) (fun tt kt => ?_) ?_
  · show Steps p.tables e below (s₁.setTop (mkF m 0 #[.val (.int p1), .val (.int p2), .val (.int p3), .val (.int p4), .val (.int p5), .unset, .unset, .unset, .unset] [])) _
    refine XS.iloadN X0.here hx rfl (hb hby at_0) rfl ?_
    show Steps p.tables e below (s₁.setTop (mkF m 1 #[.val (.int p1), .val (.int p2), .val (.int p3), .val (.int p4), .val (.int p5), .unset, .unset, .unset, .unset] [(.int p1)])) _
    refine XS.bipush X0.here hx rfl (hb hby at_1) ?_
    show Steps p.tables e below (s₁.setTop (mkF m 3 #[.val (.int p1), .val (.int p2), .val (.int p3), .val (.int p4), .val (.int p5), .unset, .unset, .unset, .unset] [(.int (7 : Int32)), (.int p1)])) _
    refine XS.iand X0.here hx rfl (hb hby at_3) rfl ?_
    show Steps p.tables e below (s₁.setTop (mkF m 4 #[.val (.int p1), .val (.int p2), .val (.int p3), .val (.int p4), .val (.int p5), .unset, .unset, .unset, .unset] [(.int (p1 &&& (7 : Int32)))])) _
    refine XS.iconst X0.here hx rfl (hb hby at_4) ?_
    show Steps p.tables e below (s₁.setTop (mkF m 5 #[.val (.int p1), .val (.int p2), .val (.int p3), .val (.int p4), .val (.int p5), .unset, .unset, .unset, .unset] [(.int (5 : Int32)), (.int (p1 &&& (7 : Int32)))])) _
    refine iremM X0 hx rfl (hb hby at_5) rfl (by decide : ¬ ((5 : Int32) = (0 : Int32))) ?_
    show Steps p.tables e below (s₁.setTop (mkF m 6 #[.val (.int p1), .val (.int p2), .val (.int p3), .val (.int p4), .val (.int p5), .unset, .unset, .unset, .unset] [(.int ((p1 &&& (7 : Int32)) % (5 : Int32)))])) _
    refine XS.istore X0.here hx rfl (hb hby at_6) rfl (l' := #[.val (.int p1), .val (.int p2), .val (.int p3), .val (.int p4), .val (.int p5), .val (.int ((p1 &&& (7 : Int32)) % (5 : Int32))), .unset, .unset, .unset]) rfl ?_
    exact kt
  show own_End p e below s (s₁.setTop (mkF m 8 #[.val (.int p1), .val (.int p2), .val (.int p3), .val (.int p4), .val (.int p5), .val (.int ((p1 &&& (7 : Int32)) % (5 : Int32))), .unset, .unset, .unset] [])) (Q0 Z p1 p2 p3 p4 p5 h0 n0) room_1.cells room_1.slots
  have j8 : ∀ (Tj8 : State) (Lj8 : List Loc) (Xj8 : Stand p l e room_1 s m #[(.int p1), (.int p2), (.int p3), (.int p4), (.int p5)] below meth c Tj8 Lj8 0 0) (ej8 : Tj8.heap = h0) (Nj8 : Fr n0 Lj8) (n : Int32) (hn : n = 0 ∨ n = 1 ∨ n = 2 ∨ n = 3 ∨ n = 4), own_law p1 p2 p3 p4 p5 = own_law_8 p1 p2 p3 p4 p5 n → own_End p e below s (Tj8.setTop (mkF m 8 #[.val (.int p1), .val (.int p2), .val (.int p3), .val (.int p4), .val (.int p5), .val (.int n), .unset, .unset, .unset] [])) (Q0 Z p1 p2 p3 p4 p5 h0 n0) room_1.cells room_1.slots := by
    intro Tj8 Lj8 Xj8 ej8 Nj8 n hn hj
    refine own_pre (A := Tj8.setTop (mkF m 9 #[.val (.int p1), .val (.int p2), .val (.int p3), .val (.int p4), .val (.int p5), .val (.int n), .unset, .unset, .unset] [(.int p1)])) (fun tt kt => ?_) ?_
    · show Steps p.tables e below (Tj8.setTop (mkF m 8 #[.val (.int p1), .val (.int p2), .val (.int p3), .val (.int p4), .val (.int p5), .val (.int n), .unset, .unset, .unset] [])) _
      refine XS.iloadN Xj8.here hx rfl (hb hby at_8) rfl ?_
      exact kt
    show own_End p e below s (Tj8.setTop (mkF m 9 #[.val (.int p1), .val (.int p2), .val (.int p3), .val (.int p4), .val (.int p5), .val (.int n), .unset, .unset, .unset] [(.int p1)])) (Q0 Z p1 p2 p3 p4 p5 h0 n0) room_1.cells room_1.slots
    by_cases hs1_0 : n = (0 : Int32)
    · rw [hs1_0]
      refine own_pre (A := Tj8.setTop (mkF m 12 #[.val (.int p1), .val (.int p2), .val (.int p3), .val (.int p4), .val (.int p5), .val (.int (0 : Int32)), .unset, .unset, .unset] [(.int (p1 &&& (8 : Int32)))])) (fun tt kt => ?_) ?_
      · show Steps p.tables e below (Tj8.setTop (mkF m 9 #[.val (.int p1), .val (.int p2), .val (.int p3), .val (.int p4), .val (.int p5), .val (.int (0 : Int32)), .unset, .unset, .unset] [(.int p1)])) _
        refine XS.bipush Xj8.here hx rfl (hb hby at_9) ?_
        show Steps p.tables e below (Tj8.setTop (mkF m 11 #[.val (.int p1), .val (.int p2), .val (.int p3), .val (.int p4), .val (.int p5), .val (.int (0 : Int32)), .unset, .unset, .unset] [(.int (8 : Int32)), (.int p1)])) _
        refine XS.iand Xj8.here hx rfl (hb hby at_11) rfl ?_
        exact kt
      show own_End p e below s (Tj8.setTop (mkF m 12 #[.val (.int p1), .val (.int p2), .val (.int p3), .val (.int p4), .val (.int p5), .val (.int (0 : Int32)), .unset, .unset, .unset] [(.int (p1 &&& (8 : Int32)))])) (Q0 Z p1 p2 p3 p4 p5 h0 n0) room_1.cells room_1.slots
      by_cases hc12_2 : (p1 &&& (8 : Int32)) = (0 : Int32)
      · obtain ⟨T3, h3, X3, e3, E3, A3, D3, -, st3⟩ := newO Xj8 hx hZ hown (hw _ (List.mem_of_getElem? (i := 0) rfl)) (hw _ (List.mem_of_getElem? (i := 1) rfl)) (hw _ (List.mem_of_getElem? (i := 2) rfl)) ej8 (g := (mkF m 22 #[.val (.int p1), .val (.int p2), .val (.int p3), .val (.int p4), .val (.int p5), .val (.int (0 : Int32)), .val (.int (0 : Int32)), .unset, .unset] [])) rfl (hb hby at_22) (by decide) (by decide)
        obtain ⟨b3, g3⟩ : ∃ z, z = h0.size := ⟨_, rfl⟩
        rw [← g3] at A3 D3 st3
        have g_b3 : n0 ≤ b3 := Nat.le_trans Z0 (Nat.le_of_eq g3.symm)
        have sz_b3 : h0.size ≤ b3 := Nat.le_trans (show Keep h0 h0 [] from (Keep.refl h0 _)).1 (Nat.le_of_eq g3.symm)
        have K3 : Keep h0 h3 [] := Keep.ext (Keep.refl h0 _) E3
        have Z3 : n0 ≤ h3.size := Nat.le_trans Z0 E3.1
        have F_stamp_b3 : Fld Z h3 b3 "com/example/libfacet/libfacet/regex/StateSet" "stamp" "I" (.int (0 : Int32)) := D3 (Or.inl (hw _ (List.mem_of_getElem? (i := 10) rfl))) (ty := .int) (by decide)
        have F_stack_b3 : Fld Z h3 b3 "com/example/libfacet/libfacet/regex/StateSet" "stack" "[I" .null := D3 (Or.inl (hw _ (List.mem_of_getElem? (i := 13) rfl))) (ty := (.array .int)) (by decide)
        have F_instructions_b3 : Fld Z h3 b3 "com/example/libfacet/libfacet/regex/StateSet" "instructions" "I" (.int (0 : Int32)) := D3 (Or.inr (hw _ (List.mem_of_getElem? (i := 15) rfl))) (ty := .int) (by decide)
        have F_members_b3 : Fld Z h3 b3 "com/example/libfacet/libfacet/regex/StateSet" "members" "[I" .null := D3 (Or.inl (hw _ (List.mem_of_getElem? (i := 17) rfl))) (ty := (.array .int)) (by decide)
        have F_marks_b3 : Fld Z h3 b3 "com/example/libfacet/libfacet/regex/StateSet" "marks" "[C" .null := D3 (Or.inr (hw _ (List.mem_of_getElem? (i := 20) rfl))) (ty := (.array .char)) (by decide)
        have F_markBits_b3 : Fld Z h3 b3 "com/example/libfacet/libfacet/regex/StateSet" "markBits" "[J" .null := D3 (Or.inr (hw _ (List.mem_of_getElem? (i := 22) rfl))) (ty := (.array .long)) (by decide)
        have F_marked_b3 : Fld Z h3 b3 "com/example/libfacet/libfacet/regex/StateSet" "marked" "[I" .null := D3 (Or.inl (hw _ (List.mem_of_getElem? (i := 24) rfl))) (ty := (.array .int)) (by decide)
        have F_size_b3 : Fld Z h3 b3 "com/example/libfacet/libfacet/regex/StateSet" "size" "I" (.int (0 : Int32)) := D3 (Or.inl (hw _ (List.mem_of_getElem? (i := 31) rfl))) (ty := .int) (by decide)
        obtain ⟨_, _, ⟨T4, L4, k4, n4⟩, -, X4, ⟨Lc4, hQ4, l4, y4, z4⟩, st4⟩ := X3.specialBack hx (y := (⟨"com/example/libfacet/libfacet/regex/StateSet", "<init>", "(IZ)V"⟩ : MethodName)) rfl hown (mvT hZ (hw _ (List.mem_of_getElem? (i := 3) rfl))) (mvT hZ (hw _ (List.mem_of_getElem? (i := 4) rfl))) (mvT hZ (hw _ (List.mem_of_getElem? (i := 5) rfl))) (by decide) (backOf (W := 1) (rm1N l Z a0 hw [] b3 (0 : Int32) (0 : Int32) (0 : Int32) h3 n0 Z3 ⟨A3, F_stamp_b3, F_stack_b3, F_instructions_b3, F_members_b3, F_marks_b3, F_markBits_b3, F_marked_b3, F_size_b3⟩ g_b3) hZ (hw _ (List.mem_of_getElem? (i := 5) rfl)) (hw _ (List.mem_of_getElem? (i := 2) rfl)) (by decide) (by decide)) (g := (mkF m 29 #[.val (.int p1), .val (.int p2), .val (.int p3), .val (.int p4), .val (.int p5), .val (.int (0 : Int32)), .val (.int (0 : Int32)), .unset, .unset] [(.int (0 : Int32)), (.int (4 : Int32)), (.ref b3), (.ref b3)])) rfl (by rw [hml]; rfl) (Steps.refl _) (a := b3) (argsL := [(.int (4 : Int32)), (.int (0 : Int32))]) (rest := [(.ref b3)]) (lenOf pd_0_0 rfl) rfl (by show 2 * 0 + _ ≤ _; exact Nat.le_of_eq rfl) (hb hby at_29) (fun _ _ => ⟨rfl, e3, (by decide : 1 + 3 ≤ _), (by decide : 10 + 36 ≤ _)⟩)
        dsimp only [Pt.U, Pt.locs, Pt.cells, Pt.slots] at X4 l4 y4 z4 st4 hQ4
        subst l4 y4 z4
        obtain ⟨rfl, N4q, c4_am, Kq4, O4_0, szq_c4_am, P4_am_0⟩ := hQ4
        have ne_b3_c4_am : b3 ≠ c4_am := Nat.ne_of_lt (Nat.lt_of_lt_of_le A3.lt szq_c4_am)
        have g_c4_am : n0 ≤ c4_am := Nat.le_trans Z3 szq_c4_am
        have sz_c4_am : h0.size ≤ c4_am := Nat.le_trans (show Keep h0 h3 [] from K3).1 szq_c4_am
        have N4 := Fr.app Nj8 N4q
        have fE_b3_x4 := (A3.keep Kq4)
        have K4 : Keep h0 T4.heap [] := Keep.trans K3 Kq4 (allS (Or.inr sz_b3) all0)
        have Z4 : n0 ≤ T4.heap.size := Nat.le_trans Z3 Kq4.1
        obtain ⟨E_b3_5, F_members_b3_6, F_size_b3_7⟩ := O4_0
        obtain ⟨cq8, kq8, q8a, q8b, q8c⟩ := isOf hZ rfl E_b3_5
        obtain ⟨_, _, ⟨T8, L8, k8, n8⟩, -, X8, ⟨Lc8, hQ8, l8, y8, z8⟩, st8⟩ := X4.virtualBack hx (y := (⟨"com/example/libfacet/libfacet/regex/StateSet", "membersHash", "()I"⟩ : MethodName)) (z := (⟨"com/example/libfacet/libfacet/regex/StateSet", "membersHash", "()I"⟩ : MethodName)) hown (mvT hZ (hw _ (List.mem_of_getElem? (i := 25) rfl))) (mvT hZ (hw _ (List.mem_of_getElem? (i := 26) rfl))) (notFace_of_selects (args := #[]) (mvT hZ (hw _ (List.mem_of_getElem? (i := 28) rfl)))) (mvT hZ (hw _ (List.mem_of_getElem? (i := 28) rfl))) (mvT hZ (hw _ (List.mem_of_getElem? (i := 27) rfl))) (by decide) (backOf (W := 0) (rm3N l Z a0 hw [] b3 c4_am (0 : Int32) (fun _ => (0 : Int32)) T4.heap n0 Z4 ⟨E_b3_5, F_members_b3_6, F_size_b3_7⟩ P4_am_0 (by decide) (by decide)) hZ (hw _ (List.mem_of_getElem? (i := 29) rfl)) (hw _ (List.mem_of_getElem? (i := 2) rfl)) (by decide) (by decide)) q8a q8c (g := (mkF m 188 #[.val (.int p1), .val (.int p2), .val (.int p3), .val (.int p4), .val (.int p5), .val (.int (0 : Int32)), .val (.int (0 : Int32)), .val (.ref b3), .val (.int (1 : Int32))] [(.ref b3)])) rfl (by rw [hml]; rfl) (Steps.refl _) (argsL := []) (rest := []) (lenOf pd_0_1 rfl) rfl (by show 2 * 0 + _ ≤ _; exact Nat.le_of_eq rfl) (hb hby at_188) (fun _ _ => ⟨rfl, rfl, (by decide : 4 + 0 ≤ _), (by decide : 46 + 0 ≤ _)⟩)
        dsimp only [Pt.U, Pt.locs, Pt.cells, Pt.slots] at X8 l8 y8 z8 st8 hQ8
        subst l8 y8 z8
        obtain ⟨rfl, N8q, e8⟩ := hQ8
        have N8 := Fr.app N4 N8q
        refine own_pre (A := T8.setTop (mkF m 193 #[.val (.int p1), .val (.int p2), .val (.int p3), .val (.int p4), .val (.int p5), .val (.int (0 : Int32)), .val (.int (0 : Int32)), .val (.ref b3), .val (.int (1 : Int32))] [(.int (1 : Int32)), (.int (own_hash (fun _ => (0 : Int32)) (0 : Int32)))])) (fun tt kt => ?_) ?_
        · show Steps p.tables e below (Tj8.setTop (mkF m 12 #[.val (.int p1), .val (.int p2), .val (.int p3), .val (.int p4), .val (.int p5), .val (.int (0 : Int32)), .unset, .unset, .unset] [(.int (p1 &&& (8 : Int32)))])) _
          refine XS.ifYes Xj8.here hx rfl (pc0 := 12) (pc' := 19) rfl (hb hby at_12) rfl ((if0 _ _).trans (teq hc12_2).1) (by decide) (by decide) ?_
          show Steps p.tables e below (Tj8.setTop (mkF m 19 #[.val (.int p1), .val (.int p2), .val (.int p3), .val (.int p4), .val (.int p5), .val (.int (0 : Int32)), .unset, .unset, .unset] [])) _
          refine XS.iconst Xj8.here hx rfl (hb hby at_19) ?_
          show Steps p.tables e below (Tj8.setTop (mkF m 20 #[.val (.int p1), .val (.int p2), .val (.int p3), .val (.int p4), .val (.int p5), .val (.int (0 : Int32)), .unset, .unset, .unset] [(.int (0 : Int32))])) _
          refine XS.istore Xj8.here hx rfl (hb hby at_20) rfl (l' := #[.val (.int p1), .val (.int p2), .val (.int p3), .val (.int p4), .val (.int p5), .val (.int (0 : Int32)), .val (.int (0 : Int32)), .unset, .unset]) rfl ?_
          show Steps p.tables e below (Tj8.setTop (mkF m 22 #[.val (.int p1), .val (.int p2), .val (.int p3), .val (.int p4), .val (.int p5), .val (.int (0 : Int32)), .val (.int (0 : Int32)), .unset, .unset] [])) _
          refine st3 _ ?_
          show Steps p.tables e below (T3.setTop (mkF m 25 #[.val (.int p1), .val (.int p2), .val (.int p3), .val (.int p4), .val (.int p5), .val (.int (0 : Int32)), .val (.int (0 : Int32)), .unset, .unset] [(.ref b3)])) _
          refine XS.dup X3.here hx rfl (hb hby at_25) rfl rfl ?_
          show Steps p.tables e below (T3.setTop (mkF m 26 #[.val (.int p1), .val (.int p2), .val (.int p3), .val (.int p4), .val (.int p5), .val (.int (0 : Int32)), .val (.int (0 : Int32)), .unset, .unset] [(.ref b3), (.ref b3)])) _
          refine XS.iconst X3.here hx rfl (hb hby at_26) ?_
          show Steps p.tables e below (T3.setTop (mkF m 27 #[.val (.int p1), .val (.int p2), .val (.int p3), .val (.int p4), .val (.int p5), .val (.int (0 : Int32)), .val (.int (0 : Int32)), .unset, .unset] [(.int (4 : Int32)), (.ref b3), (.ref b3)])) _
          refine XS.iload X3.here hx rfl (hb hby at_27) rfl ?_
          show Steps p.tables e below (T3.setTop (mkF m 29 #[.val (.int p1), .val (.int p2), .val (.int p3), .val (.int p4), .val (.int p5), .val (.int (0 : Int32)), .val (.int (0 : Int32)), .unset, .unset] [(.int (0 : Int32)), (.int (4 : Int32)), (.ref b3), (.ref b3)])) _
          refine st4.trans ?_
          show Steps p.tables e below (T4.setTop (mkF m 32 #[.val (.int p1), .val (.int p2), .val (.int p3), .val (.int p4), .val (.int p5), .val (.int (0 : Int32)), .val (.int (0 : Int32)), .unset, .unset] [(.ref b3)])) _
          refine XS.astore X4.here hx rfl (hb hby at_32) rfl rfl (l' := #[.val (.int p1), .val (.int p2), .val (.int p3), .val (.int p4), .val (.int p5), .val (.int (0 : Int32)), .val (.int (0 : Int32)), .val (.ref b3), .unset]) rfl ?_
          show Steps p.tables e below (T4.setTop (mkF m 34 #[.val (.int p1), .val (.int p2), .val (.int p3), .val (.int p4), .val (.int p5), .val (.int (0 : Int32)), .val (.int (0 : Int32)), .val (.ref b3), .unset] [])) _
          refine XS.iload X4.here hx rfl (hb hby at_34) rfl ?_
          show Steps p.tables e below (T4.setTop (mkF m 36 #[.val (.int p1), .val (.int p2), .val (.int p3), .val (.int p4), .val (.int p5), .val (.int (0 : Int32)), .val (.int (0 : Int32)), .val (.ref b3), .unset] [(.int (0 : Int32))])) _
          refine XS.iconst X4.here hx rfl (hb hby at_36) ?_
          show Steps p.tables e below (T4.setTop (mkF m 37 #[.val (.int p1), .val (.int p2), .val (.int p3), .val (.int p4), .val (.int p5), .val (.int (0 : Int32)), .val (.int (0 : Int32)), .val (.ref b3), .unset] [(.int (1 : Int32)), (.int (0 : Int32))])) _
          refine XS.icmpYes X4.here hx rfl (pc0 := 37) (pc' := 46) rfl (hb hby at_37) rfl (tlt ((by decide) : (0 : Int32) < (1 : Int32))).1 (by decide) (by decide) ?_
          show Steps p.tables e below (T4.setTop (mkF m 46 #[.val (.int p1), .val (.int p2), .val (.int p3), .val (.int p4), .val (.int p5), .val (.int (0 : Int32)), .val (.int (0 : Int32)), .val (.ref b3), .unset] [])) _
          refine XS.iload X4.here hx rfl (hb hby at_46) rfl ?_
          show Steps p.tables e below (T4.setTop (mkF m 48 #[.val (.int p1), .val (.int p2), .val (.int p3), .val (.int p4), .val (.int p5), .val (.int (0 : Int32)), .val (.int (0 : Int32)), .val (.ref b3), .unset] [(.int (0 : Int32))])) _
          refine XS.iconst X4.here hx rfl (hb hby at_48) ?_
          show Steps p.tables e below (T4.setTop (mkF m 49 #[.val (.int p1), .val (.int p2), .val (.int p3), .val (.int p4), .val (.int p5), .val (.int (0 : Int32)), .val (.int (0 : Int32)), .val (.ref b3), .unset] [(.int (2 : Int32)), (.int (0 : Int32))])) _
          refine XS.icmpYes X4.here hx rfl (pc0 := 49) (pc' := 58) rfl (hb hby at_49) rfl (tlt ((by decide) : (0 : Int32) < (2 : Int32))).1 (by decide) (by decide) ?_
          show Steps p.tables e below (T4.setTop (mkF m 58 #[.val (.int p1), .val (.int p2), .val (.int p3), .val (.int p4), .val (.int p5), .val (.int (0 : Int32)), .val (.int (0 : Int32)), .val (.ref b3), .unset] [])) _
          refine XS.iload X4.here hx rfl (hb hby at_58) rfl ?_
          show Steps p.tables e below (T4.setTop (mkF m 60 #[.val (.int p1), .val (.int p2), .val (.int p3), .val (.int p4), .val (.int p5), .val (.int (0 : Int32)), .val (.int (0 : Int32)), .val (.ref b3), .unset] [(.int (0 : Int32))])) _
          refine XS.iconst X4.here hx rfl (hb hby at_60) ?_
          show Steps p.tables e below (T4.setTop (mkF m 61 #[.val (.int p1), .val (.int p2), .val (.int p3), .val (.int p4), .val (.int p5), .val (.int (0 : Int32)), .val (.int (0 : Int32)), .val (.ref b3), .unset] [(.int (3 : Int32)), (.int (0 : Int32))])) _
          refine XS.icmpYes X4.here hx rfl (pc0 := 61) (pc' := 70) rfl (hb hby at_61) rfl (tlt ((by decide) : (0 : Int32) < (3 : Int32))).1 (by decide) (by decide) ?_
          show Steps p.tables e below (T4.setTop (mkF m 70 #[.val (.int p1), .val (.int p2), .val (.int p3), .val (.int p4), .val (.int p5), .val (.int (0 : Int32)), .val (.int (0 : Int32)), .val (.ref b3), .unset] [])) _
          refine XS.iload X4.here hx rfl (hb hby at_70) rfl ?_
          show Steps p.tables e below (T4.setTop (mkF m 72 #[.val (.int p1), .val (.int p2), .val (.int p3), .val (.int p4), .val (.int p5), .val (.int (0 : Int32)), .val (.int (0 : Int32)), .val (.ref b3), .unset] [(.int (0 : Int32))])) _
          refine XS.iconst X4.here hx rfl (hb hby at_72) ?_
          show Steps p.tables e below (T4.setTop (mkF m 73 #[.val (.int p1), .val (.int p2), .val (.int p3), .val (.int p4), .val (.int p5), .val (.int (0 : Int32)), .val (.int (0 : Int32)), .val (.ref b3), .unset] [(.int (4 : Int32)), (.int (0 : Int32))])) _
          refine XS.icmpYes X4.here hx rfl (pc0 := 73) (pc' := 83) rfl (hb hby at_73) rfl (tlt ((by decide) : (0 : Int32) < (4 : Int32))).1 (by decide) (by decide) ?_
          show Steps p.tables e below (T4.setTop (mkF m 83 #[.val (.int p1), .val (.int p2), .val (.int p3), .val (.int p4), .val (.int p5), .val (.int (0 : Int32)), .val (.int (0 : Int32)), .val (.ref b3), .unset] [])) _
          refine XS.iload X4.here hx rfl (hb hby at_83) rfl ?_
          show Steps p.tables e below (T4.setTop (mkF m 85 #[.val (.int p1), .val (.int p2), .val (.int p3), .val (.int p4), .val (.int p5), .val (.int (0 : Int32)), .val (.int (0 : Int32)), .val (.ref b3), .unset] [(.int (0 : Int32))])) _
          refine XS.ifNo X4.here hx rfl (hb hby at_85) rfl ((if0 _ _).trans (teq ((by decide) : (0 : Int32) = (0 : Int32))).2) ?_
          show Steps p.tables e below (T4.setTop (mkF m 88 #[.val (.int p1), .val (.int p2), .val (.int p3), .val (.int p4), .val (.int p5), .val (.int (0 : Int32)), .val (.int (0 : Int32)), .val (.ref b3), .unset] [])) _
          refine XS.iload X4.here hx rfl (hb hby at_88) rfl ?_
          show Steps p.tables e below (T4.setTop (mkF m 90 #[.val (.int p1), .val (.int p2), .val (.int p3), .val (.int p4), .val (.int p5), .val (.int (0 : Int32)), .val (.int (0 : Int32)), .val (.ref b3), .unset] [(.int (0 : Int32))])) _
          refine XS.ifNo X4.here hx rfl (hb hby at_90) rfl ((if0 _ _).trans (teq ((by decide) : (0 : Int32) = (0 : Int32))).2) ?_
          show Steps p.tables e below (T4.setTop (mkF m 93 #[.val (.int p1), .val (.int p2), .val (.int p3), .val (.int p4), .val (.int p5), .val (.int (0 : Int32)), .val (.int (0 : Int32)), .val (.ref b3), .unset] [])) _
          refine XS.iconst X4.here hx rfl (hb hby at_93) ?_
          show Steps p.tables e below (T4.setTop (mkF m 94 #[.val (.int p1), .val (.int p2), .val (.int p3), .val (.int p4), .val (.int p5), .val (.int (0 : Int32)), .val (.int (0 : Int32)), .val (.ref b3), .unset] [(.int (1 : Int32))])) _
          refine XS.istore X4.here hx rfl (hb hby at_94) rfl (l' := #[.val (.int p1), .val (.int p2), .val (.int p3), .val (.int p4), .val (.int p5), .val (.int (0 : Int32)), .val (.int (0 : Int32)), .val (.ref b3), .val (.int (1 : Int32))]) rfl ?_
          show Steps p.tables e below (T4.setTop (mkF m 96 #[.val (.int p1), .val (.int p2), .val (.int p3), .val (.int p4), .val (.int p5), .val (.int (0 : Int32)), .val (.int (0 : Int32)), .val (.ref b3), .val (.int (1 : Int32))] [])) _
          refine XS.goto X4.here hx rfl (pc0 := 96) (pc' := 186) rfl (hb hby at_96) (by decide) (by decide) ?_
          show Steps p.tables e below (T4.setTop (mkF m 186 #[.val (.int p1), .val (.int p2), .val (.int p3), .val (.int p4), .val (.int p5), .val (.int (0 : Int32)), .val (.int (0 : Int32)), .val (.ref b3), .val (.int (1 : Int32))] [])) _
          refine XS.aload X4.here hx rfl (hb hby at_186) rfl rfl ?_
          show Steps p.tables e below (T4.setTop (mkF m 188 #[.val (.int p1), .val (.int p2), .val (.int p3), .val (.int p4), .val (.int p5), .val (.int (0 : Int32)), .val (.int (0 : Int32)), .val (.ref b3), .val (.int (1 : Int32))] [(.ref b3)])) _
          refine st8.trans ?_
          show Steps p.tables e below (T8.setTop (mkF m 191 #[.val (.int p1), .val (.int p2), .val (.int p3), .val (.int p4), .val (.int p5), .val (.int (0 : Int32)), .val (.int (0 : Int32)), .val (.ref b3), .val (.int (1 : Int32))] [(.int (own_hash (fun _ => (0 : Int32)) (0 : Int32)))])) _
          refine XS.iload X8.here hx rfl (hb hby at_191) rfl ?_
          exact kt
        show own_End p e below s (T8.setTop (mkF m 193 #[.val (.int p1), .val (.int p2), .val (.int p3), .val (.int p4), .val (.int p5), .val (.int (0 : Int32)), .val (.int (0 : Int32)), .val (.ref b3), .val (.int (1 : Int32))] [(.int (1 : Int32)), (.int (own_hash (fun _ => (0 : Int32)) (0 : Int32)))])) (Q0 Z p1 p2 p3 p4 p5 h0 n0) room_1.cells room_1.slots
        by_cases hc193_9 : (own_hash (fun _ => (0 : Int32)) (0 : Int32)) = (1 : Int32)
        · refine own_pre (A := T8.setTop (mkF m 201 #[.val (.int p1), .val (.int p2), .val (.int p3), .val (.int p4), .val (.int p5), .val (.int (0 : Int32)), .val (.int (0 : Int32)), .val (.ref b3), .val (.int (1 : Int32))] [(.int (1 : Int32))])) (fun tt kt => ?_) ?_
          · show Steps p.tables e below (T8.setTop (mkF m 193 #[.val (.int p1), .val (.int p2), .val (.int p3), .val (.int p4), .val (.int p5), .val (.int (0 : Int32)), .val (.int (0 : Int32)), .val (.ref b3), .val (.int (1 : Int32))] [(.int (1 : Int32)), (.int (own_hash (fun _ => (0 : Int32)) (0 : Int32)))])) _
            refine XS.icmpNo X8.here hx rfl (hb hby at_193) rfl (teq hc193_9).2 ?_
            show Steps p.tables e below (T8.setTop (mkF m 196 #[.val (.int p1), .val (.int p2), .val (.int p3), .val (.int p4), .val (.int p5), .val (.int (0 : Int32)), .val (.int (0 : Int32)), .val (.ref b3), .val (.int (1 : Int32))] [])) _
            refine XS.iconst X8.here hx rfl (hb hby at_196) ?_
            show Steps p.tables e below (T8.setTop (mkF m 197 #[.val (.int p1), .val (.int p2), .val (.int p3), .val (.int p4), .val (.int p5), .val (.int (0 : Int32)), .val (.int (0 : Int32)), .val (.ref b3), .val (.int (1 : Int32))] [(.int (1 : Int32))])) _
            refine XS.goto X8.here hx rfl (pc0 := 197) (pc' := 201) rfl (hb hby at_197) (by decide) (by decide) ?_
            exact kt
          show own_End p e below s (T8.setTop (mkF m 201 #[.val (.int p1), .val (.int p2), .val (.int p3), .val (.int p4), .val (.int p5), .val (.int (0 : Int32)), .val (.int (0 : Int32)), .val (.ref b3), .val (.int (1 : Int32))] [(.int (1 : Int32))])) (Q0 Z p1 p2 p3 p4 p5 h0 n0) room_1.cells room_1.slots
          have hv : (own_law p1 p2 p3 p4 p5) = (1 : Int32) := hj.trans (by simp only [own_law_8, if_pos hs1_0, if_pos hc12_2, if_pos hc193_9])
          obtain ⟨fs, hr, hrun, hended, hW, hsame⟩ := X8.leave (v := some (.int (1 : Int32))) (fun h => by rw [Bd.returns] at h; cases h)
          refine ⟨_, _, ?_, hrun, hended, _, _, rfl, ?_, ⟨_, rfl⟩, hW, hsame.mono (by decide) (by decide)⟩
          · exact retN X8 hx (t := .boolean) Bd.returns (by simp) (hb hby at_201) hr
          · show Q0 Z p1 p2 p3 p4 p5 h0 n0 _ T8.heap _
            rw [e8]
            exact ⟨(congrArg (fun z => some (Value.int z)) hv.symm), N8⟩
        · refine own_pre (A := T8.setTop (mkF m 201 #[.val (.int p1), .val (.int p2), .val (.int p3), .val (.int p4), .val (.int p5), .val (.int (0 : Int32)), .val (.int (0 : Int32)), .val (.ref b3), .val (.int (1 : Int32))] [(.int (0 : Int32))])) (fun tt kt => ?_) ?_
          · show Steps p.tables e below (T8.setTop (mkF m 193 #[.val (.int p1), .val (.int p2), .val (.int p3), .val (.int p4), .val (.int p5), .val (.int (0 : Int32)), .val (.int (0 : Int32)), .val (.ref b3), .val (.int (1 : Int32))] [(.int (1 : Int32)), (.int (own_hash (fun _ => (0 : Int32)) (0 : Int32)))])) _
            refine XS.icmpYes X8.here hx rfl (pc0 := 193) (pc' := 200) rfl (hb hby at_193) rfl (feq hc193_9).2 (by decide) (by decide) ?_
            show Steps p.tables e below (T8.setTop (mkF m 200 #[.val (.int p1), .val (.int p2), .val (.int p3), .val (.int p4), .val (.int p5), .val (.int (0 : Int32)), .val (.int (0 : Int32)), .val (.ref b3), .val (.int (1 : Int32))] [])) _
            refine XS.iconst X8.here hx rfl (hb hby at_200) ?_
            exact kt
          show own_End p e below s (T8.setTop (mkF m 201 #[.val (.int p1), .val (.int p2), .val (.int p3), .val (.int p4), .val (.int p5), .val (.int (0 : Int32)), .val (.int (0 : Int32)), .val (.ref b3), .val (.int (1 : Int32))] [(.int (0 : Int32))])) (Q0 Z p1 p2 p3 p4 p5 h0 n0) room_1.cells room_1.slots
          have hv : (own_law p1 p2 p3 p4 p5) = (0 : Int32) := hj.trans (by simp only [own_law_8, if_pos hs1_0, if_pos hc12_2, if_neg hc193_9])
          obtain ⟨fs, hr, hrun, hended, hW, hsame⟩ := X8.leave (v := some (.int (0 : Int32))) (fun h => by rw [Bd.returns] at h; cases h)
          refine ⟨_, _, ?_, hrun, hended, _, _, rfl, ?_, ⟨_, rfl⟩, hW, hsame.mono (by decide) (by decide)⟩
          · exact retN X8 hx (t := .boolean) Bd.returns (by simp) (hb hby at_201) hr
          · show Q0 Z p1 p2 p3 p4 p5 h0 n0 _ T8.heap _
            rw [e8]
            exact ⟨(congrArg (fun z => some (Value.int z)) hv.symm), N8⟩
      · obtain ⟨T10, h10, X10, e10, E10, A10, D10, -, st10⟩ := newO Xj8 hx hZ hown (hw _ (List.mem_of_getElem? (i := 0) rfl)) (hw _ (List.mem_of_getElem? (i := 1) rfl)) (hw _ (List.mem_of_getElem? (i := 2) rfl)) ej8 (g := (mkF m 22 #[.val (.int p1), .val (.int p2), .val (.int p3), .val (.int p4), .val (.int p5), .val (.int (0 : Int32)), .val (.int (1 : Int32)), .unset, .unset] [])) rfl (hb hby at_22) (by decide) (by decide)
        obtain ⟨b10, g10⟩ : ∃ z, z = h0.size := ⟨_, rfl⟩
        rw [← g10] at A10 D10 st10
        have g_b10 : n0 ≤ b10 := Nat.le_trans Z0 (Nat.le_of_eq g10.symm)
        have sz_b10 : h0.size ≤ b10 := Nat.le_trans (show Keep h0 h0 [] from (Keep.refl h0 _)).1 (Nat.le_of_eq g10.symm)
        have K10 : Keep h0 h10 [] := Keep.ext (Keep.refl h0 _) E10
        have Z10 : n0 ≤ h10.size := Nat.le_trans Z0 E10.1
        have F_stamp_b10 : Fld Z h10 b10 "com/example/libfacet/libfacet/regex/StateSet" "stamp" "I" (.int (0 : Int32)) := D10 (Or.inl (hw _ (List.mem_of_getElem? (i := 10) rfl))) (ty := .int) (by decide)
        have F_stack_b10 : Fld Z h10 b10 "com/example/libfacet/libfacet/regex/StateSet" "stack" "[I" .null := D10 (Or.inl (hw _ (List.mem_of_getElem? (i := 13) rfl))) (ty := (.array .int)) (by decide)
        have F_instructions_b10 : Fld Z h10 b10 "com/example/libfacet/libfacet/regex/StateSet" "instructions" "I" (.int (0 : Int32)) := D10 (Or.inr (hw _ (List.mem_of_getElem? (i := 15) rfl))) (ty := .int) (by decide)
        have F_members_b10 : Fld Z h10 b10 "com/example/libfacet/libfacet/regex/StateSet" "members" "[I" .null := D10 (Or.inl (hw _ (List.mem_of_getElem? (i := 17) rfl))) (ty := (.array .int)) (by decide)
        have F_marks_b10 : Fld Z h10 b10 "com/example/libfacet/libfacet/regex/StateSet" "marks" "[C" .null := D10 (Or.inr (hw _ (List.mem_of_getElem? (i := 20) rfl))) (ty := (.array .char)) (by decide)
        have F_markBits_b10 : Fld Z h10 b10 "com/example/libfacet/libfacet/regex/StateSet" "markBits" "[J" .null := D10 (Or.inr (hw _ (List.mem_of_getElem? (i := 22) rfl))) (ty := (.array .long)) (by decide)
        have F_marked_b10 : Fld Z h10 b10 "com/example/libfacet/libfacet/regex/StateSet" "marked" "[I" .null := D10 (Or.inl (hw _ (List.mem_of_getElem? (i := 24) rfl))) (ty := (.array .int)) (by decide)
        have F_size_b10 : Fld Z h10 b10 "com/example/libfacet/libfacet/regex/StateSet" "size" "I" (.int (0 : Int32)) := D10 (Or.inl (hw _ (List.mem_of_getElem? (i := 31) rfl))) (ty := .int) (by decide)
        obtain ⟨_, _, ⟨T11, L11, k11, n11⟩, -, X11, ⟨Lc11, hQ11, l11, y11, z11⟩, st11⟩ := X10.specialBack hx (y := (⟨"com/example/libfacet/libfacet/regex/StateSet", "<init>", "(IZ)V"⟩ : MethodName)) rfl hown (mvT hZ (hw _ (List.mem_of_getElem? (i := 3) rfl))) (mvT hZ (hw _ (List.mem_of_getElem? (i := 4) rfl))) (mvT hZ (hw _ (List.mem_of_getElem? (i := 5) rfl))) (by decide) (backOf (W := 1) (rm1L l Z a0 hw [] b10 (0 : Int32) (0 : Int32) (0 : Int32) h10 n0 Z10 ⟨A10, F_stamp_b10, F_stack_b10, F_instructions_b10, F_members_b10, F_marks_b10, F_markBits_b10, F_marked_b10, F_size_b10⟩ g_b10) hZ (hw _ (List.mem_of_getElem? (i := 5) rfl)) (hw _ (List.mem_of_getElem? (i := 2) rfl)) (by decide) (by decide)) (g := (mkF m 29 #[.val (.int p1), .val (.int p2), .val (.int p3), .val (.int p4), .val (.int p5), .val (.int (0 : Int32)), .val (.int (1 : Int32)), .unset, .unset] [(.int (1 : Int32)), (.int (4 : Int32)), (.ref b10), (.ref b10)])) rfl (by rw [hml]; rfl) (Steps.refl _) (a := b10) (argsL := [(.int (4 : Int32)), (.int (1 : Int32))]) (rest := [(.ref b10)]) (lenOf pd_0_0 rfl) rfl (by show 2 * 0 + _ ≤ _; exact Nat.le_of_eq rfl) (hb hby at_29) (fun _ _ => ⟨rfl, e10, (by decide : 1 + 3 ≤ _), (by decide : 10 + 33 ≤ _)⟩)
        dsimp only [Pt.U, Pt.locs, Pt.cells, Pt.slots] at X11 l11 y11 z11 st11 hQ11
        subst l11 y11 z11
        obtain ⟨rfl, N11q, Kq11, O11_0⟩ := hQ11
        have N11 := Fr.app Nj8 N11q
        have fE_b10_x11 := (A10.keep Kq11)
        have K11 : Keep h0 T11.heap [] := Keep.trans K10 Kq11 (allS (Or.inr sz_b10) all0)
        have Z11 : n0 ≤ T11.heap.size := Nat.le_trans Z10 Kq11.1
        obtain ⟨E_b10_12, F_members_b10_13, F_size_b10_14⟩ := O11_0
        obtain ⟨cq15, kq15, q15a, q15b, q15c⟩ := isOf hZ rfl E_b10_12
        obtain ⟨_, _, ⟨T15, L15, k15, n15⟩, -, X15, ⟨Lc15, hQ15, l15, y15, z15⟩, st15⟩ := X11.virtualBack hx (y := (⟨"com/example/libfacet/libfacet/regex/StateSet", "membersHash", "()I"⟩ : MethodName)) (z := (⟨"com/example/libfacet/libfacet/regex/StateSet", "membersHash", "()I"⟩ : MethodName)) hown (mvT hZ (hw _ (List.mem_of_getElem? (i := 25) rfl))) (mvT hZ (hw _ (List.mem_of_getElem? (i := 26) rfl))) (notFace_of_selects (args := #[]) (mvT hZ (hw _ (List.mem_of_getElem? (i := 28) rfl)))) (mvT hZ (hw _ (List.mem_of_getElem? (i := 28) rfl))) (mvT hZ (hw _ (List.mem_of_getElem? (i := 27) rfl))) (by decide) (backOf (W := 0) (rm3L l Z a0 hw [] b10  T11.heap n0 Z11 ⟨E_b10_12, F_members_b10_13, F_size_b10_14⟩) hZ (hw _ (List.mem_of_getElem? (i := 29) rfl)) (hw _ (List.mem_of_getElem? (i := 2) rfl)) (by decide) (by decide)) q15a q15c (g := (mkF m 188 #[.val (.int p1), .val (.int p2), .val (.int p3), .val (.int p4), .val (.int p5), .val (.int (0 : Int32)), .val (.int (1 : Int32)), .val (.ref b10), .val (.int (1 : Int32))] [(.ref b10)])) rfl (by rw [hml]; rfl) (Steps.refl _) (argsL := []) (rest := []) (lenOf pd_0_1 rfl) rfl (by show 2 * 0 + _ ≤ _; exact Nat.le_of_eq rfl) (hb hby at_188) (fun _ _ => ⟨rfl, rfl, (by decide : 4 + 0 ≤ _), (by decide : 43 + 0 ≤ _)⟩)
        dsimp only [Pt.U, Pt.locs, Pt.cells, Pt.slots] at X15 l15 y15 z15 st15 hQ15
        subst l15 y15 z15
        obtain ⟨rfl, N15q, e15⟩ := hQ15
        have N15 := Fr.app N11 N15q
        refine own_pre (A := T15.setTop (mkF m 201 #[.val (.int p1), .val (.int p2), .val (.int p3), .val (.int p4), .val (.int p5), .val (.int (0 : Int32)), .val (.int (1 : Int32)), .val (.ref b10), .val (.int (1 : Int32))] [(.int (1 : Int32))])) (fun tt kt => ?_) ?_
        · show Steps p.tables e below (Tj8.setTop (mkF m 12 #[.val (.int p1), .val (.int p2), .val (.int p3), .val (.int p4), .val (.int p5), .val (.int (0 : Int32)), .unset, .unset, .unset] [(.int (p1 &&& (8 : Int32)))])) _
          refine XS.ifNo Xj8.here hx rfl (hb hby at_12) rfl ((if0 _ _).trans (feq hc12_2).1) ?_
          show Steps p.tables e below (Tj8.setTop (mkF m 15 #[.val (.int p1), .val (.int p2), .val (.int p3), .val (.int p4), .val (.int p5), .val (.int (0 : Int32)), .unset, .unset, .unset] [])) _
          refine XS.iconst Xj8.here hx rfl (hb hby at_15) ?_
          show Steps p.tables e below (Tj8.setTop (mkF m 16 #[.val (.int p1), .val (.int p2), .val (.int p3), .val (.int p4), .val (.int p5), .val (.int (0 : Int32)), .unset, .unset, .unset] [(.int (1 : Int32))])) _
          refine XS.goto Xj8.here hx rfl (pc0 := 16) (pc' := 20) rfl (hb hby at_16) (by decide) (by decide) ?_
          show Steps p.tables e below (Tj8.setTop (mkF m 20 #[.val (.int p1), .val (.int p2), .val (.int p3), .val (.int p4), .val (.int p5), .val (.int (0 : Int32)), .unset, .unset, .unset] [(.int (1 : Int32))])) _
          refine XS.istore Xj8.here hx rfl (hb hby at_20) rfl (l' := #[.val (.int p1), .val (.int p2), .val (.int p3), .val (.int p4), .val (.int p5), .val (.int (0 : Int32)), .val (.int (1 : Int32)), .unset, .unset]) rfl ?_
          show Steps p.tables e below (Tj8.setTop (mkF m 22 #[.val (.int p1), .val (.int p2), .val (.int p3), .val (.int p4), .val (.int p5), .val (.int (0 : Int32)), .val (.int (1 : Int32)), .unset, .unset] [])) _
          refine st10 _ ?_
          show Steps p.tables e below (T10.setTop (mkF m 25 #[.val (.int p1), .val (.int p2), .val (.int p3), .val (.int p4), .val (.int p5), .val (.int (0 : Int32)), .val (.int (1 : Int32)), .unset, .unset] [(.ref b10)])) _
          refine XS.dup X10.here hx rfl (hb hby at_25) rfl rfl ?_
          show Steps p.tables e below (T10.setTop (mkF m 26 #[.val (.int p1), .val (.int p2), .val (.int p3), .val (.int p4), .val (.int p5), .val (.int (0 : Int32)), .val (.int (1 : Int32)), .unset, .unset] [(.ref b10), (.ref b10)])) _
          refine XS.iconst X10.here hx rfl (hb hby at_26) ?_
          show Steps p.tables e below (T10.setTop (mkF m 27 #[.val (.int p1), .val (.int p2), .val (.int p3), .val (.int p4), .val (.int p5), .val (.int (0 : Int32)), .val (.int (1 : Int32)), .unset, .unset] [(.int (4 : Int32)), (.ref b10), (.ref b10)])) _
          refine XS.iload X10.here hx rfl (hb hby at_27) rfl ?_
          show Steps p.tables e below (T10.setTop (mkF m 29 #[.val (.int p1), .val (.int p2), .val (.int p3), .val (.int p4), .val (.int p5), .val (.int (0 : Int32)), .val (.int (1 : Int32)), .unset, .unset] [(.int (1 : Int32)), (.int (4 : Int32)), (.ref b10), (.ref b10)])) _
          refine st11.trans ?_
          show Steps p.tables e below (T11.setTop (mkF m 32 #[.val (.int p1), .val (.int p2), .val (.int p3), .val (.int p4), .val (.int p5), .val (.int (0 : Int32)), .val (.int (1 : Int32)), .unset, .unset] [(.ref b10)])) _
          refine XS.astore X11.here hx rfl (hb hby at_32) rfl rfl (l' := #[.val (.int p1), .val (.int p2), .val (.int p3), .val (.int p4), .val (.int p5), .val (.int (0 : Int32)), .val (.int (1 : Int32)), .val (.ref b10), .unset]) rfl ?_
          show Steps p.tables e below (T11.setTop (mkF m 34 #[.val (.int p1), .val (.int p2), .val (.int p3), .val (.int p4), .val (.int p5), .val (.int (0 : Int32)), .val (.int (1 : Int32)), .val (.ref b10), .unset] [])) _
          refine XS.iload X11.here hx rfl (hb hby at_34) rfl ?_
          show Steps p.tables e below (T11.setTop (mkF m 36 #[.val (.int p1), .val (.int p2), .val (.int p3), .val (.int p4), .val (.int p5), .val (.int (0 : Int32)), .val (.int (1 : Int32)), .val (.ref b10), .unset] [(.int (0 : Int32))])) _
          refine XS.iconst X11.here hx rfl (hb hby at_36) ?_
          show Steps p.tables e below (T11.setTop (mkF m 37 #[.val (.int p1), .val (.int p2), .val (.int p3), .val (.int p4), .val (.int p5), .val (.int (0 : Int32)), .val (.int (1 : Int32)), .val (.ref b10), .unset] [(.int (1 : Int32)), (.int (0 : Int32))])) _
          refine XS.icmpYes X11.here hx rfl (pc0 := 37) (pc' := 46) rfl (hb hby at_37) rfl (tlt ((by decide) : (0 : Int32) < (1 : Int32))).1 (by decide) (by decide) ?_
          show Steps p.tables e below (T11.setTop (mkF m 46 #[.val (.int p1), .val (.int p2), .val (.int p3), .val (.int p4), .val (.int p5), .val (.int (0 : Int32)), .val (.int (1 : Int32)), .val (.ref b10), .unset] [])) _
          refine XS.iload X11.here hx rfl (hb hby at_46) rfl ?_
          show Steps p.tables e below (T11.setTop (mkF m 48 #[.val (.int p1), .val (.int p2), .val (.int p3), .val (.int p4), .val (.int p5), .val (.int (0 : Int32)), .val (.int (1 : Int32)), .val (.ref b10), .unset] [(.int (0 : Int32))])) _
          refine XS.iconst X11.here hx rfl (hb hby at_48) ?_
          show Steps p.tables e below (T11.setTop (mkF m 49 #[.val (.int p1), .val (.int p2), .val (.int p3), .val (.int p4), .val (.int p5), .val (.int (0 : Int32)), .val (.int (1 : Int32)), .val (.ref b10), .unset] [(.int (2 : Int32)), (.int (0 : Int32))])) _
          refine XS.icmpYes X11.here hx rfl (pc0 := 49) (pc' := 58) rfl (hb hby at_49) rfl (tlt ((by decide) : (0 : Int32) < (2 : Int32))).1 (by decide) (by decide) ?_
          show Steps p.tables e below (T11.setTop (mkF m 58 #[.val (.int p1), .val (.int p2), .val (.int p3), .val (.int p4), .val (.int p5), .val (.int (0 : Int32)), .val (.int (1 : Int32)), .val (.ref b10), .unset] [])) _
          refine XS.iload X11.here hx rfl (hb hby at_58) rfl ?_
          show Steps p.tables e below (T11.setTop (mkF m 60 #[.val (.int p1), .val (.int p2), .val (.int p3), .val (.int p4), .val (.int p5), .val (.int (0 : Int32)), .val (.int (1 : Int32)), .val (.ref b10), .unset] [(.int (0 : Int32))])) _
          refine XS.iconst X11.here hx rfl (hb hby at_60) ?_
          show Steps p.tables e below (T11.setTop (mkF m 61 #[.val (.int p1), .val (.int p2), .val (.int p3), .val (.int p4), .val (.int p5), .val (.int (0 : Int32)), .val (.int (1 : Int32)), .val (.ref b10), .unset] [(.int (3 : Int32)), (.int (0 : Int32))])) _
          refine XS.icmpYes X11.here hx rfl (pc0 := 61) (pc' := 70) rfl (hb hby at_61) rfl (tlt ((by decide) : (0 : Int32) < (3 : Int32))).1 (by decide) (by decide) ?_
          show Steps p.tables e below (T11.setTop (mkF m 70 #[.val (.int p1), .val (.int p2), .val (.int p3), .val (.int p4), .val (.int p5), .val (.int (0 : Int32)), .val (.int (1 : Int32)), .val (.ref b10), .unset] [])) _
          refine XS.iload X11.here hx rfl (hb hby at_70) rfl ?_
          show Steps p.tables e below (T11.setTop (mkF m 72 #[.val (.int p1), .val (.int p2), .val (.int p3), .val (.int p4), .val (.int p5), .val (.int (0 : Int32)), .val (.int (1 : Int32)), .val (.ref b10), .unset] [(.int (0 : Int32))])) _
          refine XS.iconst X11.here hx rfl (hb hby at_72) ?_
          show Steps p.tables e below (T11.setTop (mkF m 73 #[.val (.int p1), .val (.int p2), .val (.int p3), .val (.int p4), .val (.int p5), .val (.int (0 : Int32)), .val (.int (1 : Int32)), .val (.ref b10), .unset] [(.int (4 : Int32)), (.int (0 : Int32))])) _
          refine XS.icmpYes X11.here hx rfl (pc0 := 73) (pc' := 83) rfl (hb hby at_73) rfl (tlt ((by decide) : (0 : Int32) < (4 : Int32))).1 (by decide) (by decide) ?_
          show Steps p.tables e below (T11.setTop (mkF m 83 #[.val (.int p1), .val (.int p2), .val (.int p3), .val (.int p4), .val (.int p5), .val (.int (0 : Int32)), .val (.int (1 : Int32)), .val (.ref b10), .unset] [])) _
          refine XS.iload X11.here hx rfl (hb hby at_83) rfl ?_
          show Steps p.tables e below (T11.setTop (mkF m 85 #[.val (.int p1), .val (.int p2), .val (.int p3), .val (.int p4), .val (.int p5), .val (.int (0 : Int32)), .val (.int (1 : Int32)), .val (.ref b10), .unset] [(.int (1 : Int32))])) _
          refine XS.ifYes X11.here hx rfl (pc0 := 85) (pc' := 93) rfl (hb hby at_85) rfl ((if0 _ _).trans (feq ((by decide) : ¬ ((1 : Int32) = (0 : Int32)))).2) (by decide) (by decide) ?_
          show Steps p.tables e below (T11.setTop (mkF m 93 #[.val (.int p1), .val (.int p2), .val (.int p3), .val (.int p4), .val (.int p5), .val (.int (0 : Int32)), .val (.int (1 : Int32)), .val (.ref b10), .unset] [])) _
          refine XS.iconst X11.here hx rfl (hb hby at_93) ?_
          show Steps p.tables e below (T11.setTop (mkF m 94 #[.val (.int p1), .val (.int p2), .val (.int p3), .val (.int p4), .val (.int p5), .val (.int (0 : Int32)), .val (.int (1 : Int32)), .val (.ref b10), .unset] [(.int (1 : Int32))])) _
          refine XS.istore X11.here hx rfl (hb hby at_94) rfl (l' := #[.val (.int p1), .val (.int p2), .val (.int p3), .val (.int p4), .val (.int p5), .val (.int (0 : Int32)), .val (.int (1 : Int32)), .val (.ref b10), .val (.int (1 : Int32))]) rfl ?_
          show Steps p.tables e below (T11.setTop (mkF m 96 #[.val (.int p1), .val (.int p2), .val (.int p3), .val (.int p4), .val (.int p5), .val (.int (0 : Int32)), .val (.int (1 : Int32)), .val (.ref b10), .val (.int (1 : Int32))] [])) _
          refine XS.goto X11.here hx rfl (pc0 := 96) (pc' := 186) rfl (hb hby at_96) (by decide) (by decide) ?_
          show Steps p.tables e below (T11.setTop (mkF m 186 #[.val (.int p1), .val (.int p2), .val (.int p3), .val (.int p4), .val (.int p5), .val (.int (0 : Int32)), .val (.int (1 : Int32)), .val (.ref b10), .val (.int (1 : Int32))] [])) _
          refine XS.aload X11.here hx rfl (hb hby at_186) rfl rfl ?_
          show Steps p.tables e below (T11.setTop (mkF m 188 #[.val (.int p1), .val (.int p2), .val (.int p3), .val (.int p4), .val (.int p5), .val (.int (0 : Int32)), .val (.int (1 : Int32)), .val (.ref b10), .val (.int (1 : Int32))] [(.ref b10)])) _
          refine st15.trans ?_
          show Steps p.tables e below (T15.setTop (mkF m 191 #[.val (.int p1), .val (.int p2), .val (.int p3), .val (.int p4), .val (.int p5), .val (.int (0 : Int32)), .val (.int (1 : Int32)), .val (.ref b10), .val (.int (1 : Int32))] [(.int (1 : Int32))])) _
          refine XS.iload X15.here hx rfl (hb hby at_191) rfl ?_
          show Steps p.tables e below (T15.setTop (mkF m 193 #[.val (.int p1), .val (.int p2), .val (.int p3), .val (.int p4), .val (.int p5), .val (.int (0 : Int32)), .val (.int (1 : Int32)), .val (.ref b10), .val (.int (1 : Int32))] [(.int (1 : Int32)), (.int (1 : Int32))])) _
          refine XS.icmpNo X15.here hx rfl (hb hby at_193) rfl (teq ((by decide) : (1 : Int32) = (1 : Int32))).2 ?_
          show Steps p.tables e below (T15.setTop (mkF m 196 #[.val (.int p1), .val (.int p2), .val (.int p3), .val (.int p4), .val (.int p5), .val (.int (0 : Int32)), .val (.int (1 : Int32)), .val (.ref b10), .val (.int (1 : Int32))] [])) _
          refine XS.iconst X15.here hx rfl (hb hby at_196) ?_
          show Steps p.tables e below (T15.setTop (mkF m 197 #[.val (.int p1), .val (.int p2), .val (.int p3), .val (.int p4), .val (.int p5), .val (.int (0 : Int32)), .val (.int (1 : Int32)), .val (.ref b10), .val (.int (1 : Int32))] [(.int (1 : Int32))])) _
          refine XS.goto X15.here hx rfl (pc0 := 197) (pc' := 201) rfl (hb hby at_197) (by decide) (by decide) ?_
          exact kt
        show own_End p e below s (T15.setTop (mkF m 201 #[.val (.int p1), .val (.int p2), .val (.int p3), .val (.int p4), .val (.int p5), .val (.int (0 : Int32)), .val (.int (1 : Int32)), .val (.ref b10), .val (.int (1 : Int32))] [(.int (1 : Int32))])) (Q0 Z p1 p2 p3 p4 p5 h0 n0) room_1.cells room_1.slots
        have hv : (own_law p1 p2 p3 p4 p5) = (1 : Int32) := hj.trans (by simp only [own_law_8, if_pos hs1_0, if_neg hc12_2])
        obtain ⟨fs, hr, hrun, hended, hW, hsame⟩ := X15.leave (v := some (.int (1 : Int32))) (fun h => by rw [Bd.returns] at h; cases h)
        refine ⟨_, _, ?_, hrun, hended, _, _, rfl, ?_, ⟨_, rfl⟩, hW, hsame.mono (by decide) (by decide)⟩
        · exact retN X15 hx (t := .boolean) Bd.returns (by simp) (hb hby at_201) hr
        · show Q0 Z p1 p2 p3 p4 p5 h0 n0 _ T15.heap _
          rw [e15]
          exact ⟨(congrArg (fun z => some (Value.int z)) hv.symm), N15⟩
    by_cases hs1_1 : n = (1 : Int32)
    · rw [hs1_1]
      refine own_pre (A := Tj8.setTop (mkF m 12 #[.val (.int p1), .val (.int p2), .val (.int p3), .val (.int p4), .val (.int p5), .val (.int (1 : Int32)), .unset, .unset, .unset] [(.int (p1 &&& (8 : Int32)))])) (fun tt kt => ?_) ?_
      · show Steps p.tables e below (Tj8.setTop (mkF m 9 #[.val (.int p1), .val (.int p2), .val (.int p3), .val (.int p4), .val (.int p5), .val (.int (1 : Int32)), .unset, .unset, .unset] [(.int p1)])) _
        refine XS.bipush Xj8.here hx rfl (hb hby at_9) ?_
        show Steps p.tables e below (Tj8.setTop (mkF m 11 #[.val (.int p1), .val (.int p2), .val (.int p3), .val (.int p4), .val (.int p5), .val (.int (1 : Int32)), .unset, .unset, .unset] [(.int (8 : Int32)), (.int p1)])) _
        refine XS.iand Xj8.here hx rfl (hb hby at_11) rfl ?_
        exact kt
      show own_End p e below s (Tj8.setTop (mkF m 12 #[.val (.int p1), .val (.int p2), .val (.int p3), .val (.int p4), .val (.int p5), .val (.int (1 : Int32)), .unset, .unset, .unset] [(.int (p1 &&& (8 : Int32)))])) (Q0 Z p1 p2 p3 p4 p5 h0 n0) room_1.cells room_1.slots
      by_cases hc12_16 : (p1 &&& (8 : Int32)) = (0 : Int32)
      · obtain ⟨T17, h17, X17, e17, E17, A17, D17, -, st17⟩ := newO Xj8 hx hZ hown (hw _ (List.mem_of_getElem? (i := 0) rfl)) (hw _ (List.mem_of_getElem? (i := 1) rfl)) (hw _ (List.mem_of_getElem? (i := 2) rfl)) ej8 (g := (mkF m 22 #[.val (.int p1), .val (.int p2), .val (.int p3), .val (.int p4), .val (.int p5), .val (.int (1 : Int32)), .val (.int (0 : Int32)), .unset, .unset] [])) rfl (hb hby at_22) (by decide) (by decide)
        obtain ⟨b17, g17⟩ : ∃ z, z = h0.size := ⟨_, rfl⟩
        rw [← g17] at A17 D17 st17
        have g_b17 : n0 ≤ b17 := Nat.le_trans Z0 (Nat.le_of_eq g17.symm)
        have sz_b17 : h0.size ≤ b17 := Nat.le_trans (show Keep h0 h0 [] from (Keep.refl h0 _)).1 (Nat.le_of_eq g17.symm)
        have K17 : Keep h0 h17 [] := Keep.ext (Keep.refl h0 _) E17
        have Z17 : n0 ≤ h17.size := Nat.le_trans Z0 E17.1
        have F_stamp_b17 : Fld Z h17 b17 "com/example/libfacet/libfacet/regex/StateSet" "stamp" "I" (.int (0 : Int32)) := D17 (Or.inl (hw _ (List.mem_of_getElem? (i := 10) rfl))) (ty := .int) (by decide)
        have F_stack_b17 : Fld Z h17 b17 "com/example/libfacet/libfacet/regex/StateSet" "stack" "[I" .null := D17 (Or.inl (hw _ (List.mem_of_getElem? (i := 13) rfl))) (ty := (.array .int)) (by decide)
        have F_instructions_b17 : Fld Z h17 b17 "com/example/libfacet/libfacet/regex/StateSet" "instructions" "I" (.int (0 : Int32)) := D17 (Or.inr (hw _ (List.mem_of_getElem? (i := 15) rfl))) (ty := .int) (by decide)
        have F_members_b17 : Fld Z h17 b17 "com/example/libfacet/libfacet/regex/StateSet" "members" "[I" .null := D17 (Or.inl (hw _ (List.mem_of_getElem? (i := 17) rfl))) (ty := (.array .int)) (by decide)
        have F_marks_b17 : Fld Z h17 b17 "com/example/libfacet/libfacet/regex/StateSet" "marks" "[C" .null := D17 (Or.inr (hw _ (List.mem_of_getElem? (i := 20) rfl))) (ty := (.array .char)) (by decide)
        have F_markBits_b17 : Fld Z h17 b17 "com/example/libfacet/libfacet/regex/StateSet" "markBits" "[J" .null := D17 (Or.inr (hw _ (List.mem_of_getElem? (i := 22) rfl))) (ty := (.array .long)) (by decide)
        have F_marked_b17 : Fld Z h17 b17 "com/example/libfacet/libfacet/regex/StateSet" "marked" "[I" .null := D17 (Or.inl (hw _ (List.mem_of_getElem? (i := 24) rfl))) (ty := (.array .int)) (by decide)
        have F_size_b17 : Fld Z h17 b17 "com/example/libfacet/libfacet/regex/StateSet" "size" "I" (.int (0 : Int32)) := D17 (Or.inl (hw _ (List.mem_of_getElem? (i := 31) rfl))) (ty := .int) (by decide)
        obtain ⟨_, _, ⟨T18, L18, k18, n18⟩, -, X18, ⟨Lc18, hQ18, l18, y18, z18⟩, st18⟩ := X17.specialBack hx (y := (⟨"com/example/libfacet/libfacet/regex/StateSet", "<init>", "(IZ)V"⟩ : MethodName)) rfl hown (mvT hZ (hw _ (List.mem_of_getElem? (i := 3) rfl))) (mvT hZ (hw _ (List.mem_of_getElem? (i := 4) rfl))) (mvT hZ (hw _ (List.mem_of_getElem? (i := 5) rfl))) (by decide) (backOf (W := 1) (rm1N l Z a0 hw [] b17 (0 : Int32) (0 : Int32) (0 : Int32) h17 n0 Z17 ⟨A17, F_stamp_b17, F_stack_b17, F_instructions_b17, F_members_b17, F_marks_b17, F_markBits_b17, F_marked_b17, F_size_b17⟩ g_b17) hZ (hw _ (List.mem_of_getElem? (i := 5) rfl)) (hw _ (List.mem_of_getElem? (i := 2) rfl)) (by decide) (by decide)) (g := (mkF m 29 #[.val (.int p1), .val (.int p2), .val (.int p3), .val (.int p4), .val (.int p5), .val (.int (1 : Int32)), .val (.int (0 : Int32)), .unset, .unset] [(.int (0 : Int32)), (.int (4 : Int32)), (.ref b17), (.ref b17)])) rfl (by rw [hml]; rfl) (Steps.refl _) (a := b17) (argsL := [(.int (4 : Int32)), (.int (0 : Int32))]) (rest := [(.ref b17)]) (lenOf pd_0_0 rfl) rfl (by show 2 * 0 + _ ≤ _; exact Nat.le_of_eq rfl) (hb hby at_29) (fun _ _ => ⟨rfl, e17, (by decide : 1 + 3 ≤ _), (by decide : 10 + 36 ≤ _)⟩)
        dsimp only [Pt.U, Pt.locs, Pt.cells, Pt.slots] at X18 l18 y18 z18 st18 hQ18
        subst l18 y18 z18
        obtain ⟨rfl, N18q, c18_am, Kq18, O18_0, szq_c18_am, P18_am_0⟩ := hQ18
        have ne_b17_c18_am : b17 ≠ c18_am := Nat.ne_of_lt (Nat.lt_of_lt_of_le A17.lt szq_c18_am)
        have g_c18_am : n0 ≤ c18_am := Nat.le_trans Z17 szq_c18_am
        have sz_c18_am : h0.size ≤ c18_am := Nat.le_trans (show Keep h0 h17 [] from K17).1 szq_c18_am
        have N18 := Fr.app Nj8 N18q
        have fE_b17_x18 := (A17.keep Kq18)
        have K18 : Keep h0 T18.heap [] := Keep.trans K17 Kq18 (allS (Or.inr sz_b17) all0)
        have Z18 : n0 ≤ T18.heap.size := Nat.le_trans Z17 Kq18.1
        obtain ⟨E_b17_19, F_members_b17_20, F_size_b17_21⟩ := O18_0
        obtain ⟨cq22, kq22, q22a, q22b, q22c⟩ := isOf hZ rfl E_b17_19
        obtain ⟨_, _, ⟨T22, L22, k22, n22⟩, -, X22, ⟨Lc22, hQ22, l22, y22, z22⟩, st22⟩ := X18.virtualBack hx (y := (⟨"com/example/libfacet/libfacet/regex/StateSet", "add", "(I)V"⟩ : MethodName)) (z := (⟨"com/example/libfacet/libfacet/regex/StateSet", "add", "(I)V"⟩ : MethodName)) hown (mvT hZ (hw _ (List.mem_of_getElem? (i := 32) rfl))) (mvT hZ (hw _ (List.mem_of_getElem? (i := 33) rfl))) (notFace_of_selects (args := #[]) (mvT hZ (hw _ (List.mem_of_getElem? (i := 35) rfl)))) (mvT hZ (hw _ (List.mem_of_getElem? (i := 35) rfl))) (mvT hZ (hw _ (List.mem_of_getElem? (i := 34) rfl))) (by decide) (backOf (W := 0) (rm4N l Z a0 hw [] b17 p2 c18_am (0 : Int32) (fun _ => (0 : Int32)) T18.heap n0 Z18 ⟨E_b17_19, F_members_b17_20, F_size_b17_21⟩ P18_am_0 ne_b17_c18_am g_b17 g_c18_am (by decide) (by decide)) hZ (hw _ (List.mem_of_getElem? (i := 36) rfl)) (hw _ (List.mem_of_getElem? (i := 2) rfl)) (by decide) (by decide)) q22a q22c (g := (mkF m 43 #[.val (.int p1), .val (.int p2), .val (.int p3), .val (.int p4), .val (.int p5), .val (.int (1 : Int32)), .val (.int (0 : Int32)), .val (.ref b17), .unset] [(.int p2), (.ref b17)])) rfl (by rw [hml]; rfl) (Steps.refl _) (argsL := [(.int p2)]) (rest := []) (lenOf pd_0_2 rfl) rfl (by show 2 * 0 + _ ≤ _; exact Nat.le_of_eq rfl) (hb hby at_43) (fun _ _ => ⟨rfl, rfl, (by decide : 4 + 0 ≤ _), (by decide : 46 + 0 ≤ _)⟩)
        dsimp only [Pt.U, Pt.locs, Pt.cells, Pt.slots] at X22 l22 y22 z22 st22 hQ22
        subst l22 y22 z22
        obtain ⟨rfl, N22q, Kq22, O22_0, V22_0⟩ := hQ22
        have N22 := Fr.app N18 N22q
        have fE_b17_x22 := (E_b17_19.keep Kq22)
        have K22 : Keep h0 T22.heap [] := Keep.trans K18 Kq22 (allS (Or.inr sz_b17) (allS (Or.inr sz_c18_am) all0))
        have Z22 : n0 ≤ T22.heap.size := Nat.le_trans Z18 Kq22.1
        obtain ⟨E_b17_23, F_members_b17_24, F_size_b17_25⟩ := O22_0
        obtain ⟨cq26, kq26, q26a, q26b, q26c⟩ := isOf hZ rfl E_b17_23
        obtain ⟨_, _, ⟨T26, L26, k26, n26⟩, -, X26, ⟨Lc26, hQ26, l26, y26, z26⟩, st26⟩ := X22.virtualBack hx (y := (⟨"com/example/libfacet/libfacet/regex/StateSet", "membersHash", "()I"⟩ : MethodName)) (z := (⟨"com/example/libfacet/libfacet/regex/StateSet", "membersHash", "()I"⟩ : MethodName)) hown (mvT hZ (hw _ (List.mem_of_getElem? (i := 25) rfl))) (mvT hZ (hw _ (List.mem_of_getElem? (i := 26) rfl))) (notFace_of_selects (args := #[]) (mvT hZ (hw _ (List.mem_of_getElem? (i := 28) rfl)))) (mvT hZ (hw _ (List.mem_of_getElem? (i := 28) rfl))) (mvT hZ (hw _ (List.mem_of_getElem? (i := 27) rfl))) (by decide) (backOf (W := 0) (rm3N l Z a0 hw [] b17 c18_am (1 : Int32) (own_put (fun _ => (0 : Int32)) (0 : Int32) p2) T22.heap n0 Z22 ⟨E_b17_23, F_members_b17_24, F_size_b17_25⟩ V22_0 (by decide) (by decide)) hZ (hw _ (List.mem_of_getElem? (i := 29) rfl)) (hw _ (List.mem_of_getElem? (i := 2) rfl)) (by decide) (by decide)) q26a q26c (g := (mkF m 188 #[.val (.int p1), .val (.int p2), .val (.int p3), .val (.int p4), .val (.int p5), .val (.int (1 : Int32)), .val (.int (0 : Int32)), .val (.ref b17), .val (.int ((31 : Int32) + p2))] [(.ref b17)])) rfl (by rw [hml]; rfl) (Steps.refl _) (argsL := []) (rest := []) (lenOf pd_0_1 rfl) rfl (by show 2 * 0 + _ ≤ _; exact Nat.le_of_eq rfl) (hb hby at_188) (fun _ _ => ⟨rfl, rfl, (by decide : 4 + 0 ≤ _), (by decide : 46 + 0 ≤ _)⟩)
        dsimp only [Pt.U, Pt.locs, Pt.cells, Pt.slots] at X26 l26 y26 z26 st26 hQ26
        subst l26 y26 z26
        obtain ⟨rfl, N26q, e26⟩ := hQ26
        have N26 := Fr.app N22 N26q
        refine own_pre (A := T26.setTop (mkF m 193 #[.val (.int p1), .val (.int p2), .val (.int p3), .val (.int p4), .val (.int p5), .val (.int (1 : Int32)), .val (.int (0 : Int32)), .val (.ref b17), .val (.int ((31 : Int32) + p2))] [(.int ((31 : Int32) + p2)), (.int (own_hash (own_put (fun _ => (0 : Int32)) (0 : Int32) p2) (1 : Int32)))])) (fun tt kt => ?_) ?_
        · show Steps p.tables e below (Tj8.setTop (mkF m 12 #[.val (.int p1), .val (.int p2), .val (.int p3), .val (.int p4), .val (.int p5), .val (.int (1 : Int32)), .unset, .unset, .unset] [(.int (p1 &&& (8 : Int32)))])) _
          refine XS.ifYes Xj8.here hx rfl (pc0 := 12) (pc' := 19) rfl (hb hby at_12) rfl ((if0 _ _).trans (teq hc12_16).1) (by decide) (by decide) ?_
          show Steps p.tables e below (Tj8.setTop (mkF m 19 #[.val (.int p1), .val (.int p2), .val (.int p3), .val (.int p4), .val (.int p5), .val (.int (1 : Int32)), .unset, .unset, .unset] [])) _
          refine XS.iconst Xj8.here hx rfl (hb hby at_19) ?_
          show Steps p.tables e below (Tj8.setTop (mkF m 20 #[.val (.int p1), .val (.int p2), .val (.int p3), .val (.int p4), .val (.int p5), .val (.int (1 : Int32)), .unset, .unset, .unset] [(.int (0 : Int32))])) _
          refine XS.istore Xj8.here hx rfl (hb hby at_20) rfl (l' := #[.val (.int p1), .val (.int p2), .val (.int p3), .val (.int p4), .val (.int p5), .val (.int (1 : Int32)), .val (.int (0 : Int32)), .unset, .unset]) rfl ?_
          show Steps p.tables e below (Tj8.setTop (mkF m 22 #[.val (.int p1), .val (.int p2), .val (.int p3), .val (.int p4), .val (.int p5), .val (.int (1 : Int32)), .val (.int (0 : Int32)), .unset, .unset] [])) _
          refine st17 _ ?_
          show Steps p.tables e below (T17.setTop (mkF m 25 #[.val (.int p1), .val (.int p2), .val (.int p3), .val (.int p4), .val (.int p5), .val (.int (1 : Int32)), .val (.int (0 : Int32)), .unset, .unset] [(.ref b17)])) _
          refine XS.dup X17.here hx rfl (hb hby at_25) rfl rfl ?_
          show Steps p.tables e below (T17.setTop (mkF m 26 #[.val (.int p1), .val (.int p2), .val (.int p3), .val (.int p4), .val (.int p5), .val (.int (1 : Int32)), .val (.int (0 : Int32)), .unset, .unset] [(.ref b17), (.ref b17)])) _
          refine XS.iconst X17.here hx rfl (hb hby at_26) ?_
          show Steps p.tables e below (T17.setTop (mkF m 27 #[.val (.int p1), .val (.int p2), .val (.int p3), .val (.int p4), .val (.int p5), .val (.int (1 : Int32)), .val (.int (0 : Int32)), .unset, .unset] [(.int (4 : Int32)), (.ref b17), (.ref b17)])) _
          refine XS.iload X17.here hx rfl (hb hby at_27) rfl ?_
          show Steps p.tables e below (T17.setTop (mkF m 29 #[.val (.int p1), .val (.int p2), .val (.int p3), .val (.int p4), .val (.int p5), .val (.int (1 : Int32)), .val (.int (0 : Int32)), .unset, .unset] [(.int (0 : Int32)), (.int (4 : Int32)), (.ref b17), (.ref b17)])) _
          refine st18.trans ?_
          show Steps p.tables e below (T18.setTop (mkF m 32 #[.val (.int p1), .val (.int p2), .val (.int p3), .val (.int p4), .val (.int p5), .val (.int (1 : Int32)), .val (.int (0 : Int32)), .unset, .unset] [(.ref b17)])) _
          refine XS.astore X18.here hx rfl (hb hby at_32) rfl rfl (l' := #[.val (.int p1), .val (.int p2), .val (.int p3), .val (.int p4), .val (.int p5), .val (.int (1 : Int32)), .val (.int (0 : Int32)), .val (.ref b17), .unset]) rfl ?_
          show Steps p.tables e below (T18.setTop (mkF m 34 #[.val (.int p1), .val (.int p2), .val (.int p3), .val (.int p4), .val (.int p5), .val (.int (1 : Int32)), .val (.int (0 : Int32)), .val (.ref b17), .unset] [])) _
          refine XS.iload X18.here hx rfl (hb hby at_34) rfl ?_
          show Steps p.tables e below (T18.setTop (mkF m 36 #[.val (.int p1), .val (.int p2), .val (.int p3), .val (.int p4), .val (.int p5), .val (.int (1 : Int32)), .val (.int (0 : Int32)), .val (.ref b17), .unset] [(.int (1 : Int32))])) _
          refine XS.iconst X18.here hx rfl (hb hby at_36) ?_
          show Steps p.tables e below (T18.setTop (mkF m 37 #[.val (.int p1), .val (.int p2), .val (.int p3), .val (.int p4), .val (.int p5), .val (.int (1 : Int32)), .val (.int (0 : Int32)), .val (.ref b17), .unset] [(.int (1 : Int32)), (.int (1 : Int32))])) _
          refine XS.icmpNo X18.here hx rfl (hb hby at_37) rfl (flt ((by decide) : ¬ ((1 : Int32) < (1 : Int32)))).1 ?_
          show Steps p.tables e below (T18.setTop (mkF m 40 #[.val (.int p1), .val (.int p2), .val (.int p3), .val (.int p4), .val (.int p5), .val (.int (1 : Int32)), .val (.int (0 : Int32)), .val (.ref b17), .unset] [])) _
          refine XS.aload X18.here hx rfl (hb hby at_40) rfl rfl ?_
          show Steps p.tables e below (T18.setTop (mkF m 42 #[.val (.int p1), .val (.int p2), .val (.int p3), .val (.int p4), .val (.int p5), .val (.int (1 : Int32)), .val (.int (0 : Int32)), .val (.ref b17), .unset] [(.ref b17)])) _
          refine XS.iloadN X18.here hx rfl (hb hby at_42) rfl ?_
          show Steps p.tables e below (T18.setTop (mkF m 43 #[.val (.int p1), .val (.int p2), .val (.int p3), .val (.int p4), .val (.int p5), .val (.int (1 : Int32)), .val (.int (0 : Int32)), .val (.ref b17), .unset] [(.int p2), (.ref b17)])) _
          refine st22.trans ?_
          show Steps p.tables e below (T22.setTop (mkF m 46 #[.val (.int p1), .val (.int p2), .val (.int p3), .val (.int p4), .val (.int p5), .val (.int (1 : Int32)), .val (.int (0 : Int32)), .val (.ref b17), .unset] [])) _
          refine XS.iload X22.here hx rfl (hb hby at_46) rfl ?_
          show Steps p.tables e below (T22.setTop (mkF m 48 #[.val (.int p1), .val (.int p2), .val (.int p3), .val (.int p4), .val (.int p5), .val (.int (1 : Int32)), .val (.int (0 : Int32)), .val (.ref b17), .unset] [(.int (1 : Int32))])) _
          refine XS.iconst X22.here hx rfl (hb hby at_48) ?_
          show Steps p.tables e below (T22.setTop (mkF m 49 #[.val (.int p1), .val (.int p2), .val (.int p3), .val (.int p4), .val (.int p5), .val (.int (1 : Int32)), .val (.int (0 : Int32)), .val (.ref b17), .unset] [(.int (2 : Int32)), (.int (1 : Int32))])) _
          refine XS.icmpYes X22.here hx rfl (pc0 := 49) (pc' := 58) rfl (hb hby at_49) rfl (tlt ((by decide) : (1 : Int32) < (2 : Int32))).1 (by decide) (by decide) ?_
          show Steps p.tables e below (T22.setTop (mkF m 58 #[.val (.int p1), .val (.int p2), .val (.int p3), .val (.int p4), .val (.int p5), .val (.int (1 : Int32)), .val (.int (0 : Int32)), .val (.ref b17), .unset] [])) _
          refine XS.iload X22.here hx rfl (hb hby at_58) rfl ?_
          show Steps p.tables e below (T22.setTop (mkF m 60 #[.val (.int p1), .val (.int p2), .val (.int p3), .val (.int p4), .val (.int p5), .val (.int (1 : Int32)), .val (.int (0 : Int32)), .val (.ref b17), .unset] [(.int (1 : Int32))])) _
          refine XS.iconst X22.here hx rfl (hb hby at_60) ?_
          show Steps p.tables e below (T22.setTop (mkF m 61 #[.val (.int p1), .val (.int p2), .val (.int p3), .val (.int p4), .val (.int p5), .val (.int (1 : Int32)), .val (.int (0 : Int32)), .val (.ref b17), .unset] [(.int (3 : Int32)), (.int (1 : Int32))])) _
          refine XS.icmpYes X22.here hx rfl (pc0 := 61) (pc' := 70) rfl (hb hby at_61) rfl (tlt ((by decide) : (1 : Int32) < (3 : Int32))).1 (by decide) (by decide) ?_
          show Steps p.tables e below (T22.setTop (mkF m 70 #[.val (.int p1), .val (.int p2), .val (.int p3), .val (.int p4), .val (.int p5), .val (.int (1 : Int32)), .val (.int (0 : Int32)), .val (.ref b17), .unset] [])) _
          refine XS.iload X22.here hx rfl (hb hby at_70) rfl ?_
          show Steps p.tables e below (T22.setTop (mkF m 72 #[.val (.int p1), .val (.int p2), .val (.int p3), .val (.int p4), .val (.int p5), .val (.int (1 : Int32)), .val (.int (0 : Int32)), .val (.ref b17), .unset] [(.int (1 : Int32))])) _
          refine XS.iconst X22.here hx rfl (hb hby at_72) ?_
          show Steps p.tables e below (T22.setTop (mkF m 73 #[.val (.int p1), .val (.int p2), .val (.int p3), .val (.int p4), .val (.int p5), .val (.int (1 : Int32)), .val (.int (0 : Int32)), .val (.ref b17), .unset] [(.int (4 : Int32)), (.int (1 : Int32))])) _
          refine XS.icmpYes X22.here hx rfl (pc0 := 73) (pc' := 83) rfl (hb hby at_73) rfl (tlt ((by decide) : (1 : Int32) < (4 : Int32))).1 (by decide) (by decide) ?_
          show Steps p.tables e below (T22.setTop (mkF m 83 #[.val (.int p1), .val (.int p2), .val (.int p3), .val (.int p4), .val (.int p5), .val (.int (1 : Int32)), .val (.int (0 : Int32)), .val (.ref b17), .unset] [])) _
          refine XS.iload X22.here hx rfl (hb hby at_83) rfl ?_
          show Steps p.tables e below (T22.setTop (mkF m 85 #[.val (.int p1), .val (.int p2), .val (.int p3), .val (.int p4), .val (.int p5), .val (.int (1 : Int32)), .val (.int (0 : Int32)), .val (.ref b17), .unset] [(.int (0 : Int32))])) _
          refine XS.ifNo X22.here hx rfl (hb hby at_85) rfl ((if0 _ _).trans (teq ((by decide) : (0 : Int32) = (0 : Int32))).2) ?_
          show Steps p.tables e below (T22.setTop (mkF m 88 #[.val (.int p1), .val (.int p2), .val (.int p3), .val (.int p4), .val (.int p5), .val (.int (1 : Int32)), .val (.int (0 : Int32)), .val (.ref b17), .unset] [])) _
          refine XS.iload X22.here hx rfl (hb hby at_88) rfl ?_
          show Steps p.tables e below (T22.setTop (mkF m 90 #[.val (.int p1), .val (.int p2), .val (.int p3), .val (.int p4), .val (.int p5), .val (.int (1 : Int32)), .val (.int (0 : Int32)), .val (.ref b17), .unset] [(.int (1 : Int32))])) _
          refine XS.ifYes X22.here hx rfl (pc0 := 90) (pc' := 99) rfl (hb hby at_90) rfl ((if0 _ _).trans (feq ((by decide) : ¬ ((1 : Int32) = (0 : Int32)))).2) (by decide) (by decide) ?_
          show Steps p.tables e below (T22.setTop (mkF m 99 #[.val (.int p1), .val (.int p2), .val (.int p3), .val (.int p4), .val (.int p5), .val (.int (1 : Int32)), .val (.int (0 : Int32)), .val (.ref b17), .unset] [])) _
          refine XS.iload X22.here hx rfl (hb hby at_99) rfl ?_
          show Steps p.tables e below (T22.setTop (mkF m 101 #[.val (.int p1), .val (.int p2), .val (.int p3), .val (.int p4), .val (.int p5), .val (.int (1 : Int32)), .val (.int (0 : Int32)), .val (.ref b17), .unset] [(.int (1 : Int32))])) _
          refine XS.iconst X22.here hx rfl (hb hby at_101) ?_
          show Steps p.tables e below (T22.setTop (mkF m 102 #[.val (.int p1), .val (.int p2), .val (.int p3), .val (.int p4), .val (.int p5), .val (.int (1 : Int32)), .val (.int (0 : Int32)), .val (.ref b17), .unset] [(.int (1 : Int32)), (.int (1 : Int32))])) _
          refine XS.icmpNo X22.here hx rfl (hb hby at_102) rfl (teq ((by decide) : (1 : Int32) = (1 : Int32))).2 ?_
          show Steps p.tables e below (T22.setTop (mkF m 105 #[.val (.int p1), .val (.int p2), .val (.int p3), .val (.int p4), .val (.int p5), .val (.int (1 : Int32)), .val (.int (0 : Int32)), .val (.ref b17), .unset] [])) _
          refine XS.bipush X22.here hx rfl (hb hby at_105) ?_
          show Steps p.tables e below (T22.setTop (mkF m 107 #[.val (.int p1), .val (.int p2), .val (.int p3), .val (.int p4), .val (.int p5), .val (.int (1 : Int32)), .val (.int (0 : Int32)), .val (.ref b17), .unset] [(.int (31 : Int32))])) _
          refine XS.iloadN X22.here hx rfl (hb hby at_107) rfl ?_
          show Steps p.tables e below (T22.setTop (mkF m 108 #[.val (.int p1), .val (.int p2), .val (.int p3), .val (.int p4), .val (.int p5), .val (.int (1 : Int32)), .val (.int (0 : Int32)), .val (.ref b17), .unset] [(.int p2), (.int (31 : Int32))])) _
          refine XS.iadd X22.here hx rfl (hb hby at_108) rfl ?_
          show Steps p.tables e below (T22.setTop (mkF m 109 #[.val (.int p1), .val (.int p2), .val (.int p3), .val (.int p4), .val (.int p5), .val (.int (1 : Int32)), .val (.int (0 : Int32)), .val (.ref b17), .unset] [(.int ((31 : Int32) + p2))])) _
          refine XS.istore X22.here hx rfl (hb hby at_109) rfl (l' := #[.val (.int p1), .val (.int p2), .val (.int p3), .val (.int p4), .val (.int p5), .val (.int (1 : Int32)), .val (.int (0 : Int32)), .val (.ref b17), .val (.int ((31 : Int32) + p2))]) rfl ?_
          show Steps p.tables e below (T22.setTop (mkF m 111 #[.val (.int p1), .val (.int p2), .val (.int p3), .val (.int p4), .val (.int p5), .val (.int (1 : Int32)), .val (.int (0 : Int32)), .val (.ref b17), .val (.int ((31 : Int32) + p2))] [])) _
          refine XS.goto X22.here hx rfl (pc0 := 111) (pc' := 186) rfl (hb hby at_111) (by decide) (by decide) ?_
          show Steps p.tables e below (T22.setTop (mkF m 186 #[.val (.int p1), .val (.int p2), .val (.int p3), .val (.int p4), .val (.int p5), .val (.int (1 : Int32)), .val (.int (0 : Int32)), .val (.ref b17), .val (.int ((31 : Int32) + p2))] [])) _
          refine XS.aload X22.here hx rfl (hb hby at_186) rfl rfl ?_
          show Steps p.tables e below (T22.setTop (mkF m 188 #[.val (.int p1), .val (.int p2), .val (.int p3), .val (.int p4), .val (.int p5), .val (.int (1 : Int32)), .val (.int (0 : Int32)), .val (.ref b17), .val (.int ((31 : Int32) + p2))] [(.ref b17)])) _
          refine st26.trans ?_
          show Steps p.tables e below (T26.setTop (mkF m 191 #[.val (.int p1), .val (.int p2), .val (.int p3), .val (.int p4), .val (.int p5), .val (.int (1 : Int32)), .val (.int (0 : Int32)), .val (.ref b17), .val (.int ((31 : Int32) + p2))] [(.int (own_hash (own_put (fun _ => (0 : Int32)) (0 : Int32) p2) (1 : Int32)))])) _
          refine XS.iload X26.here hx rfl (hb hby at_191) rfl ?_
          exact kt
        show own_End p e below s (T26.setTop (mkF m 193 #[.val (.int p1), .val (.int p2), .val (.int p3), .val (.int p4), .val (.int p5), .val (.int (1 : Int32)), .val (.int (0 : Int32)), .val (.ref b17), .val (.int ((31 : Int32) + p2))] [(.int ((31 : Int32) + p2)), (.int (own_hash (own_put (fun _ => (0 : Int32)) (0 : Int32) p2) (1 : Int32)))])) (Q0 Z p1 p2 p3 p4 p5 h0 n0) room_1.cells room_1.slots
        by_cases hc193_27 : (own_hash (own_put (fun _ => (0 : Int32)) (0 : Int32) p2) (1 : Int32)) = ((31 : Int32) + p2)
        · refine own_pre (A := T26.setTop (mkF m 201 #[.val (.int p1), .val (.int p2), .val (.int p3), .val (.int p4), .val (.int p5), .val (.int (1 : Int32)), .val (.int (0 : Int32)), .val (.ref b17), .val (.int ((31 : Int32) + p2))] [(.int (1 : Int32))])) (fun tt kt => ?_) ?_
          · show Steps p.tables e below (T26.setTop (mkF m 193 #[.val (.int p1), .val (.int p2), .val (.int p3), .val (.int p4), .val (.int p5), .val (.int (1 : Int32)), .val (.int (0 : Int32)), .val (.ref b17), .val (.int ((31 : Int32) + p2))] [(.int ((31 : Int32) + p2)), (.int (own_hash (own_put (fun _ => (0 : Int32)) (0 : Int32) p2) (1 : Int32)))])) _
            refine XS.icmpNo X26.here hx rfl (hb hby at_193) rfl (teq hc193_27).2 ?_
            show Steps p.tables e below (T26.setTop (mkF m 196 #[.val (.int p1), .val (.int p2), .val (.int p3), .val (.int p4), .val (.int p5), .val (.int (1 : Int32)), .val (.int (0 : Int32)), .val (.ref b17), .val (.int ((31 : Int32) + p2))] [])) _
            refine XS.iconst X26.here hx rfl (hb hby at_196) ?_
            show Steps p.tables e below (T26.setTop (mkF m 197 #[.val (.int p1), .val (.int p2), .val (.int p3), .val (.int p4), .val (.int p5), .val (.int (1 : Int32)), .val (.int (0 : Int32)), .val (.ref b17), .val (.int ((31 : Int32) + p2))] [(.int (1 : Int32))])) _
            refine XS.goto X26.here hx rfl (pc0 := 197) (pc' := 201) rfl (hb hby at_197) (by decide) (by decide) ?_
            exact kt
          show own_End p e below s (T26.setTop (mkF m 201 #[.val (.int p1), .val (.int p2), .val (.int p3), .val (.int p4), .val (.int p5), .val (.int (1 : Int32)), .val (.int (0 : Int32)), .val (.ref b17), .val (.int ((31 : Int32) + p2))] [(.int (1 : Int32))])) (Q0 Z p1 p2 p3 p4 p5 h0 n0) room_1.cells room_1.slots
          have hv : (own_law p1 p2 p3 p4 p5) = (1 : Int32) := hj.trans (by simp only [own_law_8, if_neg hs1_0, if_pos hs1_1, if_pos hc12_16, if_pos hc193_27])
          obtain ⟨fs, hr, hrun, hended, hW, hsame⟩ := X26.leave (v := some (.int (1 : Int32))) (fun h => by rw [Bd.returns] at h; cases h)
          refine ⟨_, _, ?_, hrun, hended, _, _, rfl, ?_, ⟨_, rfl⟩, hW, hsame.mono (by decide) (by decide)⟩
          · exact retN X26 hx (t := .boolean) Bd.returns (by simp) (hb hby at_201) hr
          · show Q0 Z p1 p2 p3 p4 p5 h0 n0 _ T26.heap _
            rw [e26]
            exact ⟨(congrArg (fun z => some (Value.int z)) hv.symm), N26⟩
        · refine own_pre (A := T26.setTop (mkF m 201 #[.val (.int p1), .val (.int p2), .val (.int p3), .val (.int p4), .val (.int p5), .val (.int (1 : Int32)), .val (.int (0 : Int32)), .val (.ref b17), .val (.int ((31 : Int32) + p2))] [(.int (0 : Int32))])) (fun tt kt => ?_) ?_
          · show Steps p.tables e below (T26.setTop (mkF m 193 #[.val (.int p1), .val (.int p2), .val (.int p3), .val (.int p4), .val (.int p5), .val (.int (1 : Int32)), .val (.int (0 : Int32)), .val (.ref b17), .val (.int ((31 : Int32) + p2))] [(.int ((31 : Int32) + p2)), (.int (own_hash (own_put (fun _ => (0 : Int32)) (0 : Int32) p2) (1 : Int32)))])) _
            refine XS.icmpYes X26.here hx rfl (pc0 := 193) (pc' := 200) rfl (hb hby at_193) rfl (feq hc193_27).2 (by decide) (by decide) ?_
            show Steps p.tables e below (T26.setTop (mkF m 200 #[.val (.int p1), .val (.int p2), .val (.int p3), .val (.int p4), .val (.int p5), .val (.int (1 : Int32)), .val (.int (0 : Int32)), .val (.ref b17), .val (.int ((31 : Int32) + p2))] [])) _
            refine XS.iconst X26.here hx rfl (hb hby at_200) ?_
            exact kt
          show own_End p e below s (T26.setTop (mkF m 201 #[.val (.int p1), .val (.int p2), .val (.int p3), .val (.int p4), .val (.int p5), .val (.int (1 : Int32)), .val (.int (0 : Int32)), .val (.ref b17), .val (.int ((31 : Int32) + p2))] [(.int (0 : Int32))])) (Q0 Z p1 p2 p3 p4 p5 h0 n0) room_1.cells room_1.slots
          have hv : (own_law p1 p2 p3 p4 p5) = (0 : Int32) := hj.trans (by simp only [own_law_8, if_neg hs1_0, if_pos hs1_1, if_pos hc12_16, if_neg hc193_27])
          obtain ⟨fs, hr, hrun, hended, hW, hsame⟩ := X26.leave (v := some (.int (0 : Int32))) (fun h => by rw [Bd.returns] at h; cases h)
          refine ⟨_, _, ?_, hrun, hended, _, _, rfl, ?_, ⟨_, rfl⟩, hW, hsame.mono (by decide) (by decide)⟩
          · exact retN X26 hx (t := .boolean) Bd.returns (by simp) (hb hby at_201) hr
          · show Q0 Z p1 p2 p3 p4 p5 h0 n0 _ T26.heap _
            rw [e26]
            exact ⟨(congrArg (fun z => some (Value.int z)) hv.symm), N26⟩
      · obtain ⟨T28, h28, X28, e28, E28, A28, D28, -, st28⟩ := newO Xj8 hx hZ hown (hw _ (List.mem_of_getElem? (i := 0) rfl)) (hw _ (List.mem_of_getElem? (i := 1) rfl)) (hw _ (List.mem_of_getElem? (i := 2) rfl)) ej8 (g := (mkF m 22 #[.val (.int p1), .val (.int p2), .val (.int p3), .val (.int p4), .val (.int p5), .val (.int (1 : Int32)), .val (.int (1 : Int32)), .unset, .unset] [])) rfl (hb hby at_22) (by decide) (by decide)
        obtain ⟨b28, g28⟩ : ∃ z, z = h0.size := ⟨_, rfl⟩
        rw [← g28] at A28 D28 st28
        have g_b28 : n0 ≤ b28 := Nat.le_trans Z0 (Nat.le_of_eq g28.symm)
        have sz_b28 : h0.size ≤ b28 := Nat.le_trans (show Keep h0 h0 [] from (Keep.refl h0 _)).1 (Nat.le_of_eq g28.symm)
        have K28 : Keep h0 h28 [] := Keep.ext (Keep.refl h0 _) E28
        have Z28 : n0 ≤ h28.size := Nat.le_trans Z0 E28.1
        have F_stamp_b28 : Fld Z h28 b28 "com/example/libfacet/libfacet/regex/StateSet" "stamp" "I" (.int (0 : Int32)) := D28 (Or.inl (hw _ (List.mem_of_getElem? (i := 10) rfl))) (ty := .int) (by decide)
        have F_stack_b28 : Fld Z h28 b28 "com/example/libfacet/libfacet/regex/StateSet" "stack" "[I" .null := D28 (Or.inl (hw _ (List.mem_of_getElem? (i := 13) rfl))) (ty := (.array .int)) (by decide)
        have F_instructions_b28 : Fld Z h28 b28 "com/example/libfacet/libfacet/regex/StateSet" "instructions" "I" (.int (0 : Int32)) := D28 (Or.inr (hw _ (List.mem_of_getElem? (i := 15) rfl))) (ty := .int) (by decide)
        have F_members_b28 : Fld Z h28 b28 "com/example/libfacet/libfacet/regex/StateSet" "members" "[I" .null := D28 (Or.inl (hw _ (List.mem_of_getElem? (i := 17) rfl))) (ty := (.array .int)) (by decide)
        have F_marks_b28 : Fld Z h28 b28 "com/example/libfacet/libfacet/regex/StateSet" "marks" "[C" .null := D28 (Or.inr (hw _ (List.mem_of_getElem? (i := 20) rfl))) (ty := (.array .char)) (by decide)
        have F_markBits_b28 : Fld Z h28 b28 "com/example/libfacet/libfacet/regex/StateSet" "markBits" "[J" .null := D28 (Or.inr (hw _ (List.mem_of_getElem? (i := 22) rfl))) (ty := (.array .long)) (by decide)
        have F_marked_b28 : Fld Z h28 b28 "com/example/libfacet/libfacet/regex/StateSet" "marked" "[I" .null := D28 (Or.inl (hw _ (List.mem_of_getElem? (i := 24) rfl))) (ty := (.array .int)) (by decide)
        have F_size_b28 : Fld Z h28 b28 "com/example/libfacet/libfacet/regex/StateSet" "size" "I" (.int (0 : Int32)) := D28 (Or.inl (hw _ (List.mem_of_getElem? (i := 31) rfl))) (ty := .int) (by decide)
        obtain ⟨_, _, ⟨T29, L29, k29, n29⟩, -, X29, ⟨Lc29, hQ29, l29, y29, z29⟩, st29⟩ := X28.specialBack hx (y := (⟨"com/example/libfacet/libfacet/regex/StateSet", "<init>", "(IZ)V"⟩ : MethodName)) rfl hown (mvT hZ (hw _ (List.mem_of_getElem? (i := 3) rfl))) (mvT hZ (hw _ (List.mem_of_getElem? (i := 4) rfl))) (mvT hZ (hw _ (List.mem_of_getElem? (i := 5) rfl))) (by decide) (backOf (W := 1) (rm1L l Z a0 hw [] b28 (0 : Int32) (0 : Int32) (0 : Int32) h28 n0 Z28 ⟨A28, F_stamp_b28, F_stack_b28, F_instructions_b28, F_members_b28, F_marks_b28, F_markBits_b28, F_marked_b28, F_size_b28⟩ g_b28) hZ (hw _ (List.mem_of_getElem? (i := 5) rfl)) (hw _ (List.mem_of_getElem? (i := 2) rfl)) (by decide) (by decide)) (g := (mkF m 29 #[.val (.int p1), .val (.int p2), .val (.int p3), .val (.int p4), .val (.int p5), .val (.int (1 : Int32)), .val (.int (1 : Int32)), .unset, .unset] [(.int (1 : Int32)), (.int (4 : Int32)), (.ref b28), (.ref b28)])) rfl (by rw [hml]; rfl) (Steps.refl _) (a := b28) (argsL := [(.int (4 : Int32)), (.int (1 : Int32))]) (rest := [(.ref b28)]) (lenOf pd_0_0 rfl) rfl (by show 2 * 0 + _ ≤ _; exact Nat.le_of_eq rfl) (hb hby at_29) (fun _ _ => ⟨rfl, e28, (by decide : 1 + 3 ≤ _), (by decide : 10 + 33 ≤ _)⟩)
        dsimp only [Pt.U, Pt.locs, Pt.cells, Pt.slots] at X29 l29 y29 z29 st29 hQ29
        subst l29 y29 z29
        obtain ⟨rfl, N29q, Kq29, O29_0⟩ := hQ29
        have N29 := Fr.app Nj8 N29q
        have fE_b28_x29 := (A28.keep Kq29)
        have K29 : Keep h0 T29.heap [] := Keep.trans K28 Kq29 (allS (Or.inr sz_b28) all0)
        have Z29 : n0 ≤ T29.heap.size := Nat.le_trans Z28 Kq29.1
        obtain ⟨E_b28_30, F_members_b28_31, F_size_b28_32⟩ := O29_0
        obtain ⟨cq33, kq33, q33a, q33b, q33c⟩ := isOf hZ rfl E_b28_30
        obtain ⟨_, _, ⟨T33, L33, k33, n33⟩, -, X33, ⟨Lc33, hQ33, l33, y33, z33⟩, st33⟩ := X29.virtualBack hx (y := (⟨"com/example/libfacet/libfacet/regex/StateSet", "add", "(I)V"⟩ : MethodName)) (z := (⟨"com/example/libfacet/libfacet/regex/StateSet", "add", "(I)V"⟩ : MethodName)) hown (mvT hZ (hw _ (List.mem_of_getElem? (i := 32) rfl))) (mvT hZ (hw _ (List.mem_of_getElem? (i := 33) rfl))) (notFace_of_selects (args := #[]) (mvT hZ (hw _ (List.mem_of_getElem? (i := 35) rfl)))) (mvT hZ (hw _ (List.mem_of_getElem? (i := 35) rfl))) (mvT hZ (hw _ (List.mem_of_getElem? (i := 34) rfl))) (by decide) (backOf (W := 0) (rm4L l Z a0 hw [] b28 p2 (0 : Int32) T29.heap n0 Z29 ⟨E_b28_30, F_members_b28_31, F_size_b28_32⟩) hZ (hw _ (List.mem_of_getElem? (i := 36) rfl)) (hw _ (List.mem_of_getElem? (i := 2) rfl)) (by decide) (by decide)) q33a q33c (g := (mkF m 43 #[.val (.int p1), .val (.int p2), .val (.int p3), .val (.int p4), .val (.int p5), .val (.int (1 : Int32)), .val (.int (1 : Int32)), .val (.ref b28), .unset] [(.int p2), (.ref b28)])) rfl (by rw [hml]; rfl) (Steps.refl _) (argsL := [(.int p2)]) (rest := []) (lenOf pd_0_2 rfl) rfl (by show 2 * 0 + _ ≤ _; exact Nat.le_of_eq rfl) (hb hby at_43) (fun _ _ => ⟨rfl, rfl, (by decide : 4 + 0 ≤ _), (by decide : 43 + 0 ≤ _)⟩)
        dsimp only [Pt.U, Pt.locs, Pt.cells, Pt.slots] at X33 l33 y33 z33 st33 hQ33
        subst l33 y33 z33
        obtain ⟨rfl, N33q, e33⟩ := hQ33
        have N33 := Fr.app N29 N33q
        obtain ⟨cq34, kq34, q34a, q34b, q34c⟩ := isOf hZ e33 E_b28_30
        obtain ⟨_, _, ⟨T34, L34, k34, n34⟩, -, X34, ⟨Lc34, hQ34, l34, y34, z34⟩, st34⟩ := X33.virtualBack hx (y := (⟨"com/example/libfacet/libfacet/regex/StateSet", "membersHash", "()I"⟩ : MethodName)) (z := (⟨"com/example/libfacet/libfacet/regex/StateSet", "membersHash", "()I"⟩ : MethodName)) hown (mvT hZ (hw _ (List.mem_of_getElem? (i := 25) rfl))) (mvT hZ (hw _ (List.mem_of_getElem? (i := 26) rfl))) (notFace_of_selects (args := #[]) (mvT hZ (hw _ (List.mem_of_getElem? (i := 28) rfl)))) (mvT hZ (hw _ (List.mem_of_getElem? (i := 28) rfl))) (mvT hZ (hw _ (List.mem_of_getElem? (i := 27) rfl))) (by decide) (backOf (W := 0) (rm3L l Z a0 hw [] b28  T29.heap n0 Z29 ⟨E_b28_30, F_members_b28_31, F_size_b28_32⟩) hZ (hw _ (List.mem_of_getElem? (i := 29) rfl)) (hw _ (List.mem_of_getElem? (i := 2) rfl)) (by decide) (by decide)) q34a q34c (g := (mkF m 188 #[.val (.int p1), .val (.int p2), .val (.int p3), .val (.int p4), .val (.int p5), .val (.int (1 : Int32)), .val (.int (1 : Int32)), .val (.ref b28), .val (.int (1 : Int32))] [(.ref b28)])) rfl (by rw [hml]; rfl) (Steps.refl _) (argsL := []) (rest := []) (lenOf pd_0_1 rfl) rfl (by show 2 * 0 + _ ≤ _; exact Nat.le_of_eq rfl) (hb hby at_188) (fun _ _ => ⟨rfl, e33, (by decide : 4 + 0 ≤ _), (by decide : 43 + 0 ≤ _)⟩)
        dsimp only [Pt.U, Pt.locs, Pt.cells, Pt.slots] at X34 l34 y34 z34 st34 hQ34
        subst l34 y34 z34
        obtain ⟨rfl, N34q, e34⟩ := hQ34
        have N34 := Fr.app N33 N34q
        refine own_pre (A := T34.setTop (mkF m 201 #[.val (.int p1), .val (.int p2), .val (.int p3), .val (.int p4), .val (.int p5), .val (.int (1 : Int32)), .val (.int (1 : Int32)), .val (.ref b28), .val (.int (1 : Int32))] [(.int (1 : Int32))])) (fun tt kt => ?_) ?_
        · show Steps p.tables e below (Tj8.setTop (mkF m 12 #[.val (.int p1), .val (.int p2), .val (.int p3), .val (.int p4), .val (.int p5), .val (.int (1 : Int32)), .unset, .unset, .unset] [(.int (p1 &&& (8 : Int32)))])) _
          refine XS.ifNo Xj8.here hx rfl (hb hby at_12) rfl ((if0 _ _).trans (feq hc12_16).1) ?_
          show Steps p.tables e below (Tj8.setTop (mkF m 15 #[.val (.int p1), .val (.int p2), .val (.int p3), .val (.int p4), .val (.int p5), .val (.int (1 : Int32)), .unset, .unset, .unset] [])) _
          refine XS.iconst Xj8.here hx rfl (hb hby at_15) ?_
          show Steps p.tables e below (Tj8.setTop (mkF m 16 #[.val (.int p1), .val (.int p2), .val (.int p3), .val (.int p4), .val (.int p5), .val (.int (1 : Int32)), .unset, .unset, .unset] [(.int (1 : Int32))])) _
          refine XS.goto Xj8.here hx rfl (pc0 := 16) (pc' := 20) rfl (hb hby at_16) (by decide) (by decide) ?_
          show Steps p.tables e below (Tj8.setTop (mkF m 20 #[.val (.int p1), .val (.int p2), .val (.int p3), .val (.int p4), .val (.int p5), .val (.int (1 : Int32)), .unset, .unset, .unset] [(.int (1 : Int32))])) _
          refine XS.istore Xj8.here hx rfl (hb hby at_20) rfl (l' := #[.val (.int p1), .val (.int p2), .val (.int p3), .val (.int p4), .val (.int p5), .val (.int (1 : Int32)), .val (.int (1 : Int32)), .unset, .unset]) rfl ?_
          show Steps p.tables e below (Tj8.setTop (mkF m 22 #[.val (.int p1), .val (.int p2), .val (.int p3), .val (.int p4), .val (.int p5), .val (.int (1 : Int32)), .val (.int (1 : Int32)), .unset, .unset] [])) _
          refine st28 _ ?_
          show Steps p.tables e below (T28.setTop (mkF m 25 #[.val (.int p1), .val (.int p2), .val (.int p3), .val (.int p4), .val (.int p5), .val (.int (1 : Int32)), .val (.int (1 : Int32)), .unset, .unset] [(.ref b28)])) _
          refine XS.dup X28.here hx rfl (hb hby at_25) rfl rfl ?_
          show Steps p.tables e below (T28.setTop (mkF m 26 #[.val (.int p1), .val (.int p2), .val (.int p3), .val (.int p4), .val (.int p5), .val (.int (1 : Int32)), .val (.int (1 : Int32)), .unset, .unset] [(.ref b28), (.ref b28)])) _
          refine XS.iconst X28.here hx rfl (hb hby at_26) ?_
          show Steps p.tables e below (T28.setTop (mkF m 27 #[.val (.int p1), .val (.int p2), .val (.int p3), .val (.int p4), .val (.int p5), .val (.int (1 : Int32)), .val (.int (1 : Int32)), .unset, .unset] [(.int (4 : Int32)), (.ref b28), (.ref b28)])) _
          refine XS.iload X28.here hx rfl (hb hby at_27) rfl ?_
          show Steps p.tables e below (T28.setTop (mkF m 29 #[.val (.int p1), .val (.int p2), .val (.int p3), .val (.int p4), .val (.int p5), .val (.int (1 : Int32)), .val (.int (1 : Int32)), .unset, .unset] [(.int (1 : Int32)), (.int (4 : Int32)), (.ref b28), (.ref b28)])) _
          refine st29.trans ?_
          show Steps p.tables e below (T29.setTop (mkF m 32 #[.val (.int p1), .val (.int p2), .val (.int p3), .val (.int p4), .val (.int p5), .val (.int (1 : Int32)), .val (.int (1 : Int32)), .unset, .unset] [(.ref b28)])) _
          refine XS.astore X29.here hx rfl (hb hby at_32) rfl rfl (l' := #[.val (.int p1), .val (.int p2), .val (.int p3), .val (.int p4), .val (.int p5), .val (.int (1 : Int32)), .val (.int (1 : Int32)), .val (.ref b28), .unset]) rfl ?_
          show Steps p.tables e below (T29.setTop (mkF m 34 #[.val (.int p1), .val (.int p2), .val (.int p3), .val (.int p4), .val (.int p5), .val (.int (1 : Int32)), .val (.int (1 : Int32)), .val (.ref b28), .unset] [])) _
          refine XS.iload X29.here hx rfl (hb hby at_34) rfl ?_
          show Steps p.tables e below (T29.setTop (mkF m 36 #[.val (.int p1), .val (.int p2), .val (.int p3), .val (.int p4), .val (.int p5), .val (.int (1 : Int32)), .val (.int (1 : Int32)), .val (.ref b28), .unset] [(.int (1 : Int32))])) _
          refine XS.iconst X29.here hx rfl (hb hby at_36) ?_
          show Steps p.tables e below (T29.setTop (mkF m 37 #[.val (.int p1), .val (.int p2), .val (.int p3), .val (.int p4), .val (.int p5), .val (.int (1 : Int32)), .val (.int (1 : Int32)), .val (.ref b28), .unset] [(.int (1 : Int32)), (.int (1 : Int32))])) _
          refine XS.icmpNo X29.here hx rfl (hb hby at_37) rfl (flt ((by decide) : ¬ ((1 : Int32) < (1 : Int32)))).1 ?_
          show Steps p.tables e below (T29.setTop (mkF m 40 #[.val (.int p1), .val (.int p2), .val (.int p3), .val (.int p4), .val (.int p5), .val (.int (1 : Int32)), .val (.int (1 : Int32)), .val (.ref b28), .unset] [])) _
          refine XS.aload X29.here hx rfl (hb hby at_40) rfl rfl ?_
          show Steps p.tables e below (T29.setTop (mkF m 42 #[.val (.int p1), .val (.int p2), .val (.int p3), .val (.int p4), .val (.int p5), .val (.int (1 : Int32)), .val (.int (1 : Int32)), .val (.ref b28), .unset] [(.ref b28)])) _
          refine XS.iloadN X29.here hx rfl (hb hby at_42) rfl ?_
          show Steps p.tables e below (T29.setTop (mkF m 43 #[.val (.int p1), .val (.int p2), .val (.int p3), .val (.int p4), .val (.int p5), .val (.int (1 : Int32)), .val (.int (1 : Int32)), .val (.ref b28), .unset] [(.int p2), (.ref b28)])) _
          refine st33.trans ?_
          show Steps p.tables e below (T33.setTop (mkF m 46 #[.val (.int p1), .val (.int p2), .val (.int p3), .val (.int p4), .val (.int p5), .val (.int (1 : Int32)), .val (.int (1 : Int32)), .val (.ref b28), .unset] [])) _
          refine XS.iload X33.here hx rfl (hb hby at_46) rfl ?_
          show Steps p.tables e below (T33.setTop (mkF m 48 #[.val (.int p1), .val (.int p2), .val (.int p3), .val (.int p4), .val (.int p5), .val (.int (1 : Int32)), .val (.int (1 : Int32)), .val (.ref b28), .unset] [(.int (1 : Int32))])) _
          refine XS.iconst X33.here hx rfl (hb hby at_48) ?_
          show Steps p.tables e below (T33.setTop (mkF m 49 #[.val (.int p1), .val (.int p2), .val (.int p3), .val (.int p4), .val (.int p5), .val (.int (1 : Int32)), .val (.int (1 : Int32)), .val (.ref b28), .unset] [(.int (2 : Int32)), (.int (1 : Int32))])) _
          refine XS.icmpYes X33.here hx rfl (pc0 := 49) (pc' := 58) rfl (hb hby at_49) rfl (tlt ((by decide) : (1 : Int32) < (2 : Int32))).1 (by decide) (by decide) ?_
          show Steps p.tables e below (T33.setTop (mkF m 58 #[.val (.int p1), .val (.int p2), .val (.int p3), .val (.int p4), .val (.int p5), .val (.int (1 : Int32)), .val (.int (1 : Int32)), .val (.ref b28), .unset] [])) _
          refine XS.iload X33.here hx rfl (hb hby at_58) rfl ?_
          show Steps p.tables e below (T33.setTop (mkF m 60 #[.val (.int p1), .val (.int p2), .val (.int p3), .val (.int p4), .val (.int p5), .val (.int (1 : Int32)), .val (.int (1 : Int32)), .val (.ref b28), .unset] [(.int (1 : Int32))])) _
          refine XS.iconst X33.here hx rfl (hb hby at_60) ?_
          show Steps p.tables e below (T33.setTop (mkF m 61 #[.val (.int p1), .val (.int p2), .val (.int p3), .val (.int p4), .val (.int p5), .val (.int (1 : Int32)), .val (.int (1 : Int32)), .val (.ref b28), .unset] [(.int (3 : Int32)), (.int (1 : Int32))])) _
          refine XS.icmpYes X33.here hx rfl (pc0 := 61) (pc' := 70) rfl (hb hby at_61) rfl (tlt ((by decide) : (1 : Int32) < (3 : Int32))).1 (by decide) (by decide) ?_
          show Steps p.tables e below (T33.setTop (mkF m 70 #[.val (.int p1), .val (.int p2), .val (.int p3), .val (.int p4), .val (.int p5), .val (.int (1 : Int32)), .val (.int (1 : Int32)), .val (.ref b28), .unset] [])) _
          refine XS.iload X33.here hx rfl (hb hby at_70) rfl ?_
          show Steps p.tables e below (T33.setTop (mkF m 72 #[.val (.int p1), .val (.int p2), .val (.int p3), .val (.int p4), .val (.int p5), .val (.int (1 : Int32)), .val (.int (1 : Int32)), .val (.ref b28), .unset] [(.int (1 : Int32))])) _
          refine XS.iconst X33.here hx rfl (hb hby at_72) ?_
          show Steps p.tables e below (T33.setTop (mkF m 73 #[.val (.int p1), .val (.int p2), .val (.int p3), .val (.int p4), .val (.int p5), .val (.int (1 : Int32)), .val (.int (1 : Int32)), .val (.ref b28), .unset] [(.int (4 : Int32)), (.int (1 : Int32))])) _
          refine XS.icmpYes X33.here hx rfl (pc0 := 73) (pc' := 83) rfl (hb hby at_73) rfl (tlt ((by decide) : (1 : Int32) < (4 : Int32))).1 (by decide) (by decide) ?_
          show Steps p.tables e below (T33.setTop (mkF m 83 #[.val (.int p1), .val (.int p2), .val (.int p3), .val (.int p4), .val (.int p5), .val (.int (1 : Int32)), .val (.int (1 : Int32)), .val (.ref b28), .unset] [])) _
          refine XS.iload X33.here hx rfl (hb hby at_83) rfl ?_
          show Steps p.tables e below (T33.setTop (mkF m 85 #[.val (.int p1), .val (.int p2), .val (.int p3), .val (.int p4), .val (.int p5), .val (.int (1 : Int32)), .val (.int (1 : Int32)), .val (.ref b28), .unset] [(.int (1 : Int32))])) _
          refine XS.ifYes X33.here hx rfl (pc0 := 85) (pc' := 93) rfl (hb hby at_85) rfl ((if0 _ _).trans (feq ((by decide) : ¬ ((1 : Int32) = (0 : Int32)))).2) (by decide) (by decide) ?_
          show Steps p.tables e below (T33.setTop (mkF m 93 #[.val (.int p1), .val (.int p2), .val (.int p3), .val (.int p4), .val (.int p5), .val (.int (1 : Int32)), .val (.int (1 : Int32)), .val (.ref b28), .unset] [])) _
          refine XS.iconst X33.here hx rfl (hb hby at_93) ?_
          show Steps p.tables e below (T33.setTop (mkF m 94 #[.val (.int p1), .val (.int p2), .val (.int p3), .val (.int p4), .val (.int p5), .val (.int (1 : Int32)), .val (.int (1 : Int32)), .val (.ref b28), .unset] [(.int (1 : Int32))])) _
          refine XS.istore X33.here hx rfl (hb hby at_94) rfl (l' := #[.val (.int p1), .val (.int p2), .val (.int p3), .val (.int p4), .val (.int p5), .val (.int (1 : Int32)), .val (.int (1 : Int32)), .val (.ref b28), .val (.int (1 : Int32))]) rfl ?_
          show Steps p.tables e below (T33.setTop (mkF m 96 #[.val (.int p1), .val (.int p2), .val (.int p3), .val (.int p4), .val (.int p5), .val (.int (1 : Int32)), .val (.int (1 : Int32)), .val (.ref b28), .val (.int (1 : Int32))] [])) _
          refine XS.goto X33.here hx rfl (pc0 := 96) (pc' := 186) rfl (hb hby at_96) (by decide) (by decide) ?_
          show Steps p.tables e below (T33.setTop (mkF m 186 #[.val (.int p1), .val (.int p2), .val (.int p3), .val (.int p4), .val (.int p5), .val (.int (1 : Int32)), .val (.int (1 : Int32)), .val (.ref b28), .val (.int (1 : Int32))] [])) _
          refine XS.aload X33.here hx rfl (hb hby at_186) rfl rfl ?_
          show Steps p.tables e below (T33.setTop (mkF m 188 #[.val (.int p1), .val (.int p2), .val (.int p3), .val (.int p4), .val (.int p5), .val (.int (1 : Int32)), .val (.int (1 : Int32)), .val (.ref b28), .val (.int (1 : Int32))] [(.ref b28)])) _
          refine st34.trans ?_
          show Steps p.tables e below (T34.setTop (mkF m 191 #[.val (.int p1), .val (.int p2), .val (.int p3), .val (.int p4), .val (.int p5), .val (.int (1 : Int32)), .val (.int (1 : Int32)), .val (.ref b28), .val (.int (1 : Int32))] [(.int (1 : Int32))])) _
          refine XS.iload X34.here hx rfl (hb hby at_191) rfl ?_
          show Steps p.tables e below (T34.setTop (mkF m 193 #[.val (.int p1), .val (.int p2), .val (.int p3), .val (.int p4), .val (.int p5), .val (.int (1 : Int32)), .val (.int (1 : Int32)), .val (.ref b28), .val (.int (1 : Int32))] [(.int (1 : Int32)), (.int (1 : Int32))])) _
          refine XS.icmpNo X34.here hx rfl (hb hby at_193) rfl (teq ((by decide) : (1 : Int32) = (1 : Int32))).2 ?_
          show Steps p.tables e below (T34.setTop (mkF m 196 #[.val (.int p1), .val (.int p2), .val (.int p3), .val (.int p4), .val (.int p5), .val (.int (1 : Int32)), .val (.int (1 : Int32)), .val (.ref b28), .val (.int (1 : Int32))] [])) _
          refine XS.iconst X34.here hx rfl (hb hby at_196) ?_
          show Steps p.tables e below (T34.setTop (mkF m 197 #[.val (.int p1), .val (.int p2), .val (.int p3), .val (.int p4), .val (.int p5), .val (.int (1 : Int32)), .val (.int (1 : Int32)), .val (.ref b28), .val (.int (1 : Int32))] [(.int (1 : Int32))])) _
          refine XS.goto X34.here hx rfl (pc0 := 197) (pc' := 201) rfl (hb hby at_197) (by decide) (by decide) ?_
          exact kt
        show own_End p e below s (T34.setTop (mkF m 201 #[.val (.int p1), .val (.int p2), .val (.int p3), .val (.int p4), .val (.int p5), .val (.int (1 : Int32)), .val (.int (1 : Int32)), .val (.ref b28), .val (.int (1 : Int32))] [(.int (1 : Int32))])) (Q0 Z p1 p2 p3 p4 p5 h0 n0) room_1.cells room_1.slots
        have hv : (own_law p1 p2 p3 p4 p5) = (1 : Int32) := hj.trans (by simp only [own_law_8, if_neg hs1_0, if_pos hs1_1, if_neg hc12_16])
        obtain ⟨fs, hr, hrun, hended, hW, hsame⟩ := X34.leave (v := some (.int (1 : Int32))) (fun h => by rw [Bd.returns] at h; cases h)
        refine ⟨_, _, ?_, hrun, hended, _, _, rfl, ?_, ⟨_, rfl⟩, hW, hsame.mono (by decide) (by decide)⟩
        · exact retN X34 hx (t := .boolean) Bd.returns (by simp) (hb hby at_201) hr
        · show Q0 Z p1 p2 p3 p4 p5 h0 n0 _ T34.heap _
          rw [e34]
          exact ⟨(congrArg (fun z => some (Value.int z)) hv.symm), N34⟩
    by_cases hs1_2 : n = (2 : Int32)
    · rw [hs1_2]
      refine own_pre (A := Tj8.setTop (mkF m 12 #[.val (.int p1), .val (.int p2), .val (.int p3), .val (.int p4), .val (.int p5), .val (.int (2 : Int32)), .unset, .unset, .unset] [(.int (p1 &&& (8 : Int32)))])) (fun tt kt => ?_) ?_
      · show Steps p.tables e below (Tj8.setTop (mkF m 9 #[.val (.int p1), .val (.int p2), .val (.int p3), .val (.int p4), .val (.int p5), .val (.int (2 : Int32)), .unset, .unset, .unset] [(.int p1)])) _
        refine XS.bipush Xj8.here hx rfl (hb hby at_9) ?_
        show Steps p.tables e below (Tj8.setTop (mkF m 11 #[.val (.int p1), .val (.int p2), .val (.int p3), .val (.int p4), .val (.int p5), .val (.int (2 : Int32)), .unset, .unset, .unset] [(.int (8 : Int32)), (.int p1)])) _
        refine XS.iand Xj8.here hx rfl (hb hby at_11) rfl ?_
        exact kt
      show own_End p e below s (Tj8.setTop (mkF m 12 #[.val (.int p1), .val (.int p2), .val (.int p3), .val (.int p4), .val (.int p5), .val (.int (2 : Int32)), .unset, .unset, .unset] [(.int (p1 &&& (8 : Int32)))])) (Q0 Z p1 p2 p3 p4 p5 h0 n0) room_1.cells room_1.slots
      by_cases hc12_35 : (p1 &&& (8 : Int32)) = (0 : Int32)
      · obtain ⟨T36, h36, X36, e36, E36, A36, D36, -, st36⟩ := newO Xj8 hx hZ hown (hw _ (List.mem_of_getElem? (i := 0) rfl)) (hw _ (List.mem_of_getElem? (i := 1) rfl)) (hw _ (List.mem_of_getElem? (i := 2) rfl)) ej8 (g := (mkF m 22 #[.val (.int p1), .val (.int p2), .val (.int p3), .val (.int p4), .val (.int p5), .val (.int (2 : Int32)), .val (.int (0 : Int32)), .unset, .unset] [])) rfl (hb hby at_22) (by decide) (by decide)
        obtain ⟨b36, g36⟩ : ∃ z, z = h0.size := ⟨_, rfl⟩
        rw [← g36] at A36 D36 st36
        have g_b36 : n0 ≤ b36 := Nat.le_trans Z0 (Nat.le_of_eq g36.symm)
        have sz_b36 : h0.size ≤ b36 := Nat.le_trans (show Keep h0 h0 [] from (Keep.refl h0 _)).1 (Nat.le_of_eq g36.symm)
        have K36 : Keep h0 h36 [] := Keep.ext (Keep.refl h0 _) E36
        have Z36 : n0 ≤ h36.size := Nat.le_trans Z0 E36.1
        have F_stamp_b36 : Fld Z h36 b36 "com/example/libfacet/libfacet/regex/StateSet" "stamp" "I" (.int (0 : Int32)) := D36 (Or.inl (hw _ (List.mem_of_getElem? (i := 10) rfl))) (ty := .int) (by decide)
        have F_stack_b36 : Fld Z h36 b36 "com/example/libfacet/libfacet/regex/StateSet" "stack" "[I" .null := D36 (Or.inl (hw _ (List.mem_of_getElem? (i := 13) rfl))) (ty := (.array .int)) (by decide)
        have F_instructions_b36 : Fld Z h36 b36 "com/example/libfacet/libfacet/regex/StateSet" "instructions" "I" (.int (0 : Int32)) := D36 (Or.inr (hw _ (List.mem_of_getElem? (i := 15) rfl))) (ty := .int) (by decide)
        have F_members_b36 : Fld Z h36 b36 "com/example/libfacet/libfacet/regex/StateSet" "members" "[I" .null := D36 (Or.inl (hw _ (List.mem_of_getElem? (i := 17) rfl))) (ty := (.array .int)) (by decide)
        have F_marks_b36 : Fld Z h36 b36 "com/example/libfacet/libfacet/regex/StateSet" "marks" "[C" .null := D36 (Or.inr (hw _ (List.mem_of_getElem? (i := 20) rfl))) (ty := (.array .char)) (by decide)
        have F_markBits_b36 : Fld Z h36 b36 "com/example/libfacet/libfacet/regex/StateSet" "markBits" "[J" .null := D36 (Or.inr (hw _ (List.mem_of_getElem? (i := 22) rfl))) (ty := (.array .long)) (by decide)
        have F_marked_b36 : Fld Z h36 b36 "com/example/libfacet/libfacet/regex/StateSet" "marked" "[I" .null := D36 (Or.inl (hw _ (List.mem_of_getElem? (i := 24) rfl))) (ty := (.array .int)) (by decide)
        have F_size_b36 : Fld Z h36 b36 "com/example/libfacet/libfacet/regex/StateSet" "size" "I" (.int (0 : Int32)) := D36 (Or.inl (hw _ (List.mem_of_getElem? (i := 31) rfl))) (ty := .int) (by decide)
        obtain ⟨_, _, ⟨T37, L37, k37, n37⟩, -, X37, ⟨Lc37, hQ37, l37, y37, z37⟩, st37⟩ := X36.specialBack hx (y := (⟨"com/example/libfacet/libfacet/regex/StateSet", "<init>", "(IZ)V"⟩ : MethodName)) rfl hown (mvT hZ (hw _ (List.mem_of_getElem? (i := 3) rfl))) (mvT hZ (hw _ (List.mem_of_getElem? (i := 4) rfl))) (mvT hZ (hw _ (List.mem_of_getElem? (i := 5) rfl))) (by decide) (backOf (W := 1) (rm1N l Z a0 hw [] b36 (0 : Int32) (0 : Int32) (0 : Int32) h36 n0 Z36 ⟨A36, F_stamp_b36, F_stack_b36, F_instructions_b36, F_members_b36, F_marks_b36, F_markBits_b36, F_marked_b36, F_size_b36⟩ g_b36) hZ (hw _ (List.mem_of_getElem? (i := 5) rfl)) (hw _ (List.mem_of_getElem? (i := 2) rfl)) (by decide) (by decide)) (g := (mkF m 29 #[.val (.int p1), .val (.int p2), .val (.int p3), .val (.int p4), .val (.int p5), .val (.int (2 : Int32)), .val (.int (0 : Int32)), .unset, .unset] [(.int (0 : Int32)), (.int (4 : Int32)), (.ref b36), (.ref b36)])) rfl (by rw [hml]; rfl) (Steps.refl _) (a := b36) (argsL := [(.int (4 : Int32)), (.int (0 : Int32))]) (rest := [(.ref b36)]) (lenOf pd_0_0 rfl) rfl (by show 2 * 0 + _ ≤ _; exact Nat.le_of_eq rfl) (hb hby at_29) (fun _ _ => ⟨rfl, e36, (by decide : 1 + 3 ≤ _), (by decide : 10 + 36 ≤ _)⟩)
        dsimp only [Pt.U, Pt.locs, Pt.cells, Pt.slots] at X37 l37 y37 z37 st37 hQ37
        subst l37 y37 z37
        obtain ⟨rfl, N37q, c37_am, Kq37, O37_0, szq_c37_am, P37_am_0⟩ := hQ37
        have ne_b36_c37_am : b36 ≠ c37_am := Nat.ne_of_lt (Nat.lt_of_lt_of_le A36.lt szq_c37_am)
        have g_c37_am : n0 ≤ c37_am := Nat.le_trans Z36 szq_c37_am
        have sz_c37_am : h0.size ≤ c37_am := Nat.le_trans (show Keep h0 h36 [] from K36).1 szq_c37_am
        have N37 := Fr.app Nj8 N37q
        have fE_b36_x37 := (A36.keep Kq37)
        have K37 : Keep h0 T37.heap [] := Keep.trans K36 Kq37 (allS (Or.inr sz_b36) all0)
        have Z37 : n0 ≤ T37.heap.size := Nat.le_trans Z36 Kq37.1
        obtain ⟨E_b36_38, F_members_b36_39, F_size_b36_40⟩ := O37_0
        obtain ⟨cq41, kq41, q41a, q41b, q41c⟩ := isOf hZ rfl E_b36_38
        obtain ⟨_, _, ⟨T41, L41, k41, n41⟩, -, X41, ⟨Lc41, hQ41, l41, y41, z41⟩, st41⟩ := X37.virtualBack hx (y := (⟨"com/example/libfacet/libfacet/regex/StateSet", "add", "(I)V"⟩ : MethodName)) (z := (⟨"com/example/libfacet/libfacet/regex/StateSet", "add", "(I)V"⟩ : MethodName)) hown (mvT hZ (hw _ (List.mem_of_getElem? (i := 32) rfl))) (mvT hZ (hw _ (List.mem_of_getElem? (i := 33) rfl))) (notFace_of_selects (args := #[]) (mvT hZ (hw _ (List.mem_of_getElem? (i := 35) rfl)))) (mvT hZ (hw _ (List.mem_of_getElem? (i := 35) rfl))) (mvT hZ (hw _ (List.mem_of_getElem? (i := 34) rfl))) (by decide) (backOf (W := 0) (rm4N l Z a0 hw [] b36 p2 c37_am (0 : Int32) (fun _ => (0 : Int32)) T37.heap n0 Z37 ⟨E_b36_38, F_members_b36_39, F_size_b36_40⟩ P37_am_0 ne_b36_c37_am g_b36 g_c37_am (by decide) (by decide)) hZ (hw _ (List.mem_of_getElem? (i := 36) rfl)) (hw _ (List.mem_of_getElem? (i := 2) rfl)) (by decide) (by decide)) q41a q41c (g := (mkF m 43 #[.val (.int p1), .val (.int p2), .val (.int p3), .val (.int p4), .val (.int p5), .val (.int (2 : Int32)), .val (.int (0 : Int32)), .val (.ref b36), .unset] [(.int p2), (.ref b36)])) rfl (by rw [hml]; rfl) (Steps.refl _) (argsL := [(.int p2)]) (rest := []) (lenOf pd_0_2 rfl) rfl (by show 2 * 0 + _ ≤ _; exact Nat.le_of_eq rfl) (hb hby at_43) (fun _ _ => ⟨rfl, rfl, (by decide : 4 + 0 ≤ _), (by decide : 46 + 0 ≤ _)⟩)
        dsimp only [Pt.U, Pt.locs, Pt.cells, Pt.slots] at X41 l41 y41 z41 st41 hQ41
        subst l41 y41 z41
        obtain ⟨rfl, N41q, Kq41, O41_0, V41_0⟩ := hQ41
        have N41 := Fr.app N37 N41q
        have fE_b36_x41 := (E_b36_38.keep Kq41)
        have K41 : Keep h0 T41.heap [] := Keep.trans K37 Kq41 (allS (Or.inr sz_b36) (allS (Or.inr sz_c37_am) all0))
        have Z41 : n0 ≤ T41.heap.size := Nat.le_trans Z37 Kq41.1
        obtain ⟨E_b36_42, F_members_b36_43, F_size_b36_44⟩ := O41_0
        obtain ⟨cq45, kq45, q45a, q45b, q45c⟩ := isOf hZ rfl E_b36_42
        obtain ⟨_, _, ⟨T45, L45, k45, n45⟩, -, X45, ⟨Lc45, hQ45, l45, y45, z45⟩, st45⟩ := X41.virtualBack hx (y := (⟨"com/example/libfacet/libfacet/regex/StateSet", "add", "(I)V"⟩ : MethodName)) (z := (⟨"com/example/libfacet/libfacet/regex/StateSet", "add", "(I)V"⟩ : MethodName)) hown (mvT hZ (hw _ (List.mem_of_getElem? (i := 32) rfl))) (mvT hZ (hw _ (List.mem_of_getElem? (i := 33) rfl))) (notFace_of_selects (args := #[]) (mvT hZ (hw _ (List.mem_of_getElem? (i := 35) rfl)))) (mvT hZ (hw _ (List.mem_of_getElem? (i := 35) rfl))) (mvT hZ (hw _ (List.mem_of_getElem? (i := 34) rfl))) (by decide) (backOf (W := 0) (rm4N l Z a0 hw [] b36 p3 c37_am (1 : Int32) (own_put (fun _ => (0 : Int32)) (0 : Int32) p2) T41.heap n0 Z41 ⟨E_b36_42, F_members_b36_43, F_size_b36_44⟩ V41_0 ne_b36_c37_am g_b36 g_c37_am (by decide) (by decide)) hZ (hw _ (List.mem_of_getElem? (i := 36) rfl)) (hw _ (List.mem_of_getElem? (i := 2) rfl)) (by decide) (by decide)) q45a q45c (g := (mkF m 55 #[.val (.int p1), .val (.int p2), .val (.int p3), .val (.int p4), .val (.int p5), .val (.int (2 : Int32)), .val (.int (0 : Int32)), .val (.ref b36), .unset] [(.int p3), (.ref b36)])) rfl (by rw [hml]; rfl) (Steps.refl _) (argsL := [(.int p3)]) (rest := []) (lenOf pd_0_2 rfl) rfl (by show 2 * 0 + _ ≤ _; exact Nat.le_of_eq rfl) (hb hby at_55) (fun _ _ => ⟨rfl, rfl, (by decide : 4 + 0 ≤ _), (by decide : 46 + 0 ≤ _)⟩)
        dsimp only [Pt.U, Pt.locs, Pt.cells, Pt.slots] at X45 l45 y45 z45 st45 hQ45
        subst l45 y45 z45
        obtain ⟨rfl, N45q, Kq45, O45_0, V45_0⟩ := hQ45
        have N45 := Fr.app N41 N45q
        have fE_b36_x45 := (E_b36_42.keep Kq45)
        have K45 : Keep h0 T45.heap [] := Keep.trans K41 Kq45 (allS (Or.inr sz_b36) (allS (Or.inr sz_c37_am) all0))
        have Z45 : n0 ≤ T45.heap.size := Nat.le_trans Z41 Kq45.1
        obtain ⟨E_b36_46, F_members_b36_47, F_size_b36_48⟩ := O45_0
        obtain ⟨cq49, kq49, q49a, q49b, q49c⟩ := isOf hZ rfl E_b36_46
        obtain ⟨_, _, ⟨T49, L49, k49, n49⟩, -, X49, ⟨Lc49, hQ49, l49, y49, z49⟩, st49⟩ := X45.virtualBack hx (y := (⟨"com/example/libfacet/libfacet/regex/StateSet", "membersHash", "()I"⟩ : MethodName)) (z := (⟨"com/example/libfacet/libfacet/regex/StateSet", "membersHash", "()I"⟩ : MethodName)) hown (mvT hZ (hw _ (List.mem_of_getElem? (i := 25) rfl))) (mvT hZ (hw _ (List.mem_of_getElem? (i := 26) rfl))) (notFace_of_selects (args := #[]) (mvT hZ (hw _ (List.mem_of_getElem? (i := 28) rfl)))) (mvT hZ (hw _ (List.mem_of_getElem? (i := 28) rfl))) (mvT hZ (hw _ (List.mem_of_getElem? (i := 27) rfl))) (by decide) (backOf (W := 0) (rm3N l Z a0 hw [] b36 c37_am (2 : Int32) (own_put (own_put (fun _ => (0 : Int32)) (0 : Int32) p2) (1 : Int32) p3) T45.heap n0 Z45 ⟨E_b36_46, F_members_b36_47, F_size_b36_48⟩ V45_0 (by decide) (by decide)) hZ (hw _ (List.mem_of_getElem? (i := 29) rfl)) (hw _ (List.mem_of_getElem? (i := 2) rfl)) (by decide) (by decide)) q49a q49c (g := (mkF m 188 #[.val (.int p1), .val (.int p2), .val (.int p3), .val (.int p4), .val (.int p5), .val (.int (2 : Int32)), .val (.int (0 : Int32)), .val (.ref b36), .val (.int (((961 : Int32) + ((31 : Int32) * p2)) + p3))] [(.ref b36)])) rfl (by rw [hml]; rfl) (Steps.refl _) (argsL := []) (rest := []) (lenOf pd_0_1 rfl) rfl (by show 2 * 0 + _ ≤ _; exact Nat.le_of_eq rfl) (hb hby at_188) (fun _ _ => ⟨rfl, rfl, (by decide : 4 + 0 ≤ _), (by decide : 46 + 0 ≤ _)⟩)
        dsimp only [Pt.U, Pt.locs, Pt.cells, Pt.slots] at X49 l49 y49 z49 st49 hQ49
        subst l49 y49 z49
        obtain ⟨rfl, N49q, e49⟩ := hQ49
        have N49 := Fr.app N45 N49q
        refine own_pre (A := T49.setTop (mkF m 193 #[.val (.int p1), .val (.int p2), .val (.int p3), .val (.int p4), .val (.int p5), .val (.int (2 : Int32)), .val (.int (0 : Int32)), .val (.ref b36), .val (.int (((961 : Int32) + ((31 : Int32) * p2)) + p3))] [(.int (((961 : Int32) + ((31 : Int32) * p2)) + p3)), (.int (own_hash (own_put (own_put (fun _ => (0 : Int32)) (0 : Int32) p2) (1 : Int32) p3) (2 : Int32)))])) (fun tt kt => ?_) ?_
        · show Steps p.tables e below (Tj8.setTop (mkF m 12 #[.val (.int p1), .val (.int p2), .val (.int p3), .val (.int p4), .val (.int p5), .val (.int (2 : Int32)), .unset, .unset, .unset] [(.int (p1 &&& (8 : Int32)))])) _
          refine XS.ifYes Xj8.here hx rfl (pc0 := 12) (pc' := 19) rfl (hb hby at_12) rfl ((if0 _ _).trans (teq hc12_35).1) (by decide) (by decide) ?_
          show Steps p.tables e below (Tj8.setTop (mkF m 19 #[.val (.int p1), .val (.int p2), .val (.int p3), .val (.int p4), .val (.int p5), .val (.int (2 : Int32)), .unset, .unset, .unset] [])) _
          refine XS.iconst Xj8.here hx rfl (hb hby at_19) ?_
          show Steps p.tables e below (Tj8.setTop (mkF m 20 #[.val (.int p1), .val (.int p2), .val (.int p3), .val (.int p4), .val (.int p5), .val (.int (2 : Int32)), .unset, .unset, .unset] [(.int (0 : Int32))])) _
          refine XS.istore Xj8.here hx rfl (hb hby at_20) rfl (l' := #[.val (.int p1), .val (.int p2), .val (.int p3), .val (.int p4), .val (.int p5), .val (.int (2 : Int32)), .val (.int (0 : Int32)), .unset, .unset]) rfl ?_
          show Steps p.tables e below (Tj8.setTop (mkF m 22 #[.val (.int p1), .val (.int p2), .val (.int p3), .val (.int p4), .val (.int p5), .val (.int (2 : Int32)), .val (.int (0 : Int32)), .unset, .unset] [])) _
          refine st36 _ ?_
          show Steps p.tables e below (T36.setTop (mkF m 25 #[.val (.int p1), .val (.int p2), .val (.int p3), .val (.int p4), .val (.int p5), .val (.int (2 : Int32)), .val (.int (0 : Int32)), .unset, .unset] [(.ref b36)])) _
          refine XS.dup X36.here hx rfl (hb hby at_25) rfl rfl ?_
          show Steps p.tables e below (T36.setTop (mkF m 26 #[.val (.int p1), .val (.int p2), .val (.int p3), .val (.int p4), .val (.int p5), .val (.int (2 : Int32)), .val (.int (0 : Int32)), .unset, .unset] [(.ref b36), (.ref b36)])) _
          refine XS.iconst X36.here hx rfl (hb hby at_26) ?_
          show Steps p.tables e below (T36.setTop (mkF m 27 #[.val (.int p1), .val (.int p2), .val (.int p3), .val (.int p4), .val (.int p5), .val (.int (2 : Int32)), .val (.int (0 : Int32)), .unset, .unset] [(.int (4 : Int32)), (.ref b36), (.ref b36)])) _
          refine XS.iload X36.here hx rfl (hb hby at_27) rfl ?_
          show Steps p.tables e below (T36.setTop (mkF m 29 #[.val (.int p1), .val (.int p2), .val (.int p3), .val (.int p4), .val (.int p5), .val (.int (2 : Int32)), .val (.int (0 : Int32)), .unset, .unset] [(.int (0 : Int32)), (.int (4 : Int32)), (.ref b36), (.ref b36)])) _
          refine st37.trans ?_
          show Steps p.tables e below (T37.setTop (mkF m 32 #[.val (.int p1), .val (.int p2), .val (.int p3), .val (.int p4), .val (.int p5), .val (.int (2 : Int32)), .val (.int (0 : Int32)), .unset, .unset] [(.ref b36)])) _
          refine XS.astore X37.here hx rfl (hb hby at_32) rfl rfl (l' := #[.val (.int p1), .val (.int p2), .val (.int p3), .val (.int p4), .val (.int p5), .val (.int (2 : Int32)), .val (.int (0 : Int32)), .val (.ref b36), .unset]) rfl ?_
          show Steps p.tables e below (T37.setTop (mkF m 34 #[.val (.int p1), .val (.int p2), .val (.int p3), .val (.int p4), .val (.int p5), .val (.int (2 : Int32)), .val (.int (0 : Int32)), .val (.ref b36), .unset] [])) _
          refine XS.iload X37.here hx rfl (hb hby at_34) rfl ?_
          show Steps p.tables e below (T37.setTop (mkF m 36 #[.val (.int p1), .val (.int p2), .val (.int p3), .val (.int p4), .val (.int p5), .val (.int (2 : Int32)), .val (.int (0 : Int32)), .val (.ref b36), .unset] [(.int (2 : Int32))])) _
          refine XS.iconst X37.here hx rfl (hb hby at_36) ?_
          show Steps p.tables e below (T37.setTop (mkF m 37 #[.val (.int p1), .val (.int p2), .val (.int p3), .val (.int p4), .val (.int p5), .val (.int (2 : Int32)), .val (.int (0 : Int32)), .val (.ref b36), .unset] [(.int (1 : Int32)), (.int (2 : Int32))])) _
          refine XS.icmpNo X37.here hx rfl (hb hby at_37) rfl (flt ((by decide) : ¬ ((2 : Int32) < (1 : Int32)))).1 ?_
          show Steps p.tables e below (T37.setTop (mkF m 40 #[.val (.int p1), .val (.int p2), .val (.int p3), .val (.int p4), .val (.int p5), .val (.int (2 : Int32)), .val (.int (0 : Int32)), .val (.ref b36), .unset] [])) _
          refine XS.aload X37.here hx rfl (hb hby at_40) rfl rfl ?_
          show Steps p.tables e below (T37.setTop (mkF m 42 #[.val (.int p1), .val (.int p2), .val (.int p3), .val (.int p4), .val (.int p5), .val (.int (2 : Int32)), .val (.int (0 : Int32)), .val (.ref b36), .unset] [(.ref b36)])) _
          refine XS.iloadN X37.here hx rfl (hb hby at_42) rfl ?_
          show Steps p.tables e below (T37.setTop (mkF m 43 #[.val (.int p1), .val (.int p2), .val (.int p3), .val (.int p4), .val (.int p5), .val (.int (2 : Int32)), .val (.int (0 : Int32)), .val (.ref b36), .unset] [(.int p2), (.ref b36)])) _
          refine st41.trans ?_
          show Steps p.tables e below (T41.setTop (mkF m 46 #[.val (.int p1), .val (.int p2), .val (.int p3), .val (.int p4), .val (.int p5), .val (.int (2 : Int32)), .val (.int (0 : Int32)), .val (.ref b36), .unset] [])) _
          refine XS.iload X41.here hx rfl (hb hby at_46) rfl ?_
          show Steps p.tables e below (T41.setTop (mkF m 48 #[.val (.int p1), .val (.int p2), .val (.int p3), .val (.int p4), .val (.int p5), .val (.int (2 : Int32)), .val (.int (0 : Int32)), .val (.ref b36), .unset] [(.int (2 : Int32))])) _
          refine XS.iconst X41.here hx rfl (hb hby at_48) ?_
          show Steps p.tables e below (T41.setTop (mkF m 49 #[.val (.int p1), .val (.int p2), .val (.int p3), .val (.int p4), .val (.int p5), .val (.int (2 : Int32)), .val (.int (0 : Int32)), .val (.ref b36), .unset] [(.int (2 : Int32)), (.int (2 : Int32))])) _
          refine XS.icmpNo X41.here hx rfl (hb hby at_49) rfl (flt ((by decide) : ¬ ((2 : Int32) < (2 : Int32)))).1 ?_
          show Steps p.tables e below (T41.setTop (mkF m 52 #[.val (.int p1), .val (.int p2), .val (.int p3), .val (.int p4), .val (.int p5), .val (.int (2 : Int32)), .val (.int (0 : Int32)), .val (.ref b36), .unset] [])) _
          refine XS.aload X41.here hx rfl (hb hby at_52) rfl rfl ?_
          show Steps p.tables e below (T41.setTop (mkF m 54 #[.val (.int p1), .val (.int p2), .val (.int p3), .val (.int p4), .val (.int p5), .val (.int (2 : Int32)), .val (.int (0 : Int32)), .val (.ref b36), .unset] [(.ref b36)])) _
          refine XS.iloadN X41.here hx rfl (hb hby at_54) rfl ?_
          show Steps p.tables e below (T41.setTop (mkF m 55 #[.val (.int p1), .val (.int p2), .val (.int p3), .val (.int p4), .val (.int p5), .val (.int (2 : Int32)), .val (.int (0 : Int32)), .val (.ref b36), .unset] [(.int p3), (.ref b36)])) _
          refine st45.trans ?_
          show Steps p.tables e below (T45.setTop (mkF m 58 #[.val (.int p1), .val (.int p2), .val (.int p3), .val (.int p4), .val (.int p5), .val (.int (2 : Int32)), .val (.int (0 : Int32)), .val (.ref b36), .unset] [])) _
          refine XS.iload X45.here hx rfl (hb hby at_58) rfl ?_
          show Steps p.tables e below (T45.setTop (mkF m 60 #[.val (.int p1), .val (.int p2), .val (.int p3), .val (.int p4), .val (.int p5), .val (.int (2 : Int32)), .val (.int (0 : Int32)), .val (.ref b36), .unset] [(.int (2 : Int32))])) _
          refine XS.iconst X45.here hx rfl (hb hby at_60) ?_
          show Steps p.tables e below (T45.setTop (mkF m 61 #[.val (.int p1), .val (.int p2), .val (.int p3), .val (.int p4), .val (.int p5), .val (.int (2 : Int32)), .val (.int (0 : Int32)), .val (.ref b36), .unset] [(.int (3 : Int32)), (.int (2 : Int32))])) _
          refine XS.icmpYes X45.here hx rfl (pc0 := 61) (pc' := 70) rfl (hb hby at_61) rfl (tlt ((by decide) : (2 : Int32) < (3 : Int32))).1 (by decide) (by decide) ?_
          show Steps p.tables e below (T45.setTop (mkF m 70 #[.val (.int p1), .val (.int p2), .val (.int p3), .val (.int p4), .val (.int p5), .val (.int (2 : Int32)), .val (.int (0 : Int32)), .val (.ref b36), .unset] [])) _
          refine XS.iload X45.here hx rfl (hb hby at_70) rfl ?_
          show Steps p.tables e below (T45.setTop (mkF m 72 #[.val (.int p1), .val (.int p2), .val (.int p3), .val (.int p4), .val (.int p5), .val (.int (2 : Int32)), .val (.int (0 : Int32)), .val (.ref b36), .unset] [(.int (2 : Int32))])) _
          refine XS.iconst X45.here hx rfl (hb hby at_72) ?_
          show Steps p.tables e below (T45.setTop (mkF m 73 #[.val (.int p1), .val (.int p2), .val (.int p3), .val (.int p4), .val (.int p5), .val (.int (2 : Int32)), .val (.int (0 : Int32)), .val (.ref b36), .unset] [(.int (4 : Int32)), (.int (2 : Int32))])) _
          refine XS.icmpYes X45.here hx rfl (pc0 := 73) (pc' := 83) rfl (hb hby at_73) rfl (tlt ((by decide) : (2 : Int32) < (4 : Int32))).1 (by decide) (by decide) ?_
          show Steps p.tables e below (T45.setTop (mkF m 83 #[.val (.int p1), .val (.int p2), .val (.int p3), .val (.int p4), .val (.int p5), .val (.int (2 : Int32)), .val (.int (0 : Int32)), .val (.ref b36), .unset] [])) _
          refine XS.iload X45.here hx rfl (hb hby at_83) rfl ?_
          show Steps p.tables e below (T45.setTop (mkF m 85 #[.val (.int p1), .val (.int p2), .val (.int p3), .val (.int p4), .val (.int p5), .val (.int (2 : Int32)), .val (.int (0 : Int32)), .val (.ref b36), .unset] [(.int (0 : Int32))])) _
          refine XS.ifNo X45.here hx rfl (hb hby at_85) rfl ((if0 _ _).trans (teq ((by decide) : (0 : Int32) = (0 : Int32))).2) ?_
          show Steps p.tables e below (T45.setTop (mkF m 88 #[.val (.int p1), .val (.int p2), .val (.int p3), .val (.int p4), .val (.int p5), .val (.int (2 : Int32)), .val (.int (0 : Int32)), .val (.ref b36), .unset] [])) _
          refine XS.iload X45.here hx rfl (hb hby at_88) rfl ?_
          show Steps p.tables e below (T45.setTop (mkF m 90 #[.val (.int p1), .val (.int p2), .val (.int p3), .val (.int p4), .val (.int p5), .val (.int (2 : Int32)), .val (.int (0 : Int32)), .val (.ref b36), .unset] [(.int (2 : Int32))])) _
          refine XS.ifYes X45.here hx rfl (pc0 := 90) (pc' := 99) rfl (hb hby at_90) rfl ((if0 _ _).trans (feq ((by decide) : ¬ ((2 : Int32) = (0 : Int32)))).2) (by decide) (by decide) ?_
          show Steps p.tables e below (T45.setTop (mkF m 99 #[.val (.int p1), .val (.int p2), .val (.int p3), .val (.int p4), .val (.int p5), .val (.int (2 : Int32)), .val (.int (0 : Int32)), .val (.ref b36), .unset] [])) _
          refine XS.iload X45.here hx rfl (hb hby at_99) rfl ?_
          show Steps p.tables e below (T45.setTop (mkF m 101 #[.val (.int p1), .val (.int p2), .val (.int p3), .val (.int p4), .val (.int p5), .val (.int (2 : Int32)), .val (.int (0 : Int32)), .val (.ref b36), .unset] [(.int (2 : Int32))])) _
          refine XS.iconst X45.here hx rfl (hb hby at_101) ?_
          show Steps p.tables e below (T45.setTop (mkF m 102 #[.val (.int p1), .val (.int p2), .val (.int p3), .val (.int p4), .val (.int p5), .val (.int (2 : Int32)), .val (.int (0 : Int32)), .val (.ref b36), .unset] [(.int (1 : Int32)), (.int (2 : Int32))])) _
          refine XS.icmpYes X45.here hx rfl (pc0 := 102) (pc' := 114) rfl (hb hby at_102) rfl (feq ((by decide) : ¬ ((2 : Int32) = (1 : Int32)))).2 (by decide) (by decide) ?_
          show Steps p.tables e below (T45.setTop (mkF m 114 #[.val (.int p1), .val (.int p2), .val (.int p3), .val (.int p4), .val (.int p5), .val (.int (2 : Int32)), .val (.int (0 : Int32)), .val (.ref b36), .unset] [])) _
          refine XS.iload X45.here hx rfl (hb hby at_114) rfl ?_
          show Steps p.tables e below (T45.setTop (mkF m 116 #[.val (.int p1), .val (.int p2), .val (.int p3), .val (.int p4), .val (.int p5), .val (.int (2 : Int32)), .val (.int (0 : Int32)), .val (.ref b36), .unset] [(.int (2 : Int32))])) _
          refine XS.iconst X45.here hx rfl (hb hby at_116) ?_
          show Steps p.tables e below (T45.setTop (mkF m 117 #[.val (.int p1), .val (.int p2), .val (.int p3), .val (.int p4), .val (.int p5), .val (.int (2 : Int32)), .val (.int (0 : Int32)), .val (.ref b36), .unset] [(.int (2 : Int32)), (.int (2 : Int32))])) _
          refine XS.icmpNo X45.here hx rfl (hb hby at_117) rfl (teq ((by decide) : (2 : Int32) = (2 : Int32))).2 ?_
          show Steps p.tables e below (T45.setTop (mkF m 120 #[.val (.int p1), .val (.int p2), .val (.int p3), .val (.int p4), .val (.int p5), .val (.int (2 : Int32)), .val (.int (0 : Int32)), .val (.ref b36), .unset] [])) _
          refine XS.sipush X45.here hx rfl (hb hby at_120) ?_
          show Steps p.tables e below (T45.setTop (mkF m 123 #[.val (.int p1), .val (.int p2), .val (.int p3), .val (.int p4), .val (.int p5), .val (.int (2 : Int32)), .val (.int (0 : Int32)), .val (.ref b36), .unset] [(.int (961 : Int32))])) _
          refine XS.bipush X45.here hx rfl (hb hby at_123) ?_
          show Steps p.tables e below (T45.setTop (mkF m 125 #[.val (.int p1), .val (.int p2), .val (.int p3), .val (.int p4), .val (.int p5), .val (.int (2 : Int32)), .val (.int (0 : Int32)), .val (.ref b36), .unset] [(.int (31 : Int32)), (.int (961 : Int32))])) _
          refine XS.iloadN X45.here hx rfl (hb hby at_125) rfl ?_
          show Steps p.tables e below (T45.setTop (mkF m 126 #[.val (.int p1), .val (.int p2), .val (.int p3), .val (.int p4), .val (.int p5), .val (.int (2 : Int32)), .val (.int (0 : Int32)), .val (.ref b36), .unset] [(.int p2), (.int (31 : Int32)), (.int (961 : Int32))])) _
          refine XS.imul X45.here hx rfl (hb hby at_126) rfl ?_
          show Steps p.tables e below (T45.setTop (mkF m 127 #[.val (.int p1), .val (.int p2), .val (.int p3), .val (.int p4), .val (.int p5), .val (.int (2 : Int32)), .val (.int (0 : Int32)), .val (.ref b36), .unset] [(.int ((31 : Int32) * p2)), (.int (961 : Int32))])) _
          refine XS.iadd X45.here hx rfl (hb hby at_127) rfl ?_
          show Steps p.tables e below (T45.setTop (mkF m 128 #[.val (.int p1), .val (.int p2), .val (.int p3), .val (.int p4), .val (.int p5), .val (.int (2 : Int32)), .val (.int (0 : Int32)), .val (.ref b36), .unset] [(.int ((961 : Int32) + ((31 : Int32) * p2)))])) _
          refine XS.iloadN X45.here hx rfl (hb hby at_128) rfl ?_
          show Steps p.tables e below (T45.setTop (mkF m 129 #[.val (.int p1), .val (.int p2), .val (.int p3), .val (.int p4), .val (.int p5), .val (.int (2 : Int32)), .val (.int (0 : Int32)), .val (.ref b36), .unset] [(.int p3), (.int ((961 : Int32) + ((31 : Int32) * p2)))])) _
          refine XS.iadd X45.here hx rfl (hb hby at_129) rfl ?_
          show Steps p.tables e below (T45.setTop (mkF m 130 #[.val (.int p1), .val (.int p2), .val (.int p3), .val (.int p4), .val (.int p5), .val (.int (2 : Int32)), .val (.int (0 : Int32)), .val (.ref b36), .unset] [(.int (((961 : Int32) + ((31 : Int32) * p2)) + p3))])) _
          refine XS.istore X45.here hx rfl (hb hby at_130) rfl (l' := #[.val (.int p1), .val (.int p2), .val (.int p3), .val (.int p4), .val (.int p5), .val (.int (2 : Int32)), .val (.int (0 : Int32)), .val (.ref b36), .val (.int (((961 : Int32) + ((31 : Int32) * p2)) + p3))]) rfl ?_
          show Steps p.tables e below (T45.setTop (mkF m 132 #[.val (.int p1), .val (.int p2), .val (.int p3), .val (.int p4), .val (.int p5), .val (.int (2 : Int32)), .val (.int (0 : Int32)), .val (.ref b36), .val (.int (((961 : Int32) + ((31 : Int32) * p2)) + p3))] [])) _
          refine XS.goto X45.here hx rfl (pc0 := 132) (pc' := 186) rfl (hb hby at_132) (by decide) (by decide) ?_
          show Steps p.tables e below (T45.setTop (mkF m 186 #[.val (.int p1), .val (.int p2), .val (.int p3), .val (.int p4), .val (.int p5), .val (.int (2 : Int32)), .val (.int (0 : Int32)), .val (.ref b36), .val (.int (((961 : Int32) + ((31 : Int32) * p2)) + p3))] [])) _
          refine XS.aload X45.here hx rfl (hb hby at_186) rfl rfl ?_
          show Steps p.tables e below (T45.setTop (mkF m 188 #[.val (.int p1), .val (.int p2), .val (.int p3), .val (.int p4), .val (.int p5), .val (.int (2 : Int32)), .val (.int (0 : Int32)), .val (.ref b36), .val (.int (((961 : Int32) + ((31 : Int32) * p2)) + p3))] [(.ref b36)])) _
          refine st49.trans ?_
          show Steps p.tables e below (T49.setTop (mkF m 191 #[.val (.int p1), .val (.int p2), .val (.int p3), .val (.int p4), .val (.int p5), .val (.int (2 : Int32)), .val (.int (0 : Int32)), .val (.ref b36), .val (.int (((961 : Int32) + ((31 : Int32) * p2)) + p3))] [(.int (own_hash (own_put (own_put (fun _ => (0 : Int32)) (0 : Int32) p2) (1 : Int32) p3) (2 : Int32)))])) _
          refine XS.iload X49.here hx rfl (hb hby at_191) rfl ?_
          exact kt
        show own_End p e below s (T49.setTop (mkF m 193 #[.val (.int p1), .val (.int p2), .val (.int p3), .val (.int p4), .val (.int p5), .val (.int (2 : Int32)), .val (.int (0 : Int32)), .val (.ref b36), .val (.int (((961 : Int32) + ((31 : Int32) * p2)) + p3))] [(.int (((961 : Int32) + ((31 : Int32) * p2)) + p3)), (.int (own_hash (own_put (own_put (fun _ => (0 : Int32)) (0 : Int32) p2) (1 : Int32) p3) (2 : Int32)))])) (Q0 Z p1 p2 p3 p4 p5 h0 n0) room_1.cells room_1.slots
        by_cases hc193_50 : (own_hash (own_put (own_put (fun _ => (0 : Int32)) (0 : Int32) p2) (1 : Int32) p3) (2 : Int32)) = (((961 : Int32) + ((31 : Int32) * p2)) + p3)
        · refine own_pre (A := T49.setTop (mkF m 201 #[.val (.int p1), .val (.int p2), .val (.int p3), .val (.int p4), .val (.int p5), .val (.int (2 : Int32)), .val (.int (0 : Int32)), .val (.ref b36), .val (.int (((961 : Int32) + ((31 : Int32) * p2)) + p3))] [(.int (1 : Int32))])) (fun tt kt => ?_) ?_
          · show Steps p.tables e below (T49.setTop (mkF m 193 #[.val (.int p1), .val (.int p2), .val (.int p3), .val (.int p4), .val (.int p5), .val (.int (2 : Int32)), .val (.int (0 : Int32)), .val (.ref b36), .val (.int (((961 : Int32) + ((31 : Int32) * p2)) + p3))] [(.int (((961 : Int32) + ((31 : Int32) * p2)) + p3)), (.int (own_hash (own_put (own_put (fun _ => (0 : Int32)) (0 : Int32) p2) (1 : Int32) p3) (2 : Int32)))])) _
            refine XS.icmpNo X49.here hx rfl (hb hby at_193) rfl (teq hc193_50).2 ?_
            show Steps p.tables e below (T49.setTop (mkF m 196 #[.val (.int p1), .val (.int p2), .val (.int p3), .val (.int p4), .val (.int p5), .val (.int (2 : Int32)), .val (.int (0 : Int32)), .val (.ref b36), .val (.int (((961 : Int32) + ((31 : Int32) * p2)) + p3))] [])) _
            refine XS.iconst X49.here hx rfl (hb hby at_196) ?_
            show Steps p.tables e below (T49.setTop (mkF m 197 #[.val (.int p1), .val (.int p2), .val (.int p3), .val (.int p4), .val (.int p5), .val (.int (2 : Int32)), .val (.int (0 : Int32)), .val (.ref b36), .val (.int (((961 : Int32) + ((31 : Int32) * p2)) + p3))] [(.int (1 : Int32))])) _
            refine XS.goto X49.here hx rfl (pc0 := 197) (pc' := 201) rfl (hb hby at_197) (by decide) (by decide) ?_
            exact kt
          show own_End p e below s (T49.setTop (mkF m 201 #[.val (.int p1), .val (.int p2), .val (.int p3), .val (.int p4), .val (.int p5), .val (.int (2 : Int32)), .val (.int (0 : Int32)), .val (.ref b36), .val (.int (((961 : Int32) + ((31 : Int32) * p2)) + p3))] [(.int (1 : Int32))])) (Q0 Z p1 p2 p3 p4 p5 h0 n0) room_1.cells room_1.slots
          have hv : (own_law p1 p2 p3 p4 p5) = (1 : Int32) := hj.trans (by simp only [own_law_8, if_neg hs1_0, if_neg hs1_1, if_pos hs1_2, if_pos hc12_35, if_pos hc193_50])
          obtain ⟨fs, hr, hrun, hended, hW, hsame⟩ := X49.leave (v := some (.int (1 : Int32))) (fun h => by rw [Bd.returns] at h; cases h)
          refine ⟨_, _, ?_, hrun, hended, _, _, rfl, ?_, ⟨_, rfl⟩, hW, hsame.mono (by decide) (by decide)⟩
          · exact retN X49 hx (t := .boolean) Bd.returns (by simp) (hb hby at_201) hr
          · show Q0 Z p1 p2 p3 p4 p5 h0 n0 _ T49.heap _
            rw [e49]
            exact ⟨(congrArg (fun z => some (Value.int z)) hv.symm), N49⟩
        · refine own_pre (A := T49.setTop (mkF m 201 #[.val (.int p1), .val (.int p2), .val (.int p3), .val (.int p4), .val (.int p5), .val (.int (2 : Int32)), .val (.int (0 : Int32)), .val (.ref b36), .val (.int (((961 : Int32) + ((31 : Int32) * p2)) + p3))] [(.int (0 : Int32))])) (fun tt kt => ?_) ?_
          · show Steps p.tables e below (T49.setTop (mkF m 193 #[.val (.int p1), .val (.int p2), .val (.int p3), .val (.int p4), .val (.int p5), .val (.int (2 : Int32)), .val (.int (0 : Int32)), .val (.ref b36), .val (.int (((961 : Int32) + ((31 : Int32) * p2)) + p3))] [(.int (((961 : Int32) + ((31 : Int32) * p2)) + p3)), (.int (own_hash (own_put (own_put (fun _ => (0 : Int32)) (0 : Int32) p2) (1 : Int32) p3) (2 : Int32)))])) _
            refine XS.icmpYes X49.here hx rfl (pc0 := 193) (pc' := 200) rfl (hb hby at_193) rfl (feq hc193_50).2 (by decide) (by decide) ?_
            show Steps p.tables e below (T49.setTop (mkF m 200 #[.val (.int p1), .val (.int p2), .val (.int p3), .val (.int p4), .val (.int p5), .val (.int (2 : Int32)), .val (.int (0 : Int32)), .val (.ref b36), .val (.int (((961 : Int32) + ((31 : Int32) * p2)) + p3))] [])) _
            refine XS.iconst X49.here hx rfl (hb hby at_200) ?_
            exact kt
          show own_End p e below s (T49.setTop (mkF m 201 #[.val (.int p1), .val (.int p2), .val (.int p3), .val (.int p4), .val (.int p5), .val (.int (2 : Int32)), .val (.int (0 : Int32)), .val (.ref b36), .val (.int (((961 : Int32) + ((31 : Int32) * p2)) + p3))] [(.int (0 : Int32))])) (Q0 Z p1 p2 p3 p4 p5 h0 n0) room_1.cells room_1.slots
          have hv : (own_law p1 p2 p3 p4 p5) = (0 : Int32) := hj.trans (by simp only [own_law_8, if_neg hs1_0, if_neg hs1_1, if_pos hs1_2, if_pos hc12_35, if_neg hc193_50])
          obtain ⟨fs, hr, hrun, hended, hW, hsame⟩ := X49.leave (v := some (.int (0 : Int32))) (fun h => by rw [Bd.returns] at h; cases h)
          refine ⟨_, _, ?_, hrun, hended, _, _, rfl, ?_, ⟨_, rfl⟩, hW, hsame.mono (by decide) (by decide)⟩
          · exact retN X49 hx (t := .boolean) Bd.returns (by simp) (hb hby at_201) hr
          · show Q0 Z p1 p2 p3 p4 p5 h0 n0 _ T49.heap _
            rw [e49]
            exact ⟨(congrArg (fun z => some (Value.int z)) hv.symm), N49⟩
      · obtain ⟨T51, h51, X51, e51, E51, A51, D51, -, st51⟩ := newO Xj8 hx hZ hown (hw _ (List.mem_of_getElem? (i := 0) rfl)) (hw _ (List.mem_of_getElem? (i := 1) rfl)) (hw _ (List.mem_of_getElem? (i := 2) rfl)) ej8 (g := (mkF m 22 #[.val (.int p1), .val (.int p2), .val (.int p3), .val (.int p4), .val (.int p5), .val (.int (2 : Int32)), .val (.int (1 : Int32)), .unset, .unset] [])) rfl (hb hby at_22) (by decide) (by decide)
        obtain ⟨b51, g51⟩ : ∃ z, z = h0.size := ⟨_, rfl⟩
        rw [← g51] at A51 D51 st51
        have g_b51 : n0 ≤ b51 := Nat.le_trans Z0 (Nat.le_of_eq g51.symm)
        have sz_b51 : h0.size ≤ b51 := Nat.le_trans (show Keep h0 h0 [] from (Keep.refl h0 _)).1 (Nat.le_of_eq g51.symm)
        have K51 : Keep h0 h51 [] := Keep.ext (Keep.refl h0 _) E51
        have Z51 : n0 ≤ h51.size := Nat.le_trans Z0 E51.1
        have F_stamp_b51 : Fld Z h51 b51 "com/example/libfacet/libfacet/regex/StateSet" "stamp" "I" (.int (0 : Int32)) := D51 (Or.inl (hw _ (List.mem_of_getElem? (i := 10) rfl))) (ty := .int) (by decide)
        have F_stack_b51 : Fld Z h51 b51 "com/example/libfacet/libfacet/regex/StateSet" "stack" "[I" .null := D51 (Or.inl (hw _ (List.mem_of_getElem? (i := 13) rfl))) (ty := (.array .int)) (by decide)
        have F_instructions_b51 : Fld Z h51 b51 "com/example/libfacet/libfacet/regex/StateSet" "instructions" "I" (.int (0 : Int32)) := D51 (Or.inr (hw _ (List.mem_of_getElem? (i := 15) rfl))) (ty := .int) (by decide)
        have F_members_b51 : Fld Z h51 b51 "com/example/libfacet/libfacet/regex/StateSet" "members" "[I" .null := D51 (Or.inl (hw _ (List.mem_of_getElem? (i := 17) rfl))) (ty := (.array .int)) (by decide)
        have F_marks_b51 : Fld Z h51 b51 "com/example/libfacet/libfacet/regex/StateSet" "marks" "[C" .null := D51 (Or.inr (hw _ (List.mem_of_getElem? (i := 20) rfl))) (ty := (.array .char)) (by decide)
        have F_markBits_b51 : Fld Z h51 b51 "com/example/libfacet/libfacet/regex/StateSet" "markBits" "[J" .null := D51 (Or.inr (hw _ (List.mem_of_getElem? (i := 22) rfl))) (ty := (.array .long)) (by decide)
        have F_marked_b51 : Fld Z h51 b51 "com/example/libfacet/libfacet/regex/StateSet" "marked" "[I" .null := D51 (Or.inl (hw _ (List.mem_of_getElem? (i := 24) rfl))) (ty := (.array .int)) (by decide)
        have F_size_b51 : Fld Z h51 b51 "com/example/libfacet/libfacet/regex/StateSet" "size" "I" (.int (0 : Int32)) := D51 (Or.inl (hw _ (List.mem_of_getElem? (i := 31) rfl))) (ty := .int) (by decide)
        obtain ⟨_, _, ⟨T52, L52, k52, n52⟩, -, X52, ⟨Lc52, hQ52, l52, y52, z52⟩, st52⟩ := X51.specialBack hx (y := (⟨"com/example/libfacet/libfacet/regex/StateSet", "<init>", "(IZ)V"⟩ : MethodName)) rfl hown (mvT hZ (hw _ (List.mem_of_getElem? (i := 3) rfl))) (mvT hZ (hw _ (List.mem_of_getElem? (i := 4) rfl))) (mvT hZ (hw _ (List.mem_of_getElem? (i := 5) rfl))) (by decide) (backOf (W := 1) (rm1L l Z a0 hw [] b51 (0 : Int32) (0 : Int32) (0 : Int32) h51 n0 Z51 ⟨A51, F_stamp_b51, F_stack_b51, F_instructions_b51, F_members_b51, F_marks_b51, F_markBits_b51, F_marked_b51, F_size_b51⟩ g_b51) hZ (hw _ (List.mem_of_getElem? (i := 5) rfl)) (hw _ (List.mem_of_getElem? (i := 2) rfl)) (by decide) (by decide)) (g := (mkF m 29 #[.val (.int p1), .val (.int p2), .val (.int p3), .val (.int p4), .val (.int p5), .val (.int (2 : Int32)), .val (.int (1 : Int32)), .unset, .unset] [(.int (1 : Int32)), (.int (4 : Int32)), (.ref b51), (.ref b51)])) rfl (by rw [hml]; rfl) (Steps.refl _) (a := b51) (argsL := [(.int (4 : Int32)), (.int (1 : Int32))]) (rest := [(.ref b51)]) (lenOf pd_0_0 rfl) rfl (by show 2 * 0 + _ ≤ _; exact Nat.le_of_eq rfl) (hb hby at_29) (fun _ _ => ⟨rfl, e51, (by decide : 1 + 3 ≤ _), (by decide : 10 + 33 ≤ _)⟩)
        dsimp only [Pt.U, Pt.locs, Pt.cells, Pt.slots] at X52 l52 y52 z52 st52 hQ52
        subst l52 y52 z52
        obtain ⟨rfl, N52q, Kq52, O52_0⟩ := hQ52
        have N52 := Fr.app Nj8 N52q
        have fE_b51_x52 := (A51.keep Kq52)
        have K52 : Keep h0 T52.heap [] := Keep.trans K51 Kq52 (allS (Or.inr sz_b51) all0)
        have Z52 : n0 ≤ T52.heap.size := Nat.le_trans Z51 Kq52.1
        obtain ⟨E_b51_53, F_members_b51_54, F_size_b51_55⟩ := O52_0
        obtain ⟨cq56, kq56, q56a, q56b, q56c⟩ := isOf hZ rfl E_b51_53
        obtain ⟨_, _, ⟨T56, L56, k56, n56⟩, -, X56, ⟨Lc56, hQ56, l56, y56, z56⟩, st56⟩ := X52.virtualBack hx (y := (⟨"com/example/libfacet/libfacet/regex/StateSet", "add", "(I)V"⟩ : MethodName)) (z := (⟨"com/example/libfacet/libfacet/regex/StateSet", "add", "(I)V"⟩ : MethodName)) hown (mvT hZ (hw _ (List.mem_of_getElem? (i := 32) rfl))) (mvT hZ (hw _ (List.mem_of_getElem? (i := 33) rfl))) (notFace_of_selects (args := #[]) (mvT hZ (hw _ (List.mem_of_getElem? (i := 35) rfl)))) (mvT hZ (hw _ (List.mem_of_getElem? (i := 35) rfl))) (mvT hZ (hw _ (List.mem_of_getElem? (i := 34) rfl))) (by decide) (backOf (W := 0) (rm4L l Z a0 hw [] b51 p2 (0 : Int32) T52.heap n0 Z52 ⟨E_b51_53, F_members_b51_54, F_size_b51_55⟩) hZ (hw _ (List.mem_of_getElem? (i := 36) rfl)) (hw _ (List.mem_of_getElem? (i := 2) rfl)) (by decide) (by decide)) q56a q56c (g := (mkF m 43 #[.val (.int p1), .val (.int p2), .val (.int p3), .val (.int p4), .val (.int p5), .val (.int (2 : Int32)), .val (.int (1 : Int32)), .val (.ref b51), .unset] [(.int p2), (.ref b51)])) rfl (by rw [hml]; rfl) (Steps.refl _) (argsL := [(.int p2)]) (rest := []) (lenOf pd_0_2 rfl) rfl (by show 2 * 0 + _ ≤ _; exact Nat.le_of_eq rfl) (hb hby at_43) (fun _ _ => ⟨rfl, rfl, (by decide : 4 + 0 ≤ _), (by decide : 43 + 0 ≤ _)⟩)
        dsimp only [Pt.U, Pt.locs, Pt.cells, Pt.slots] at X56 l56 y56 z56 st56 hQ56
        subst l56 y56 z56
        obtain ⟨rfl, N56q, e56⟩ := hQ56
        have N56 := Fr.app N52 N56q
        obtain ⟨cq57, kq57, q57a, q57b, q57c⟩ := isOf hZ e56 E_b51_53
        obtain ⟨_, _, ⟨T57, L57, k57, n57⟩, -, X57, ⟨Lc57, hQ57, l57, y57, z57⟩, st57⟩ := X56.virtualBack hx (y := (⟨"com/example/libfacet/libfacet/regex/StateSet", "add", "(I)V"⟩ : MethodName)) (z := (⟨"com/example/libfacet/libfacet/regex/StateSet", "add", "(I)V"⟩ : MethodName)) hown (mvT hZ (hw _ (List.mem_of_getElem? (i := 32) rfl))) (mvT hZ (hw _ (List.mem_of_getElem? (i := 33) rfl))) (notFace_of_selects (args := #[]) (mvT hZ (hw _ (List.mem_of_getElem? (i := 35) rfl)))) (mvT hZ (hw _ (List.mem_of_getElem? (i := 35) rfl))) (mvT hZ (hw _ (List.mem_of_getElem? (i := 34) rfl))) (by decide) (backOf (W := 0) (rm4L l Z a0 hw [] b51 p3 (0 : Int32) T52.heap n0 Z52 ⟨E_b51_53, F_members_b51_54, F_size_b51_55⟩) hZ (hw _ (List.mem_of_getElem? (i := 36) rfl)) (hw _ (List.mem_of_getElem? (i := 2) rfl)) (by decide) (by decide)) q57a q57c (g := (mkF m 55 #[.val (.int p1), .val (.int p2), .val (.int p3), .val (.int p4), .val (.int p5), .val (.int (2 : Int32)), .val (.int (1 : Int32)), .val (.ref b51), .unset] [(.int p3), (.ref b51)])) rfl (by rw [hml]; rfl) (Steps.refl _) (argsL := [(.int p3)]) (rest := []) (lenOf pd_0_2 rfl) rfl (by show 2 * 0 + _ ≤ _; exact Nat.le_of_eq rfl) (hb hby at_55) (fun _ _ => ⟨rfl, e56, (by decide : 4 + 0 ≤ _), (by decide : 43 + 0 ≤ _)⟩)
        dsimp only [Pt.U, Pt.locs, Pt.cells, Pt.slots] at X57 l57 y57 z57 st57 hQ57
        subst l57 y57 z57
        obtain ⟨rfl, N57q, e57⟩ := hQ57
        have N57 := Fr.app N56 N57q
        obtain ⟨cq58, kq58, q58a, q58b, q58c⟩ := isOf hZ e57 E_b51_53
        obtain ⟨_, _, ⟨T58, L58, k58, n58⟩, -, X58, ⟨Lc58, hQ58, l58, y58, z58⟩, st58⟩ := X57.virtualBack hx (y := (⟨"com/example/libfacet/libfacet/regex/StateSet", "membersHash", "()I"⟩ : MethodName)) (z := (⟨"com/example/libfacet/libfacet/regex/StateSet", "membersHash", "()I"⟩ : MethodName)) hown (mvT hZ (hw _ (List.mem_of_getElem? (i := 25) rfl))) (mvT hZ (hw _ (List.mem_of_getElem? (i := 26) rfl))) (notFace_of_selects (args := #[]) (mvT hZ (hw _ (List.mem_of_getElem? (i := 28) rfl)))) (mvT hZ (hw _ (List.mem_of_getElem? (i := 28) rfl))) (mvT hZ (hw _ (List.mem_of_getElem? (i := 27) rfl))) (by decide) (backOf (W := 0) (rm3L l Z a0 hw [] b51  T52.heap n0 Z52 ⟨E_b51_53, F_members_b51_54, F_size_b51_55⟩) hZ (hw _ (List.mem_of_getElem? (i := 29) rfl)) (hw _ (List.mem_of_getElem? (i := 2) rfl)) (by decide) (by decide)) q58a q58c (g := (mkF m 188 #[.val (.int p1), .val (.int p2), .val (.int p3), .val (.int p4), .val (.int p5), .val (.int (2 : Int32)), .val (.int (1 : Int32)), .val (.ref b51), .val (.int (1 : Int32))] [(.ref b51)])) rfl (by rw [hml]; rfl) (Steps.refl _) (argsL := []) (rest := []) (lenOf pd_0_1 rfl) rfl (by show 2 * 0 + _ ≤ _; exact Nat.le_of_eq rfl) (hb hby at_188) (fun _ _ => ⟨rfl, e57, (by decide : 4 + 0 ≤ _), (by decide : 43 + 0 ≤ _)⟩)
        dsimp only [Pt.U, Pt.locs, Pt.cells, Pt.slots] at X58 l58 y58 z58 st58 hQ58
        subst l58 y58 z58
        obtain ⟨rfl, N58q, e58⟩ := hQ58
        have N58 := Fr.app N57 N58q
        refine own_pre (A := T58.setTop (mkF m 201 #[.val (.int p1), .val (.int p2), .val (.int p3), .val (.int p4), .val (.int p5), .val (.int (2 : Int32)), .val (.int (1 : Int32)), .val (.ref b51), .val (.int (1 : Int32))] [(.int (1 : Int32))])) (fun tt kt => ?_) ?_
        · show Steps p.tables e below (Tj8.setTop (mkF m 12 #[.val (.int p1), .val (.int p2), .val (.int p3), .val (.int p4), .val (.int p5), .val (.int (2 : Int32)), .unset, .unset, .unset] [(.int (p1 &&& (8 : Int32)))])) _
          refine XS.ifNo Xj8.here hx rfl (hb hby at_12) rfl ((if0 _ _).trans (feq hc12_35).1) ?_
          show Steps p.tables e below (Tj8.setTop (mkF m 15 #[.val (.int p1), .val (.int p2), .val (.int p3), .val (.int p4), .val (.int p5), .val (.int (2 : Int32)), .unset, .unset, .unset] [])) _
          refine XS.iconst Xj8.here hx rfl (hb hby at_15) ?_
          show Steps p.tables e below (Tj8.setTop (mkF m 16 #[.val (.int p1), .val (.int p2), .val (.int p3), .val (.int p4), .val (.int p5), .val (.int (2 : Int32)), .unset, .unset, .unset] [(.int (1 : Int32))])) _
          refine XS.goto Xj8.here hx rfl (pc0 := 16) (pc' := 20) rfl (hb hby at_16) (by decide) (by decide) ?_
          show Steps p.tables e below (Tj8.setTop (mkF m 20 #[.val (.int p1), .val (.int p2), .val (.int p3), .val (.int p4), .val (.int p5), .val (.int (2 : Int32)), .unset, .unset, .unset] [(.int (1 : Int32))])) _
          refine XS.istore Xj8.here hx rfl (hb hby at_20) rfl (l' := #[.val (.int p1), .val (.int p2), .val (.int p3), .val (.int p4), .val (.int p5), .val (.int (2 : Int32)), .val (.int (1 : Int32)), .unset, .unset]) rfl ?_
          show Steps p.tables e below (Tj8.setTop (mkF m 22 #[.val (.int p1), .val (.int p2), .val (.int p3), .val (.int p4), .val (.int p5), .val (.int (2 : Int32)), .val (.int (1 : Int32)), .unset, .unset] [])) _
          refine st51 _ ?_
          show Steps p.tables e below (T51.setTop (mkF m 25 #[.val (.int p1), .val (.int p2), .val (.int p3), .val (.int p4), .val (.int p5), .val (.int (2 : Int32)), .val (.int (1 : Int32)), .unset, .unset] [(.ref b51)])) _
          refine XS.dup X51.here hx rfl (hb hby at_25) rfl rfl ?_
          show Steps p.tables e below (T51.setTop (mkF m 26 #[.val (.int p1), .val (.int p2), .val (.int p3), .val (.int p4), .val (.int p5), .val (.int (2 : Int32)), .val (.int (1 : Int32)), .unset, .unset] [(.ref b51), (.ref b51)])) _
          refine XS.iconst X51.here hx rfl (hb hby at_26) ?_
          show Steps p.tables e below (T51.setTop (mkF m 27 #[.val (.int p1), .val (.int p2), .val (.int p3), .val (.int p4), .val (.int p5), .val (.int (2 : Int32)), .val (.int (1 : Int32)), .unset, .unset] [(.int (4 : Int32)), (.ref b51), (.ref b51)])) _
          refine XS.iload X51.here hx rfl (hb hby at_27) rfl ?_
          show Steps p.tables e below (T51.setTop (mkF m 29 #[.val (.int p1), .val (.int p2), .val (.int p3), .val (.int p4), .val (.int p5), .val (.int (2 : Int32)), .val (.int (1 : Int32)), .unset, .unset] [(.int (1 : Int32)), (.int (4 : Int32)), (.ref b51), (.ref b51)])) _
          refine st52.trans ?_
          show Steps p.tables e below (T52.setTop (mkF m 32 #[.val (.int p1), .val (.int p2), .val (.int p3), .val (.int p4), .val (.int p5), .val (.int (2 : Int32)), .val (.int (1 : Int32)), .unset, .unset] [(.ref b51)])) _
          refine XS.astore X52.here hx rfl (hb hby at_32) rfl rfl (l' := #[.val (.int p1), .val (.int p2), .val (.int p3), .val (.int p4), .val (.int p5), .val (.int (2 : Int32)), .val (.int (1 : Int32)), .val (.ref b51), .unset]) rfl ?_
          show Steps p.tables e below (T52.setTop (mkF m 34 #[.val (.int p1), .val (.int p2), .val (.int p3), .val (.int p4), .val (.int p5), .val (.int (2 : Int32)), .val (.int (1 : Int32)), .val (.ref b51), .unset] [])) _
          refine XS.iload X52.here hx rfl (hb hby at_34) rfl ?_
          show Steps p.tables e below (T52.setTop (mkF m 36 #[.val (.int p1), .val (.int p2), .val (.int p3), .val (.int p4), .val (.int p5), .val (.int (2 : Int32)), .val (.int (1 : Int32)), .val (.ref b51), .unset] [(.int (2 : Int32))])) _
          refine XS.iconst X52.here hx rfl (hb hby at_36) ?_
          show Steps p.tables e below (T52.setTop (mkF m 37 #[.val (.int p1), .val (.int p2), .val (.int p3), .val (.int p4), .val (.int p5), .val (.int (2 : Int32)), .val (.int (1 : Int32)), .val (.ref b51), .unset] [(.int (1 : Int32)), (.int (2 : Int32))])) _
          refine XS.icmpNo X52.here hx rfl (hb hby at_37) rfl (flt ((by decide) : ¬ ((2 : Int32) < (1 : Int32)))).1 ?_
          show Steps p.tables e below (T52.setTop (mkF m 40 #[.val (.int p1), .val (.int p2), .val (.int p3), .val (.int p4), .val (.int p5), .val (.int (2 : Int32)), .val (.int (1 : Int32)), .val (.ref b51), .unset] [])) _
          refine XS.aload X52.here hx rfl (hb hby at_40) rfl rfl ?_
          show Steps p.tables e below (T52.setTop (mkF m 42 #[.val (.int p1), .val (.int p2), .val (.int p3), .val (.int p4), .val (.int p5), .val (.int (2 : Int32)), .val (.int (1 : Int32)), .val (.ref b51), .unset] [(.ref b51)])) _
          refine XS.iloadN X52.here hx rfl (hb hby at_42) rfl ?_
          show Steps p.tables e below (T52.setTop (mkF m 43 #[.val (.int p1), .val (.int p2), .val (.int p3), .val (.int p4), .val (.int p5), .val (.int (2 : Int32)), .val (.int (1 : Int32)), .val (.ref b51), .unset] [(.int p2), (.ref b51)])) _
          refine st56.trans ?_
          show Steps p.tables e below (T56.setTop (mkF m 46 #[.val (.int p1), .val (.int p2), .val (.int p3), .val (.int p4), .val (.int p5), .val (.int (2 : Int32)), .val (.int (1 : Int32)), .val (.ref b51), .unset] [])) _
          refine XS.iload X56.here hx rfl (hb hby at_46) rfl ?_
          show Steps p.tables e below (T56.setTop (mkF m 48 #[.val (.int p1), .val (.int p2), .val (.int p3), .val (.int p4), .val (.int p5), .val (.int (2 : Int32)), .val (.int (1 : Int32)), .val (.ref b51), .unset] [(.int (2 : Int32))])) _
          refine XS.iconst X56.here hx rfl (hb hby at_48) ?_
          show Steps p.tables e below (T56.setTop (mkF m 49 #[.val (.int p1), .val (.int p2), .val (.int p3), .val (.int p4), .val (.int p5), .val (.int (2 : Int32)), .val (.int (1 : Int32)), .val (.ref b51), .unset] [(.int (2 : Int32)), (.int (2 : Int32))])) _
          refine XS.icmpNo X56.here hx rfl (hb hby at_49) rfl (flt ((by decide) : ¬ ((2 : Int32) < (2 : Int32)))).1 ?_
          show Steps p.tables e below (T56.setTop (mkF m 52 #[.val (.int p1), .val (.int p2), .val (.int p3), .val (.int p4), .val (.int p5), .val (.int (2 : Int32)), .val (.int (1 : Int32)), .val (.ref b51), .unset] [])) _
          refine XS.aload X56.here hx rfl (hb hby at_52) rfl rfl ?_
          show Steps p.tables e below (T56.setTop (mkF m 54 #[.val (.int p1), .val (.int p2), .val (.int p3), .val (.int p4), .val (.int p5), .val (.int (2 : Int32)), .val (.int (1 : Int32)), .val (.ref b51), .unset] [(.ref b51)])) _
          refine XS.iloadN X56.here hx rfl (hb hby at_54) rfl ?_
          show Steps p.tables e below (T56.setTop (mkF m 55 #[.val (.int p1), .val (.int p2), .val (.int p3), .val (.int p4), .val (.int p5), .val (.int (2 : Int32)), .val (.int (1 : Int32)), .val (.ref b51), .unset] [(.int p3), (.ref b51)])) _
          refine st57.trans ?_
          show Steps p.tables e below (T57.setTop (mkF m 58 #[.val (.int p1), .val (.int p2), .val (.int p3), .val (.int p4), .val (.int p5), .val (.int (2 : Int32)), .val (.int (1 : Int32)), .val (.ref b51), .unset] [])) _
          refine XS.iload X57.here hx rfl (hb hby at_58) rfl ?_
          show Steps p.tables e below (T57.setTop (mkF m 60 #[.val (.int p1), .val (.int p2), .val (.int p3), .val (.int p4), .val (.int p5), .val (.int (2 : Int32)), .val (.int (1 : Int32)), .val (.ref b51), .unset] [(.int (2 : Int32))])) _
          refine XS.iconst X57.here hx rfl (hb hby at_60) ?_
          show Steps p.tables e below (T57.setTop (mkF m 61 #[.val (.int p1), .val (.int p2), .val (.int p3), .val (.int p4), .val (.int p5), .val (.int (2 : Int32)), .val (.int (1 : Int32)), .val (.ref b51), .unset] [(.int (3 : Int32)), (.int (2 : Int32))])) _
          refine XS.icmpYes X57.here hx rfl (pc0 := 61) (pc' := 70) rfl (hb hby at_61) rfl (tlt ((by decide) : (2 : Int32) < (3 : Int32))).1 (by decide) (by decide) ?_
          show Steps p.tables e below (T57.setTop (mkF m 70 #[.val (.int p1), .val (.int p2), .val (.int p3), .val (.int p4), .val (.int p5), .val (.int (2 : Int32)), .val (.int (1 : Int32)), .val (.ref b51), .unset] [])) _
          refine XS.iload X57.here hx rfl (hb hby at_70) rfl ?_
          show Steps p.tables e below (T57.setTop (mkF m 72 #[.val (.int p1), .val (.int p2), .val (.int p3), .val (.int p4), .val (.int p5), .val (.int (2 : Int32)), .val (.int (1 : Int32)), .val (.ref b51), .unset] [(.int (2 : Int32))])) _
          refine XS.iconst X57.here hx rfl (hb hby at_72) ?_
          show Steps p.tables e below (T57.setTop (mkF m 73 #[.val (.int p1), .val (.int p2), .val (.int p3), .val (.int p4), .val (.int p5), .val (.int (2 : Int32)), .val (.int (1 : Int32)), .val (.ref b51), .unset] [(.int (4 : Int32)), (.int (2 : Int32))])) _
          refine XS.icmpYes X57.here hx rfl (pc0 := 73) (pc' := 83) rfl (hb hby at_73) rfl (tlt ((by decide) : (2 : Int32) < (4 : Int32))).1 (by decide) (by decide) ?_
          show Steps p.tables e below (T57.setTop (mkF m 83 #[.val (.int p1), .val (.int p2), .val (.int p3), .val (.int p4), .val (.int p5), .val (.int (2 : Int32)), .val (.int (1 : Int32)), .val (.ref b51), .unset] [])) _
          refine XS.iload X57.here hx rfl (hb hby at_83) rfl ?_
          show Steps p.tables e below (T57.setTop (mkF m 85 #[.val (.int p1), .val (.int p2), .val (.int p3), .val (.int p4), .val (.int p5), .val (.int (2 : Int32)), .val (.int (1 : Int32)), .val (.ref b51), .unset] [(.int (1 : Int32))])) _
          refine XS.ifYes X57.here hx rfl (pc0 := 85) (pc' := 93) rfl (hb hby at_85) rfl ((if0 _ _).trans (feq ((by decide) : ¬ ((1 : Int32) = (0 : Int32)))).2) (by decide) (by decide) ?_
          show Steps p.tables e below (T57.setTop (mkF m 93 #[.val (.int p1), .val (.int p2), .val (.int p3), .val (.int p4), .val (.int p5), .val (.int (2 : Int32)), .val (.int (1 : Int32)), .val (.ref b51), .unset] [])) _
          refine XS.iconst X57.here hx rfl (hb hby at_93) ?_
          show Steps p.tables e below (T57.setTop (mkF m 94 #[.val (.int p1), .val (.int p2), .val (.int p3), .val (.int p4), .val (.int p5), .val (.int (2 : Int32)), .val (.int (1 : Int32)), .val (.ref b51), .unset] [(.int (1 : Int32))])) _
          refine XS.istore X57.here hx rfl (hb hby at_94) rfl (l' := #[.val (.int p1), .val (.int p2), .val (.int p3), .val (.int p4), .val (.int p5), .val (.int (2 : Int32)), .val (.int (1 : Int32)), .val (.ref b51), .val (.int (1 : Int32))]) rfl ?_
          show Steps p.tables e below (T57.setTop (mkF m 96 #[.val (.int p1), .val (.int p2), .val (.int p3), .val (.int p4), .val (.int p5), .val (.int (2 : Int32)), .val (.int (1 : Int32)), .val (.ref b51), .val (.int (1 : Int32))] [])) _
          refine XS.goto X57.here hx rfl (pc0 := 96) (pc' := 186) rfl (hb hby at_96) (by decide) (by decide) ?_
          show Steps p.tables e below (T57.setTop (mkF m 186 #[.val (.int p1), .val (.int p2), .val (.int p3), .val (.int p4), .val (.int p5), .val (.int (2 : Int32)), .val (.int (1 : Int32)), .val (.ref b51), .val (.int (1 : Int32))] [])) _
          refine XS.aload X57.here hx rfl (hb hby at_186) rfl rfl ?_
          show Steps p.tables e below (T57.setTop (mkF m 188 #[.val (.int p1), .val (.int p2), .val (.int p3), .val (.int p4), .val (.int p5), .val (.int (2 : Int32)), .val (.int (1 : Int32)), .val (.ref b51), .val (.int (1 : Int32))] [(.ref b51)])) _
          refine st58.trans ?_
          show Steps p.tables e below (T58.setTop (mkF m 191 #[.val (.int p1), .val (.int p2), .val (.int p3), .val (.int p4), .val (.int p5), .val (.int (2 : Int32)), .val (.int (1 : Int32)), .val (.ref b51), .val (.int (1 : Int32))] [(.int (1 : Int32))])) _
          refine XS.iload X58.here hx rfl (hb hby at_191) rfl ?_
          show Steps p.tables e below (T58.setTop (mkF m 193 #[.val (.int p1), .val (.int p2), .val (.int p3), .val (.int p4), .val (.int p5), .val (.int (2 : Int32)), .val (.int (1 : Int32)), .val (.ref b51), .val (.int (1 : Int32))] [(.int (1 : Int32)), (.int (1 : Int32))])) _
          refine XS.icmpNo X58.here hx rfl (hb hby at_193) rfl (teq ((by decide) : (1 : Int32) = (1 : Int32))).2 ?_
          show Steps p.tables e below (T58.setTop (mkF m 196 #[.val (.int p1), .val (.int p2), .val (.int p3), .val (.int p4), .val (.int p5), .val (.int (2 : Int32)), .val (.int (1 : Int32)), .val (.ref b51), .val (.int (1 : Int32))] [])) _
          refine XS.iconst X58.here hx rfl (hb hby at_196) ?_
          show Steps p.tables e below (T58.setTop (mkF m 197 #[.val (.int p1), .val (.int p2), .val (.int p3), .val (.int p4), .val (.int p5), .val (.int (2 : Int32)), .val (.int (1 : Int32)), .val (.ref b51), .val (.int (1 : Int32))] [(.int (1 : Int32))])) _
          refine XS.goto X58.here hx rfl (pc0 := 197) (pc' := 201) rfl (hb hby at_197) (by decide) (by decide) ?_
          exact kt
        show own_End p e below s (T58.setTop (mkF m 201 #[.val (.int p1), .val (.int p2), .val (.int p3), .val (.int p4), .val (.int p5), .val (.int (2 : Int32)), .val (.int (1 : Int32)), .val (.ref b51), .val (.int (1 : Int32))] [(.int (1 : Int32))])) (Q0 Z p1 p2 p3 p4 p5 h0 n0) room_1.cells room_1.slots
        have hv : (own_law p1 p2 p3 p4 p5) = (1 : Int32) := hj.trans (by simp only [own_law_8, if_neg hs1_0, if_neg hs1_1, if_pos hs1_2, if_neg hc12_35])
        obtain ⟨fs, hr, hrun, hended, hW, hsame⟩ := X58.leave (v := some (.int (1 : Int32))) (fun h => by rw [Bd.returns] at h; cases h)
        refine ⟨_, _, ?_, hrun, hended, _, _, rfl, ?_, ⟨_, rfl⟩, hW, hsame.mono (by decide) (by decide)⟩
        · exact retN X58 hx (t := .boolean) Bd.returns (by simp) (hb hby at_201) hr
        · show Q0 Z p1 p2 p3 p4 p5 h0 n0 _ T58.heap _
          rw [e58]
          exact ⟨(congrArg (fun z => some (Value.int z)) hv.symm), N58⟩
    by_cases hs1_3 : n = (3 : Int32)
    · rw [hs1_3]
      refine own_pre (A := Tj8.setTop (mkF m 12 #[.val (.int p1), .val (.int p2), .val (.int p3), .val (.int p4), .val (.int p5), .val (.int (3 : Int32)), .unset, .unset, .unset] [(.int (p1 &&& (8 : Int32)))])) (fun tt kt => ?_) ?_
      · show Steps p.tables e below (Tj8.setTop (mkF m 9 #[.val (.int p1), .val (.int p2), .val (.int p3), .val (.int p4), .val (.int p5), .val (.int (3 : Int32)), .unset, .unset, .unset] [(.int p1)])) _
        refine XS.bipush Xj8.here hx rfl (hb hby at_9) ?_
        show Steps p.tables e below (Tj8.setTop (mkF m 11 #[.val (.int p1), .val (.int p2), .val (.int p3), .val (.int p4), .val (.int p5), .val (.int (3 : Int32)), .unset, .unset, .unset] [(.int (8 : Int32)), (.int p1)])) _
        refine XS.iand Xj8.here hx rfl (hb hby at_11) rfl ?_
        exact kt
      show own_End p e below s (Tj8.setTop (mkF m 12 #[.val (.int p1), .val (.int p2), .val (.int p3), .val (.int p4), .val (.int p5), .val (.int (3 : Int32)), .unset, .unset, .unset] [(.int (p1 &&& (8 : Int32)))])) (Q0 Z p1 p2 p3 p4 p5 h0 n0) room_1.cells room_1.slots
      by_cases hc12_59 : (p1 &&& (8 : Int32)) = (0 : Int32)
      · obtain ⟨T60, h60, X60, e60, E60, A60, D60, -, st60⟩ := newO Xj8 hx hZ hown (hw _ (List.mem_of_getElem? (i := 0) rfl)) (hw _ (List.mem_of_getElem? (i := 1) rfl)) (hw _ (List.mem_of_getElem? (i := 2) rfl)) ej8 (g := (mkF m 22 #[.val (.int p1), .val (.int p2), .val (.int p3), .val (.int p4), .val (.int p5), .val (.int (3 : Int32)), .val (.int (0 : Int32)), .unset, .unset] [])) rfl (hb hby at_22) (by decide) (by decide)
        obtain ⟨b60, g60⟩ : ∃ z, z = h0.size := ⟨_, rfl⟩
        rw [← g60] at A60 D60 st60
        have g_b60 : n0 ≤ b60 := Nat.le_trans Z0 (Nat.le_of_eq g60.symm)
        have sz_b60 : h0.size ≤ b60 := Nat.le_trans (show Keep h0 h0 [] from (Keep.refl h0 _)).1 (Nat.le_of_eq g60.symm)
        have K60 : Keep h0 h60 [] := Keep.ext (Keep.refl h0 _) E60
        have Z60 : n0 ≤ h60.size := Nat.le_trans Z0 E60.1
        have F_stamp_b60 : Fld Z h60 b60 "com/example/libfacet/libfacet/regex/StateSet" "stamp" "I" (.int (0 : Int32)) := D60 (Or.inl (hw _ (List.mem_of_getElem? (i := 10) rfl))) (ty := .int) (by decide)
        have F_stack_b60 : Fld Z h60 b60 "com/example/libfacet/libfacet/regex/StateSet" "stack" "[I" .null := D60 (Or.inl (hw _ (List.mem_of_getElem? (i := 13) rfl))) (ty := (.array .int)) (by decide)
        have F_instructions_b60 : Fld Z h60 b60 "com/example/libfacet/libfacet/regex/StateSet" "instructions" "I" (.int (0 : Int32)) := D60 (Or.inr (hw _ (List.mem_of_getElem? (i := 15) rfl))) (ty := .int) (by decide)
        have F_members_b60 : Fld Z h60 b60 "com/example/libfacet/libfacet/regex/StateSet" "members" "[I" .null := D60 (Or.inl (hw _ (List.mem_of_getElem? (i := 17) rfl))) (ty := (.array .int)) (by decide)
        have F_marks_b60 : Fld Z h60 b60 "com/example/libfacet/libfacet/regex/StateSet" "marks" "[C" .null := D60 (Or.inr (hw _ (List.mem_of_getElem? (i := 20) rfl))) (ty := (.array .char)) (by decide)
        have F_markBits_b60 : Fld Z h60 b60 "com/example/libfacet/libfacet/regex/StateSet" "markBits" "[J" .null := D60 (Or.inr (hw _ (List.mem_of_getElem? (i := 22) rfl))) (ty := (.array .long)) (by decide)
        have F_marked_b60 : Fld Z h60 b60 "com/example/libfacet/libfacet/regex/StateSet" "marked" "[I" .null := D60 (Or.inl (hw _ (List.mem_of_getElem? (i := 24) rfl))) (ty := (.array .int)) (by decide)
        have F_size_b60 : Fld Z h60 b60 "com/example/libfacet/libfacet/regex/StateSet" "size" "I" (.int (0 : Int32)) := D60 (Or.inl (hw _ (List.mem_of_getElem? (i := 31) rfl))) (ty := .int) (by decide)
        obtain ⟨_, _, ⟨T61, L61, k61, n61⟩, -, X61, ⟨Lc61, hQ61, l61, y61, z61⟩, st61⟩ := X60.specialBack hx (y := (⟨"com/example/libfacet/libfacet/regex/StateSet", "<init>", "(IZ)V"⟩ : MethodName)) rfl hown (mvT hZ (hw _ (List.mem_of_getElem? (i := 3) rfl))) (mvT hZ (hw _ (List.mem_of_getElem? (i := 4) rfl))) (mvT hZ (hw _ (List.mem_of_getElem? (i := 5) rfl))) (by decide) (backOf (W := 1) (rm1N l Z a0 hw [] b60 (0 : Int32) (0 : Int32) (0 : Int32) h60 n0 Z60 ⟨A60, F_stamp_b60, F_stack_b60, F_instructions_b60, F_members_b60, F_marks_b60, F_markBits_b60, F_marked_b60, F_size_b60⟩ g_b60) hZ (hw _ (List.mem_of_getElem? (i := 5) rfl)) (hw _ (List.mem_of_getElem? (i := 2) rfl)) (by decide) (by decide)) (g := (mkF m 29 #[.val (.int p1), .val (.int p2), .val (.int p3), .val (.int p4), .val (.int p5), .val (.int (3 : Int32)), .val (.int (0 : Int32)), .unset, .unset] [(.int (0 : Int32)), (.int (4 : Int32)), (.ref b60), (.ref b60)])) rfl (by rw [hml]; rfl) (Steps.refl _) (a := b60) (argsL := [(.int (4 : Int32)), (.int (0 : Int32))]) (rest := [(.ref b60)]) (lenOf pd_0_0 rfl) rfl (by show 2 * 0 + _ ≤ _; exact Nat.le_of_eq rfl) (hb hby at_29) (fun _ _ => ⟨rfl, e60, (by decide : 1 + 3 ≤ _), (by decide : 10 + 36 ≤ _)⟩)
        dsimp only [Pt.U, Pt.locs, Pt.cells, Pt.slots] at X61 l61 y61 z61 st61 hQ61
        subst l61 y61 z61
        obtain ⟨rfl, N61q, c61_am, Kq61, O61_0, szq_c61_am, P61_am_0⟩ := hQ61
        have ne_b60_c61_am : b60 ≠ c61_am := Nat.ne_of_lt (Nat.lt_of_lt_of_le A60.lt szq_c61_am)
        have g_c61_am : n0 ≤ c61_am := Nat.le_trans Z60 szq_c61_am
        have sz_c61_am : h0.size ≤ c61_am := Nat.le_trans (show Keep h0 h60 [] from K60).1 szq_c61_am
        have N61 := Fr.app Nj8 N61q
        have fE_b60_x61 := (A60.keep Kq61)
        have K61 : Keep h0 T61.heap [] := Keep.trans K60 Kq61 (allS (Or.inr sz_b60) all0)
        have Z61 : n0 ≤ T61.heap.size := Nat.le_trans Z60 Kq61.1
        obtain ⟨E_b60_62, F_members_b60_63, F_size_b60_64⟩ := O61_0
        obtain ⟨cq65, kq65, q65a, q65b, q65c⟩ := isOf hZ rfl E_b60_62
        obtain ⟨_, _, ⟨T65, L65, k65, n65⟩, -, X65, ⟨Lc65, hQ65, l65, y65, z65⟩, st65⟩ := X61.virtualBack hx (y := (⟨"com/example/libfacet/libfacet/regex/StateSet", "add", "(I)V"⟩ : MethodName)) (z := (⟨"com/example/libfacet/libfacet/regex/StateSet", "add", "(I)V"⟩ : MethodName)) hown (mvT hZ (hw _ (List.mem_of_getElem? (i := 32) rfl))) (mvT hZ (hw _ (List.mem_of_getElem? (i := 33) rfl))) (notFace_of_selects (args := #[]) (mvT hZ (hw _ (List.mem_of_getElem? (i := 35) rfl)))) (mvT hZ (hw _ (List.mem_of_getElem? (i := 35) rfl))) (mvT hZ (hw _ (List.mem_of_getElem? (i := 34) rfl))) (by decide) (backOf (W := 0) (rm4N l Z a0 hw [] b60 p2 c61_am (0 : Int32) (fun _ => (0 : Int32)) T61.heap n0 Z61 ⟨E_b60_62, F_members_b60_63, F_size_b60_64⟩ P61_am_0 ne_b60_c61_am g_b60 g_c61_am (by decide) (by decide)) hZ (hw _ (List.mem_of_getElem? (i := 36) rfl)) (hw _ (List.mem_of_getElem? (i := 2) rfl)) (by decide) (by decide)) q65a q65c (g := (mkF m 43 #[.val (.int p1), .val (.int p2), .val (.int p3), .val (.int p4), .val (.int p5), .val (.int (3 : Int32)), .val (.int (0 : Int32)), .val (.ref b60), .unset] [(.int p2), (.ref b60)])) rfl (by rw [hml]; rfl) (Steps.refl _) (argsL := [(.int p2)]) (rest := []) (lenOf pd_0_2 rfl) rfl (by show 2 * 0 + _ ≤ _; exact Nat.le_of_eq rfl) (hb hby at_43) (fun _ _ => ⟨rfl, rfl, (by decide : 4 + 0 ≤ _), (by decide : 46 + 0 ≤ _)⟩)
        dsimp only [Pt.U, Pt.locs, Pt.cells, Pt.slots] at X65 l65 y65 z65 st65 hQ65
        subst l65 y65 z65
        obtain ⟨rfl, N65q, Kq65, O65_0, V65_0⟩ := hQ65
        have N65 := Fr.app N61 N65q
        have fE_b60_x65 := (E_b60_62.keep Kq65)
        have K65 : Keep h0 T65.heap [] := Keep.trans K61 Kq65 (allS (Or.inr sz_b60) (allS (Or.inr sz_c61_am) all0))
        have Z65 : n0 ≤ T65.heap.size := Nat.le_trans Z61 Kq65.1
        obtain ⟨E_b60_66, F_members_b60_67, F_size_b60_68⟩ := O65_0
        obtain ⟨cq69, kq69, q69a, q69b, q69c⟩ := isOf hZ rfl E_b60_66
        obtain ⟨_, _, ⟨T69, L69, k69, n69⟩, -, X69, ⟨Lc69, hQ69, l69, y69, z69⟩, st69⟩ := X65.virtualBack hx (y := (⟨"com/example/libfacet/libfacet/regex/StateSet", "add", "(I)V"⟩ : MethodName)) (z := (⟨"com/example/libfacet/libfacet/regex/StateSet", "add", "(I)V"⟩ : MethodName)) hown (mvT hZ (hw _ (List.mem_of_getElem? (i := 32) rfl))) (mvT hZ (hw _ (List.mem_of_getElem? (i := 33) rfl))) (notFace_of_selects (args := #[]) (mvT hZ (hw _ (List.mem_of_getElem? (i := 35) rfl)))) (mvT hZ (hw _ (List.mem_of_getElem? (i := 35) rfl))) (mvT hZ (hw _ (List.mem_of_getElem? (i := 34) rfl))) (by decide) (backOf (W := 0) (rm4N l Z a0 hw [] b60 p3 c61_am (1 : Int32) (own_put (fun _ => (0 : Int32)) (0 : Int32) p2) T65.heap n0 Z65 ⟨E_b60_66, F_members_b60_67, F_size_b60_68⟩ V65_0 ne_b60_c61_am g_b60 g_c61_am (by decide) (by decide)) hZ (hw _ (List.mem_of_getElem? (i := 36) rfl)) (hw _ (List.mem_of_getElem? (i := 2) rfl)) (by decide) (by decide)) q69a q69c (g := (mkF m 55 #[.val (.int p1), .val (.int p2), .val (.int p3), .val (.int p4), .val (.int p5), .val (.int (3 : Int32)), .val (.int (0 : Int32)), .val (.ref b60), .unset] [(.int p3), (.ref b60)])) rfl (by rw [hml]; rfl) (Steps.refl _) (argsL := [(.int p3)]) (rest := []) (lenOf pd_0_2 rfl) rfl (by show 2 * 0 + _ ≤ _; exact Nat.le_of_eq rfl) (hb hby at_55) (fun _ _ => ⟨rfl, rfl, (by decide : 4 + 0 ≤ _), (by decide : 46 + 0 ≤ _)⟩)
        dsimp only [Pt.U, Pt.locs, Pt.cells, Pt.slots] at X69 l69 y69 z69 st69 hQ69
        subst l69 y69 z69
        obtain ⟨rfl, N69q, Kq69, O69_0, V69_0⟩ := hQ69
        have N69 := Fr.app N65 N69q
        have fE_b60_x69 := (E_b60_66.keep Kq69)
        have K69 : Keep h0 T69.heap [] := Keep.trans K65 Kq69 (allS (Or.inr sz_b60) (allS (Or.inr sz_c61_am) all0))
        have Z69 : n0 ≤ T69.heap.size := Nat.le_trans Z65 Kq69.1
        obtain ⟨E_b60_70, F_members_b60_71, F_size_b60_72⟩ := O69_0
        obtain ⟨cq73, kq73, q73a, q73b, q73c⟩ := isOf hZ rfl E_b60_70
        obtain ⟨_, _, ⟨T73, L73, k73, n73⟩, -, X73, ⟨Lc73, hQ73, l73, y73, z73⟩, st73⟩ := X69.virtualBack hx (y := (⟨"com/example/libfacet/libfacet/regex/StateSet", "add", "(I)V"⟩ : MethodName)) (z := (⟨"com/example/libfacet/libfacet/regex/StateSet", "add", "(I)V"⟩ : MethodName)) hown (mvT hZ (hw _ (List.mem_of_getElem? (i := 32) rfl))) (mvT hZ (hw _ (List.mem_of_getElem? (i := 33) rfl))) (notFace_of_selects (args := #[]) (mvT hZ (hw _ (List.mem_of_getElem? (i := 35) rfl)))) (mvT hZ (hw _ (List.mem_of_getElem? (i := 35) rfl))) (mvT hZ (hw _ (List.mem_of_getElem? (i := 34) rfl))) (by decide) (backOf (W := 0) (rm4N l Z a0 hw [] b60 p4 c61_am (2 : Int32) (own_put (own_put (fun _ => (0 : Int32)) (0 : Int32) p2) (1 : Int32) p3) T69.heap n0 Z69 ⟨E_b60_70, F_members_b60_71, F_size_b60_72⟩ V69_0 ne_b60_c61_am g_b60 g_c61_am (by decide) (by decide)) hZ (hw _ (List.mem_of_getElem? (i := 36) rfl)) (hw _ (List.mem_of_getElem? (i := 2) rfl)) (by decide) (by decide)) q73a q73c (g := (mkF m 67 #[.val (.int p1), .val (.int p2), .val (.int p3), .val (.int p4), .val (.int p5), .val (.int (3 : Int32)), .val (.int (0 : Int32)), .val (.ref b60), .unset] [(.int p4), (.ref b60)])) rfl (by rw [hml]; rfl) (Steps.refl _) (argsL := [(.int p4)]) (rest := []) (lenOf pd_0_2 rfl) rfl (by show 2 * 0 + _ ≤ _; exact Nat.le_of_eq rfl) (hb hby at_67) (fun _ _ => ⟨rfl, rfl, (by decide : 4 + 0 ≤ _), (by decide : 46 + 0 ≤ _)⟩)
        dsimp only [Pt.U, Pt.locs, Pt.cells, Pt.slots] at X73 l73 y73 z73 st73 hQ73
        subst l73 y73 z73
        obtain ⟨rfl, N73q, Kq73, O73_0, V73_0⟩ := hQ73
        have N73 := Fr.app N69 N73q
        have fE_b60_x73 := (E_b60_70.keep Kq73)
        have K73 : Keep h0 T73.heap [] := Keep.trans K69 Kq73 (allS (Or.inr sz_b60) (allS (Or.inr sz_c61_am) all0))
        have Z73 : n0 ≤ T73.heap.size := Nat.le_trans Z69 Kq73.1
        obtain ⟨E_b60_74, F_members_b60_75, F_size_b60_76⟩ := O73_0
        obtain ⟨cq77, kq77, q77a, q77b, q77c⟩ := isOf hZ rfl E_b60_74
        obtain ⟨_, _, ⟨T77, L77, k77, n77⟩, -, X77, ⟨Lc77, hQ77, l77, y77, z77⟩, st77⟩ := X73.virtualBack hx (y := (⟨"com/example/libfacet/libfacet/regex/StateSet", "membersHash", "()I"⟩ : MethodName)) (z := (⟨"com/example/libfacet/libfacet/regex/StateSet", "membersHash", "()I"⟩ : MethodName)) hown (mvT hZ (hw _ (List.mem_of_getElem? (i := 25) rfl))) (mvT hZ (hw _ (List.mem_of_getElem? (i := 26) rfl))) (notFace_of_selects (args := #[]) (mvT hZ (hw _ (List.mem_of_getElem? (i := 28) rfl)))) (mvT hZ (hw _ (List.mem_of_getElem? (i := 28) rfl))) (mvT hZ (hw _ (List.mem_of_getElem? (i := 27) rfl))) (by decide) (backOf (W := 0) (rm3N l Z a0 hw [] b60 c61_am (3 : Int32) (own_put (own_put (own_put (fun _ => (0 : Int32)) (0 : Int32) p2) (1 : Int32) p3) (2 : Int32) p4) T73.heap n0 Z73 ⟨E_b60_74, F_members_b60_75, F_size_b60_76⟩ V73_0 (by decide) (by decide)) hZ (hw _ (List.mem_of_getElem? (i := 29) rfl)) (hw _ (List.mem_of_getElem? (i := 2) rfl)) (by decide) (by decide)) q77a q77c (g := (mkF m 188 #[.val (.int p1), .val (.int p2), .val (.int p3), .val (.int p4), .val (.int p5), .val (.int (3 : Int32)), .val (.int (0 : Int32)), .val (.ref b60), .val (.int ((((29791 : Int32) + ((961 : Int32) * p2)) + ((31 : Int32) * p3)) + p4))] [(.ref b60)])) rfl (by rw [hml]; rfl) (Steps.refl _) (argsL := []) (rest := []) (lenOf pd_0_1 rfl) rfl (by show 2 * 0 + _ ≤ _; exact Nat.le_of_eq rfl) (hb hby at_188) (fun _ _ => ⟨rfl, rfl, (by decide : 4 + 0 ≤ _), (by decide : 46 + 0 ≤ _)⟩)
        dsimp only [Pt.U, Pt.locs, Pt.cells, Pt.slots] at X77 l77 y77 z77 st77 hQ77
        subst l77 y77 z77
        obtain ⟨rfl, N77q, e77⟩ := hQ77
        have N77 := Fr.app N73 N77q
        refine own_pre (A := T77.setTop (mkF m 193 #[.val (.int p1), .val (.int p2), .val (.int p3), .val (.int p4), .val (.int p5), .val (.int (3 : Int32)), .val (.int (0 : Int32)), .val (.ref b60), .val (.int ((((29791 : Int32) + ((961 : Int32) * p2)) + ((31 : Int32) * p3)) + p4))] [(.int ((((29791 : Int32) + ((961 : Int32) * p2)) + ((31 : Int32) * p3)) + p4)), (.int (own_hash (own_put (own_put (own_put (fun _ => (0 : Int32)) (0 : Int32) p2) (1 : Int32) p3) (2 : Int32) p4) (3 : Int32)))])) (fun tt kt => ?_) ?_
        · show Steps p.tables e below (Tj8.setTop (mkF m 12 #[.val (.int p1), .val (.int p2), .val (.int p3), .val (.int p4), .val (.int p5), .val (.int (3 : Int32)), .unset, .unset, .unset] [(.int (p1 &&& (8 : Int32)))])) _
          refine XS.ifYes Xj8.here hx rfl (pc0 := 12) (pc' := 19) rfl (hb hby at_12) rfl ((if0 _ _).trans (teq hc12_59).1) (by decide) (by decide) ?_
          show Steps p.tables e below (Tj8.setTop (mkF m 19 #[.val (.int p1), .val (.int p2), .val (.int p3), .val (.int p4), .val (.int p5), .val (.int (3 : Int32)), .unset, .unset, .unset] [])) _
          refine XS.iconst Xj8.here hx rfl (hb hby at_19) ?_
          show Steps p.tables e below (Tj8.setTop (mkF m 20 #[.val (.int p1), .val (.int p2), .val (.int p3), .val (.int p4), .val (.int p5), .val (.int (3 : Int32)), .unset, .unset, .unset] [(.int (0 : Int32))])) _
          refine XS.istore Xj8.here hx rfl (hb hby at_20) rfl (l' := #[.val (.int p1), .val (.int p2), .val (.int p3), .val (.int p4), .val (.int p5), .val (.int (3 : Int32)), .val (.int (0 : Int32)), .unset, .unset]) rfl ?_
          show Steps p.tables e below (Tj8.setTop (mkF m 22 #[.val (.int p1), .val (.int p2), .val (.int p3), .val (.int p4), .val (.int p5), .val (.int (3 : Int32)), .val (.int (0 : Int32)), .unset, .unset] [])) _
          refine st60 _ ?_
          show Steps p.tables e below (T60.setTop (mkF m 25 #[.val (.int p1), .val (.int p2), .val (.int p3), .val (.int p4), .val (.int p5), .val (.int (3 : Int32)), .val (.int (0 : Int32)), .unset, .unset] [(.ref b60)])) _
          refine XS.dup X60.here hx rfl (hb hby at_25) rfl rfl ?_
          show Steps p.tables e below (T60.setTop (mkF m 26 #[.val (.int p1), .val (.int p2), .val (.int p3), .val (.int p4), .val (.int p5), .val (.int (3 : Int32)), .val (.int (0 : Int32)), .unset, .unset] [(.ref b60), (.ref b60)])) _
          refine XS.iconst X60.here hx rfl (hb hby at_26) ?_
          show Steps p.tables e below (T60.setTop (mkF m 27 #[.val (.int p1), .val (.int p2), .val (.int p3), .val (.int p4), .val (.int p5), .val (.int (3 : Int32)), .val (.int (0 : Int32)), .unset, .unset] [(.int (4 : Int32)), (.ref b60), (.ref b60)])) _
          refine XS.iload X60.here hx rfl (hb hby at_27) rfl ?_
          show Steps p.tables e below (T60.setTop (mkF m 29 #[.val (.int p1), .val (.int p2), .val (.int p3), .val (.int p4), .val (.int p5), .val (.int (3 : Int32)), .val (.int (0 : Int32)), .unset, .unset] [(.int (0 : Int32)), (.int (4 : Int32)), (.ref b60), (.ref b60)])) _
          refine st61.trans ?_
          show Steps p.tables e below (T61.setTop (mkF m 32 #[.val (.int p1), .val (.int p2), .val (.int p3), .val (.int p4), .val (.int p5), .val (.int (3 : Int32)), .val (.int (0 : Int32)), .unset, .unset] [(.ref b60)])) _
          refine XS.astore X61.here hx rfl (hb hby at_32) rfl rfl (l' := #[.val (.int p1), .val (.int p2), .val (.int p3), .val (.int p4), .val (.int p5), .val (.int (3 : Int32)), .val (.int (0 : Int32)), .val (.ref b60), .unset]) rfl ?_
          show Steps p.tables e below (T61.setTop (mkF m 34 #[.val (.int p1), .val (.int p2), .val (.int p3), .val (.int p4), .val (.int p5), .val (.int (3 : Int32)), .val (.int (0 : Int32)), .val (.ref b60), .unset] [])) _
          refine XS.iload X61.here hx rfl (hb hby at_34) rfl ?_
          show Steps p.tables e below (T61.setTop (mkF m 36 #[.val (.int p1), .val (.int p2), .val (.int p3), .val (.int p4), .val (.int p5), .val (.int (3 : Int32)), .val (.int (0 : Int32)), .val (.ref b60), .unset] [(.int (3 : Int32))])) _
          refine XS.iconst X61.here hx rfl (hb hby at_36) ?_
          show Steps p.tables e below (T61.setTop (mkF m 37 #[.val (.int p1), .val (.int p2), .val (.int p3), .val (.int p4), .val (.int p5), .val (.int (3 : Int32)), .val (.int (0 : Int32)), .val (.ref b60), .unset] [(.int (1 : Int32)), (.int (3 : Int32))])) _
          refine XS.icmpNo X61.here hx rfl (hb hby at_37) rfl (flt ((by decide) : ¬ ((3 : Int32) < (1 : Int32)))).1 ?_
          show Steps p.tables e below (T61.setTop (mkF m 40 #[.val (.int p1), .val (.int p2), .val (.int p3), .val (.int p4), .val (.int p5), .val (.int (3 : Int32)), .val (.int (0 : Int32)), .val (.ref b60), .unset] [])) _
          refine XS.aload X61.here hx rfl (hb hby at_40) rfl rfl ?_
          show Steps p.tables e below (T61.setTop (mkF m 42 #[.val (.int p1), .val (.int p2), .val (.int p3), .val (.int p4), .val (.int p5), .val (.int (3 : Int32)), .val (.int (0 : Int32)), .val (.ref b60), .unset] [(.ref b60)])) _
          refine XS.iloadN X61.here hx rfl (hb hby at_42) rfl ?_
          show Steps p.tables e below (T61.setTop (mkF m 43 #[.val (.int p1), .val (.int p2), .val (.int p3), .val (.int p4), .val (.int p5), .val (.int (3 : Int32)), .val (.int (0 : Int32)), .val (.ref b60), .unset] [(.int p2), (.ref b60)])) _
          refine st65.trans ?_
          show Steps p.tables e below (T65.setTop (mkF m 46 #[.val (.int p1), .val (.int p2), .val (.int p3), .val (.int p4), .val (.int p5), .val (.int (3 : Int32)), .val (.int (0 : Int32)), .val (.ref b60), .unset] [])) _
          refine XS.iload X65.here hx rfl (hb hby at_46) rfl ?_
          show Steps p.tables e below (T65.setTop (mkF m 48 #[.val (.int p1), .val (.int p2), .val (.int p3), .val (.int p4), .val (.int p5), .val (.int (3 : Int32)), .val (.int (0 : Int32)), .val (.ref b60), .unset] [(.int (3 : Int32))])) _
          refine XS.iconst X65.here hx rfl (hb hby at_48) ?_
          show Steps p.tables e below (T65.setTop (mkF m 49 #[.val (.int p1), .val (.int p2), .val (.int p3), .val (.int p4), .val (.int p5), .val (.int (3 : Int32)), .val (.int (0 : Int32)), .val (.ref b60), .unset] [(.int (2 : Int32)), (.int (3 : Int32))])) _
          refine XS.icmpNo X65.here hx rfl (hb hby at_49) rfl (flt ((by decide) : ¬ ((3 : Int32) < (2 : Int32)))).1 ?_
          show Steps p.tables e below (T65.setTop (mkF m 52 #[.val (.int p1), .val (.int p2), .val (.int p3), .val (.int p4), .val (.int p5), .val (.int (3 : Int32)), .val (.int (0 : Int32)), .val (.ref b60), .unset] [])) _
          refine XS.aload X65.here hx rfl (hb hby at_52) rfl rfl ?_
          show Steps p.tables e below (T65.setTop (mkF m 54 #[.val (.int p1), .val (.int p2), .val (.int p3), .val (.int p4), .val (.int p5), .val (.int (3 : Int32)), .val (.int (0 : Int32)), .val (.ref b60), .unset] [(.ref b60)])) _
          refine XS.iloadN X65.here hx rfl (hb hby at_54) rfl ?_
          show Steps p.tables e below (T65.setTop (mkF m 55 #[.val (.int p1), .val (.int p2), .val (.int p3), .val (.int p4), .val (.int p5), .val (.int (3 : Int32)), .val (.int (0 : Int32)), .val (.ref b60), .unset] [(.int p3), (.ref b60)])) _
          refine st69.trans ?_
          show Steps p.tables e below (T69.setTop (mkF m 58 #[.val (.int p1), .val (.int p2), .val (.int p3), .val (.int p4), .val (.int p5), .val (.int (3 : Int32)), .val (.int (0 : Int32)), .val (.ref b60), .unset] [])) _
          refine XS.iload X69.here hx rfl (hb hby at_58) rfl ?_
          show Steps p.tables e below (T69.setTop (mkF m 60 #[.val (.int p1), .val (.int p2), .val (.int p3), .val (.int p4), .val (.int p5), .val (.int (3 : Int32)), .val (.int (0 : Int32)), .val (.ref b60), .unset] [(.int (3 : Int32))])) _
          refine XS.iconst X69.here hx rfl (hb hby at_60) ?_
          show Steps p.tables e below (T69.setTop (mkF m 61 #[.val (.int p1), .val (.int p2), .val (.int p3), .val (.int p4), .val (.int p5), .val (.int (3 : Int32)), .val (.int (0 : Int32)), .val (.ref b60), .unset] [(.int (3 : Int32)), (.int (3 : Int32))])) _
          refine XS.icmpNo X69.here hx rfl (hb hby at_61) rfl (flt ((by decide) : ¬ ((3 : Int32) < (3 : Int32)))).1 ?_
          show Steps p.tables e below (T69.setTop (mkF m 64 #[.val (.int p1), .val (.int p2), .val (.int p3), .val (.int p4), .val (.int p5), .val (.int (3 : Int32)), .val (.int (0 : Int32)), .val (.ref b60), .unset] [])) _
          refine XS.aload X69.here hx rfl (hb hby at_64) rfl rfl ?_
          show Steps p.tables e below (T69.setTop (mkF m 66 #[.val (.int p1), .val (.int p2), .val (.int p3), .val (.int p4), .val (.int p5), .val (.int (3 : Int32)), .val (.int (0 : Int32)), .val (.ref b60), .unset] [(.ref b60)])) _
          refine XS.iloadN X69.here hx rfl (hb hby at_66) rfl ?_
          show Steps p.tables e below (T69.setTop (mkF m 67 #[.val (.int p1), .val (.int p2), .val (.int p3), .val (.int p4), .val (.int p5), .val (.int (3 : Int32)), .val (.int (0 : Int32)), .val (.ref b60), .unset] [(.int p4), (.ref b60)])) _
          refine st73.trans ?_
          show Steps p.tables e below (T73.setTop (mkF m 70 #[.val (.int p1), .val (.int p2), .val (.int p3), .val (.int p4), .val (.int p5), .val (.int (3 : Int32)), .val (.int (0 : Int32)), .val (.ref b60), .unset] [])) _
          refine XS.iload X73.here hx rfl (hb hby at_70) rfl ?_
          show Steps p.tables e below (T73.setTop (mkF m 72 #[.val (.int p1), .val (.int p2), .val (.int p3), .val (.int p4), .val (.int p5), .val (.int (3 : Int32)), .val (.int (0 : Int32)), .val (.ref b60), .unset] [(.int (3 : Int32))])) _
          refine XS.iconst X73.here hx rfl (hb hby at_72) ?_
          show Steps p.tables e below (T73.setTop (mkF m 73 #[.val (.int p1), .val (.int p2), .val (.int p3), .val (.int p4), .val (.int p5), .val (.int (3 : Int32)), .val (.int (0 : Int32)), .val (.ref b60), .unset] [(.int (4 : Int32)), (.int (3 : Int32))])) _
          refine XS.icmpYes X73.here hx rfl (pc0 := 73) (pc' := 83) rfl (hb hby at_73) rfl (tlt ((by decide) : (3 : Int32) < (4 : Int32))).1 (by decide) (by decide) ?_
          show Steps p.tables e below (T73.setTop (mkF m 83 #[.val (.int p1), .val (.int p2), .val (.int p3), .val (.int p4), .val (.int p5), .val (.int (3 : Int32)), .val (.int (0 : Int32)), .val (.ref b60), .unset] [])) _
          refine XS.iload X73.here hx rfl (hb hby at_83) rfl ?_
          show Steps p.tables e below (T73.setTop (mkF m 85 #[.val (.int p1), .val (.int p2), .val (.int p3), .val (.int p4), .val (.int p5), .val (.int (3 : Int32)), .val (.int (0 : Int32)), .val (.ref b60), .unset] [(.int (0 : Int32))])) _
          refine XS.ifNo X73.here hx rfl (hb hby at_85) rfl ((if0 _ _).trans (teq ((by decide) : (0 : Int32) = (0 : Int32))).2) ?_
          show Steps p.tables e below (T73.setTop (mkF m 88 #[.val (.int p1), .val (.int p2), .val (.int p3), .val (.int p4), .val (.int p5), .val (.int (3 : Int32)), .val (.int (0 : Int32)), .val (.ref b60), .unset] [])) _
          refine XS.iload X73.here hx rfl (hb hby at_88) rfl ?_
          show Steps p.tables e below (T73.setTop (mkF m 90 #[.val (.int p1), .val (.int p2), .val (.int p3), .val (.int p4), .val (.int p5), .val (.int (3 : Int32)), .val (.int (0 : Int32)), .val (.ref b60), .unset] [(.int (3 : Int32))])) _
          refine XS.ifYes X73.here hx rfl (pc0 := 90) (pc' := 99) rfl (hb hby at_90) rfl ((if0 _ _).trans (feq ((by decide) : ¬ ((3 : Int32) = (0 : Int32)))).2) (by decide) (by decide) ?_
          show Steps p.tables e below (T73.setTop (mkF m 99 #[.val (.int p1), .val (.int p2), .val (.int p3), .val (.int p4), .val (.int p5), .val (.int (3 : Int32)), .val (.int (0 : Int32)), .val (.ref b60), .unset] [])) _
          refine XS.iload X73.here hx rfl (hb hby at_99) rfl ?_
          show Steps p.tables e below (T73.setTop (mkF m 101 #[.val (.int p1), .val (.int p2), .val (.int p3), .val (.int p4), .val (.int p5), .val (.int (3 : Int32)), .val (.int (0 : Int32)), .val (.ref b60), .unset] [(.int (3 : Int32))])) _
          refine XS.iconst X73.here hx rfl (hb hby at_101) ?_
          show Steps p.tables e below (T73.setTop (mkF m 102 #[.val (.int p1), .val (.int p2), .val (.int p3), .val (.int p4), .val (.int p5), .val (.int (3 : Int32)), .val (.int (0 : Int32)), .val (.ref b60), .unset] [(.int (1 : Int32)), (.int (3 : Int32))])) _
          refine XS.icmpYes X73.here hx rfl (pc0 := 102) (pc' := 114) rfl (hb hby at_102) rfl (feq ((by decide) : ¬ ((3 : Int32) = (1 : Int32)))).2 (by decide) (by decide) ?_
          show Steps p.tables e below (T73.setTop (mkF m 114 #[.val (.int p1), .val (.int p2), .val (.int p3), .val (.int p4), .val (.int p5), .val (.int (3 : Int32)), .val (.int (0 : Int32)), .val (.ref b60), .unset] [])) _
          refine XS.iload X73.here hx rfl (hb hby at_114) rfl ?_
          show Steps p.tables e below (T73.setTop (mkF m 116 #[.val (.int p1), .val (.int p2), .val (.int p3), .val (.int p4), .val (.int p5), .val (.int (3 : Int32)), .val (.int (0 : Int32)), .val (.ref b60), .unset] [(.int (3 : Int32))])) _
          refine XS.iconst X73.here hx rfl (hb hby at_116) ?_
          show Steps p.tables e below (T73.setTop (mkF m 117 #[.val (.int p1), .val (.int p2), .val (.int p3), .val (.int p4), .val (.int p5), .val (.int (3 : Int32)), .val (.int (0 : Int32)), .val (.ref b60), .unset] [(.int (2 : Int32)), (.int (3 : Int32))])) _
          refine XS.icmpYes X73.here hx rfl (pc0 := 117) (pc' := 135) rfl (hb hby at_117) rfl (feq ((by decide) : ¬ ((3 : Int32) = (2 : Int32)))).2 (by decide) (by decide) ?_
          show Steps p.tables e below (T73.setTop (mkF m 135 #[.val (.int p1), .val (.int p2), .val (.int p3), .val (.int p4), .val (.int p5), .val (.int (3 : Int32)), .val (.int (0 : Int32)), .val (.ref b60), .unset] [])) _
          refine XS.iload X73.here hx rfl (hb hby at_135) rfl ?_
          show Steps p.tables e below (T73.setTop (mkF m 137 #[.val (.int p1), .val (.int p2), .val (.int p3), .val (.int p4), .val (.int p5), .val (.int (3 : Int32)), .val (.int (0 : Int32)), .val (.ref b60), .unset] [(.int (3 : Int32))])) _
          refine XS.iconst X73.here hx rfl (hb hby at_137) ?_
          show Steps p.tables e below (T73.setTop (mkF m 138 #[.val (.int p1), .val (.int p2), .val (.int p3), .val (.int p4), .val (.int p5), .val (.int (3 : Int32)), .val (.int (0 : Int32)), .val (.ref b60), .unset] [(.int (3 : Int32)), (.int (3 : Int32))])) _
          refine XS.icmpNo X73.here hx rfl (hb hby at_138) rfl (teq ((by decide) : (3 : Int32) = (3 : Int32))).2 ?_
          show Steps p.tables e below (T73.setTop (mkF m 141 #[.val (.int p1), .val (.int p2), .val (.int p3), .val (.int p4), .val (.int p5), .val (.int (3 : Int32)), .val (.int (0 : Int32)), .val (.ref b60), .unset] [])) _
          refine XS.sipush X73.here hx rfl (hb hby at_141) ?_
          show Steps p.tables e below (T73.setTop (mkF m 144 #[.val (.int p1), .val (.int p2), .val (.int p3), .val (.int p4), .val (.int p5), .val (.int (3 : Int32)), .val (.int (0 : Int32)), .val (.ref b60), .unset] [(.int (29791 : Int32))])) _
          refine XS.sipush X73.here hx rfl (hb hby at_144) ?_
          show Steps p.tables e below (T73.setTop (mkF m 147 #[.val (.int p1), .val (.int p2), .val (.int p3), .val (.int p4), .val (.int p5), .val (.int (3 : Int32)), .val (.int (0 : Int32)), .val (.ref b60), .unset] [(.int (961 : Int32)), (.int (29791 : Int32))])) _
          refine XS.iloadN X73.here hx rfl (hb hby at_147) rfl ?_
          show Steps p.tables e below (T73.setTop (mkF m 148 #[.val (.int p1), .val (.int p2), .val (.int p3), .val (.int p4), .val (.int p5), .val (.int (3 : Int32)), .val (.int (0 : Int32)), .val (.ref b60), .unset] [(.int p2), (.int (961 : Int32)), (.int (29791 : Int32))])) _
          refine XS.imul X73.here hx rfl (hb hby at_148) rfl ?_
          show Steps p.tables e below (T73.setTop (mkF m 149 #[.val (.int p1), .val (.int p2), .val (.int p3), .val (.int p4), .val (.int p5), .val (.int (3 : Int32)), .val (.int (0 : Int32)), .val (.ref b60), .unset] [(.int ((961 : Int32) * p2)), (.int (29791 : Int32))])) _
          refine XS.iadd X73.here hx rfl (hb hby at_149) rfl ?_
          show Steps p.tables e below (T73.setTop (mkF m 150 #[.val (.int p1), .val (.int p2), .val (.int p3), .val (.int p4), .val (.int p5), .val (.int (3 : Int32)), .val (.int (0 : Int32)), .val (.ref b60), .unset] [(.int ((29791 : Int32) + ((961 : Int32) * p2)))])) _
          refine XS.bipush X73.here hx rfl (hb hby at_150) ?_
          show Steps p.tables e below (T73.setTop (mkF m 152 #[.val (.int p1), .val (.int p2), .val (.int p3), .val (.int p4), .val (.int p5), .val (.int (3 : Int32)), .val (.int (0 : Int32)), .val (.ref b60), .unset] [(.int (31 : Int32)), (.int ((29791 : Int32) + ((961 : Int32) * p2)))])) _
          refine XS.iloadN X73.here hx rfl (hb hby at_152) rfl ?_
          show Steps p.tables e below (T73.setTop (mkF m 153 #[.val (.int p1), .val (.int p2), .val (.int p3), .val (.int p4), .val (.int p5), .val (.int (3 : Int32)), .val (.int (0 : Int32)), .val (.ref b60), .unset] [(.int p3), (.int (31 : Int32)), (.int ((29791 : Int32) + ((961 : Int32) * p2)))])) _
          refine XS.imul X73.here hx rfl (hb hby at_153) rfl ?_
          show Steps p.tables e below (T73.setTop (mkF m 154 #[.val (.int p1), .val (.int p2), .val (.int p3), .val (.int p4), .val (.int p5), .val (.int (3 : Int32)), .val (.int (0 : Int32)), .val (.ref b60), .unset] [(.int ((31 : Int32) * p3)), (.int ((29791 : Int32) + ((961 : Int32) * p2)))])) _
          refine XS.iadd X73.here hx rfl (hb hby at_154) rfl ?_
          show Steps p.tables e below (T73.setTop (mkF m 155 #[.val (.int p1), .val (.int p2), .val (.int p3), .val (.int p4), .val (.int p5), .val (.int (3 : Int32)), .val (.int (0 : Int32)), .val (.ref b60), .unset] [(.int (((29791 : Int32) + ((961 : Int32) * p2)) + ((31 : Int32) * p3)))])) _
          refine XS.iloadN X73.here hx rfl (hb hby at_155) rfl ?_
          show Steps p.tables e below (T73.setTop (mkF m 156 #[.val (.int p1), .val (.int p2), .val (.int p3), .val (.int p4), .val (.int p5), .val (.int (3 : Int32)), .val (.int (0 : Int32)), .val (.ref b60), .unset] [(.int p4), (.int (((29791 : Int32) + ((961 : Int32) * p2)) + ((31 : Int32) * p3)))])) _
          refine XS.iadd X73.here hx rfl (hb hby at_156) rfl ?_
          show Steps p.tables e below (T73.setTop (mkF m 157 #[.val (.int p1), .val (.int p2), .val (.int p3), .val (.int p4), .val (.int p5), .val (.int (3 : Int32)), .val (.int (0 : Int32)), .val (.ref b60), .unset] [(.int ((((29791 : Int32) + ((961 : Int32) * p2)) + ((31 : Int32) * p3)) + p4))])) _
          refine XS.istore X73.here hx rfl (hb hby at_157) rfl (l' := #[.val (.int p1), .val (.int p2), .val (.int p3), .val (.int p4), .val (.int p5), .val (.int (3 : Int32)), .val (.int (0 : Int32)), .val (.ref b60), .val (.int ((((29791 : Int32) + ((961 : Int32) * p2)) + ((31 : Int32) * p3)) + p4))]) rfl ?_
          show Steps p.tables e below (T73.setTop (mkF m 159 #[.val (.int p1), .val (.int p2), .val (.int p3), .val (.int p4), .val (.int p5), .val (.int (3 : Int32)), .val (.int (0 : Int32)), .val (.ref b60), .val (.int ((((29791 : Int32) + ((961 : Int32) * p2)) + ((31 : Int32) * p3)) + p4))] [])) _
          refine XS.goto X73.here hx rfl (pc0 := 159) (pc' := 186) rfl (hb hby at_159) (by decide) (by decide) ?_
          show Steps p.tables e below (T73.setTop (mkF m 186 #[.val (.int p1), .val (.int p2), .val (.int p3), .val (.int p4), .val (.int p5), .val (.int (3 : Int32)), .val (.int (0 : Int32)), .val (.ref b60), .val (.int ((((29791 : Int32) + ((961 : Int32) * p2)) + ((31 : Int32) * p3)) + p4))] [])) _
          refine XS.aload X73.here hx rfl (hb hby at_186) rfl rfl ?_
          show Steps p.tables e below (T73.setTop (mkF m 188 #[.val (.int p1), .val (.int p2), .val (.int p3), .val (.int p4), .val (.int p5), .val (.int (3 : Int32)), .val (.int (0 : Int32)), .val (.ref b60), .val (.int ((((29791 : Int32) + ((961 : Int32) * p2)) + ((31 : Int32) * p3)) + p4))] [(.ref b60)])) _
          refine st77.trans ?_
          show Steps p.tables e below (T77.setTop (mkF m 191 #[.val (.int p1), .val (.int p2), .val (.int p3), .val (.int p4), .val (.int p5), .val (.int (3 : Int32)), .val (.int (0 : Int32)), .val (.ref b60), .val (.int ((((29791 : Int32) + ((961 : Int32) * p2)) + ((31 : Int32) * p3)) + p4))] [(.int (own_hash (own_put (own_put (own_put (fun _ => (0 : Int32)) (0 : Int32) p2) (1 : Int32) p3) (2 : Int32) p4) (3 : Int32)))])) _
          refine XS.iload X77.here hx rfl (hb hby at_191) rfl ?_
          exact kt
        show own_End p e below s (T77.setTop (mkF m 193 #[.val (.int p1), .val (.int p2), .val (.int p3), .val (.int p4), .val (.int p5), .val (.int (3 : Int32)), .val (.int (0 : Int32)), .val (.ref b60), .val (.int ((((29791 : Int32) + ((961 : Int32) * p2)) + ((31 : Int32) * p3)) + p4))] [(.int ((((29791 : Int32) + ((961 : Int32) * p2)) + ((31 : Int32) * p3)) + p4)), (.int (own_hash (own_put (own_put (own_put (fun _ => (0 : Int32)) (0 : Int32) p2) (1 : Int32) p3) (2 : Int32) p4) (3 : Int32)))])) (Q0 Z p1 p2 p3 p4 p5 h0 n0) room_1.cells room_1.slots
        by_cases hc193_78 : (own_hash (own_put (own_put (own_put (fun _ => (0 : Int32)) (0 : Int32) p2) (1 : Int32) p3) (2 : Int32) p4) (3 : Int32)) = ((((29791 : Int32) + ((961 : Int32) * p2)) + ((31 : Int32) * p3)) + p4)
        · refine own_pre (A := T77.setTop (mkF m 201 #[.val (.int p1), .val (.int p2), .val (.int p3), .val (.int p4), .val (.int p5), .val (.int (3 : Int32)), .val (.int (0 : Int32)), .val (.ref b60), .val (.int ((((29791 : Int32) + ((961 : Int32) * p2)) + ((31 : Int32) * p3)) + p4))] [(.int (1 : Int32))])) (fun tt kt => ?_) ?_
          · show Steps p.tables e below (T77.setTop (mkF m 193 #[.val (.int p1), .val (.int p2), .val (.int p3), .val (.int p4), .val (.int p5), .val (.int (3 : Int32)), .val (.int (0 : Int32)), .val (.ref b60), .val (.int ((((29791 : Int32) + ((961 : Int32) * p2)) + ((31 : Int32) * p3)) + p4))] [(.int ((((29791 : Int32) + ((961 : Int32) * p2)) + ((31 : Int32) * p3)) + p4)), (.int (own_hash (own_put (own_put (own_put (fun _ => (0 : Int32)) (0 : Int32) p2) (1 : Int32) p3) (2 : Int32) p4) (3 : Int32)))])) _
            refine XS.icmpNo X77.here hx rfl (hb hby at_193) rfl (teq hc193_78).2 ?_
            show Steps p.tables e below (T77.setTop (mkF m 196 #[.val (.int p1), .val (.int p2), .val (.int p3), .val (.int p4), .val (.int p5), .val (.int (3 : Int32)), .val (.int (0 : Int32)), .val (.ref b60), .val (.int ((((29791 : Int32) + ((961 : Int32) * p2)) + ((31 : Int32) * p3)) + p4))] [])) _
            refine XS.iconst X77.here hx rfl (hb hby at_196) ?_
            show Steps p.tables e below (T77.setTop (mkF m 197 #[.val (.int p1), .val (.int p2), .val (.int p3), .val (.int p4), .val (.int p5), .val (.int (3 : Int32)), .val (.int (0 : Int32)), .val (.ref b60), .val (.int ((((29791 : Int32) + ((961 : Int32) * p2)) + ((31 : Int32) * p3)) + p4))] [(.int (1 : Int32))])) _
            refine XS.goto X77.here hx rfl (pc0 := 197) (pc' := 201) rfl (hb hby at_197) (by decide) (by decide) ?_
            exact kt
          show own_End p e below s (T77.setTop (mkF m 201 #[.val (.int p1), .val (.int p2), .val (.int p3), .val (.int p4), .val (.int p5), .val (.int (3 : Int32)), .val (.int (0 : Int32)), .val (.ref b60), .val (.int ((((29791 : Int32) + ((961 : Int32) * p2)) + ((31 : Int32) * p3)) + p4))] [(.int (1 : Int32))])) (Q0 Z p1 p2 p3 p4 p5 h0 n0) room_1.cells room_1.slots
          have hv : (own_law p1 p2 p3 p4 p5) = (1 : Int32) := hj.trans (by simp only [own_law_8, if_neg hs1_0, if_neg hs1_1, if_neg hs1_2, if_pos hs1_3, if_pos hc12_59, if_pos hc193_78])
          obtain ⟨fs, hr, hrun, hended, hW, hsame⟩ := X77.leave (v := some (.int (1 : Int32))) (fun h => by rw [Bd.returns] at h; cases h)
          refine ⟨_, _, ?_, hrun, hended, _, _, rfl, ?_, ⟨_, rfl⟩, hW, hsame.mono (by decide) (by decide)⟩
          · exact retN X77 hx (t := .boolean) Bd.returns (by simp) (hb hby at_201) hr
          · show Q0 Z p1 p2 p3 p4 p5 h0 n0 _ T77.heap _
            rw [e77]
            exact ⟨(congrArg (fun z => some (Value.int z)) hv.symm), N77⟩
        · refine own_pre (A := T77.setTop (mkF m 201 #[.val (.int p1), .val (.int p2), .val (.int p3), .val (.int p4), .val (.int p5), .val (.int (3 : Int32)), .val (.int (0 : Int32)), .val (.ref b60), .val (.int ((((29791 : Int32) + ((961 : Int32) * p2)) + ((31 : Int32) * p3)) + p4))] [(.int (0 : Int32))])) (fun tt kt => ?_) ?_
          · show Steps p.tables e below (T77.setTop (mkF m 193 #[.val (.int p1), .val (.int p2), .val (.int p3), .val (.int p4), .val (.int p5), .val (.int (3 : Int32)), .val (.int (0 : Int32)), .val (.ref b60), .val (.int ((((29791 : Int32) + ((961 : Int32) * p2)) + ((31 : Int32) * p3)) + p4))] [(.int ((((29791 : Int32) + ((961 : Int32) * p2)) + ((31 : Int32) * p3)) + p4)), (.int (own_hash (own_put (own_put (own_put (fun _ => (0 : Int32)) (0 : Int32) p2) (1 : Int32) p3) (2 : Int32) p4) (3 : Int32)))])) _
            refine XS.icmpYes X77.here hx rfl (pc0 := 193) (pc' := 200) rfl (hb hby at_193) rfl (feq hc193_78).2 (by decide) (by decide) ?_
            show Steps p.tables e below (T77.setTop (mkF m 200 #[.val (.int p1), .val (.int p2), .val (.int p3), .val (.int p4), .val (.int p5), .val (.int (3 : Int32)), .val (.int (0 : Int32)), .val (.ref b60), .val (.int ((((29791 : Int32) + ((961 : Int32) * p2)) + ((31 : Int32) * p3)) + p4))] [])) _
            refine XS.iconst X77.here hx rfl (hb hby at_200) ?_
            exact kt
          show own_End p e below s (T77.setTop (mkF m 201 #[.val (.int p1), .val (.int p2), .val (.int p3), .val (.int p4), .val (.int p5), .val (.int (3 : Int32)), .val (.int (0 : Int32)), .val (.ref b60), .val (.int ((((29791 : Int32) + ((961 : Int32) * p2)) + ((31 : Int32) * p3)) + p4))] [(.int (0 : Int32))])) (Q0 Z p1 p2 p3 p4 p5 h0 n0) room_1.cells room_1.slots
          have hv : (own_law p1 p2 p3 p4 p5) = (0 : Int32) := hj.trans (by simp only [own_law_8, if_neg hs1_0, if_neg hs1_1, if_neg hs1_2, if_pos hs1_3, if_pos hc12_59, if_neg hc193_78])
          obtain ⟨fs, hr, hrun, hended, hW, hsame⟩ := X77.leave (v := some (.int (0 : Int32))) (fun h => by rw [Bd.returns] at h; cases h)
          refine ⟨_, _, ?_, hrun, hended, _, _, rfl, ?_, ⟨_, rfl⟩, hW, hsame.mono (by decide) (by decide)⟩
          · exact retN X77 hx (t := .boolean) Bd.returns (by simp) (hb hby at_201) hr
          · show Q0 Z p1 p2 p3 p4 p5 h0 n0 _ T77.heap _
            rw [e77]
            exact ⟨(congrArg (fun z => some (Value.int z)) hv.symm), N77⟩
      · obtain ⟨T79, h79, X79, e79, E79, A79, D79, -, st79⟩ := newO Xj8 hx hZ hown (hw _ (List.mem_of_getElem? (i := 0) rfl)) (hw _ (List.mem_of_getElem? (i := 1) rfl)) (hw _ (List.mem_of_getElem? (i := 2) rfl)) ej8 (g := (mkF m 22 #[.val (.int p1), .val (.int p2), .val (.int p3), .val (.int p4), .val (.int p5), .val (.int (3 : Int32)), .val (.int (1 : Int32)), .unset, .unset] [])) rfl (hb hby at_22) (by decide) (by decide)
        obtain ⟨b79, g79⟩ : ∃ z, z = h0.size := ⟨_, rfl⟩
        rw [← g79] at A79 D79 st79
        have g_b79 : n0 ≤ b79 := Nat.le_trans Z0 (Nat.le_of_eq g79.symm)
        have sz_b79 : h0.size ≤ b79 := Nat.le_trans (show Keep h0 h0 [] from (Keep.refl h0 _)).1 (Nat.le_of_eq g79.symm)
        have K79 : Keep h0 h79 [] := Keep.ext (Keep.refl h0 _) E79
        have Z79 : n0 ≤ h79.size := Nat.le_trans Z0 E79.1
        have F_stamp_b79 : Fld Z h79 b79 "com/example/libfacet/libfacet/regex/StateSet" "stamp" "I" (.int (0 : Int32)) := D79 (Or.inl (hw _ (List.mem_of_getElem? (i := 10) rfl))) (ty := .int) (by decide)
        have F_stack_b79 : Fld Z h79 b79 "com/example/libfacet/libfacet/regex/StateSet" "stack" "[I" .null := D79 (Or.inl (hw _ (List.mem_of_getElem? (i := 13) rfl))) (ty := (.array .int)) (by decide)
        have F_instructions_b79 : Fld Z h79 b79 "com/example/libfacet/libfacet/regex/StateSet" "instructions" "I" (.int (0 : Int32)) := D79 (Or.inr (hw _ (List.mem_of_getElem? (i := 15) rfl))) (ty := .int) (by decide)
        have F_members_b79 : Fld Z h79 b79 "com/example/libfacet/libfacet/regex/StateSet" "members" "[I" .null := D79 (Or.inl (hw _ (List.mem_of_getElem? (i := 17) rfl))) (ty := (.array .int)) (by decide)
        have F_marks_b79 : Fld Z h79 b79 "com/example/libfacet/libfacet/regex/StateSet" "marks" "[C" .null := D79 (Or.inr (hw _ (List.mem_of_getElem? (i := 20) rfl))) (ty := (.array .char)) (by decide)
        have F_markBits_b79 : Fld Z h79 b79 "com/example/libfacet/libfacet/regex/StateSet" "markBits" "[J" .null := D79 (Or.inr (hw _ (List.mem_of_getElem? (i := 22) rfl))) (ty := (.array .long)) (by decide)
        have F_marked_b79 : Fld Z h79 b79 "com/example/libfacet/libfacet/regex/StateSet" "marked" "[I" .null := D79 (Or.inl (hw _ (List.mem_of_getElem? (i := 24) rfl))) (ty := (.array .int)) (by decide)
        have F_size_b79 : Fld Z h79 b79 "com/example/libfacet/libfacet/regex/StateSet" "size" "I" (.int (0 : Int32)) := D79 (Or.inl (hw _ (List.mem_of_getElem? (i := 31) rfl))) (ty := .int) (by decide)
        obtain ⟨_, _, ⟨T80, L80, k80, n80⟩, -, X80, ⟨Lc80, hQ80, l80, y80, z80⟩, st80⟩ := X79.specialBack hx (y := (⟨"com/example/libfacet/libfacet/regex/StateSet", "<init>", "(IZ)V"⟩ : MethodName)) rfl hown (mvT hZ (hw _ (List.mem_of_getElem? (i := 3) rfl))) (mvT hZ (hw _ (List.mem_of_getElem? (i := 4) rfl))) (mvT hZ (hw _ (List.mem_of_getElem? (i := 5) rfl))) (by decide) (backOf (W := 1) (rm1L l Z a0 hw [] b79 (0 : Int32) (0 : Int32) (0 : Int32) h79 n0 Z79 ⟨A79, F_stamp_b79, F_stack_b79, F_instructions_b79, F_members_b79, F_marks_b79, F_markBits_b79, F_marked_b79, F_size_b79⟩ g_b79) hZ (hw _ (List.mem_of_getElem? (i := 5) rfl)) (hw _ (List.mem_of_getElem? (i := 2) rfl)) (by decide) (by decide)) (g := (mkF m 29 #[.val (.int p1), .val (.int p2), .val (.int p3), .val (.int p4), .val (.int p5), .val (.int (3 : Int32)), .val (.int (1 : Int32)), .unset, .unset] [(.int (1 : Int32)), (.int (4 : Int32)), (.ref b79), (.ref b79)])) rfl (by rw [hml]; rfl) (Steps.refl _) (a := b79) (argsL := [(.int (4 : Int32)), (.int (1 : Int32))]) (rest := [(.ref b79)]) (lenOf pd_0_0 rfl) rfl (by show 2 * 0 + _ ≤ _; exact Nat.le_of_eq rfl) (hb hby at_29) (fun _ _ => ⟨rfl, e79, (by decide : 1 + 3 ≤ _), (by decide : 10 + 33 ≤ _)⟩)
        dsimp only [Pt.U, Pt.locs, Pt.cells, Pt.slots] at X80 l80 y80 z80 st80 hQ80
        subst l80 y80 z80
        obtain ⟨rfl, N80q, Kq80, O80_0⟩ := hQ80
        have N80 := Fr.app Nj8 N80q
        have fE_b79_x80 := (A79.keep Kq80)
        have K80 : Keep h0 T80.heap [] := Keep.trans K79 Kq80 (allS (Or.inr sz_b79) all0)
        have Z80 : n0 ≤ T80.heap.size := Nat.le_trans Z79 Kq80.1
        obtain ⟨E_b79_81, F_members_b79_82, F_size_b79_83⟩ := O80_0
        obtain ⟨cq84, kq84, q84a, q84b, q84c⟩ := isOf hZ rfl E_b79_81
        obtain ⟨_, _, ⟨T84, L84, k84, n84⟩, -, X84, ⟨Lc84, hQ84, l84, y84, z84⟩, st84⟩ := X80.virtualBack hx (y := (⟨"com/example/libfacet/libfacet/regex/StateSet", "add", "(I)V"⟩ : MethodName)) (z := (⟨"com/example/libfacet/libfacet/regex/StateSet", "add", "(I)V"⟩ : MethodName)) hown (mvT hZ (hw _ (List.mem_of_getElem? (i := 32) rfl))) (mvT hZ (hw _ (List.mem_of_getElem? (i := 33) rfl))) (notFace_of_selects (args := #[]) (mvT hZ (hw _ (List.mem_of_getElem? (i := 35) rfl)))) (mvT hZ (hw _ (List.mem_of_getElem? (i := 35) rfl))) (mvT hZ (hw _ (List.mem_of_getElem? (i := 34) rfl))) (by decide) (backOf (W := 0) (rm4L l Z a0 hw [] b79 p2 (0 : Int32) T80.heap n0 Z80 ⟨E_b79_81, F_members_b79_82, F_size_b79_83⟩) hZ (hw _ (List.mem_of_getElem? (i := 36) rfl)) (hw _ (List.mem_of_getElem? (i := 2) rfl)) (by decide) (by decide)) q84a q84c (g := (mkF m 43 #[.val (.int p1), .val (.int p2), .val (.int p3), .val (.int p4), .val (.int p5), .val (.int (3 : Int32)), .val (.int (1 : Int32)), .val (.ref b79), .unset] [(.int p2), (.ref b79)])) rfl (by rw [hml]; rfl) (Steps.refl _) (argsL := [(.int p2)]) (rest := []) (lenOf pd_0_2 rfl) rfl (by show 2 * 0 + _ ≤ _; exact Nat.le_of_eq rfl) (hb hby at_43) (fun _ _ => ⟨rfl, rfl, (by decide : 4 + 0 ≤ _), (by decide : 43 + 0 ≤ _)⟩)
        dsimp only [Pt.U, Pt.locs, Pt.cells, Pt.slots] at X84 l84 y84 z84 st84 hQ84
        subst l84 y84 z84
        obtain ⟨rfl, N84q, e84⟩ := hQ84
        have N84 := Fr.app N80 N84q
        obtain ⟨cq85, kq85, q85a, q85b, q85c⟩ := isOf hZ e84 E_b79_81
        obtain ⟨_, _, ⟨T85, L85, k85, n85⟩, -, X85, ⟨Lc85, hQ85, l85, y85, z85⟩, st85⟩ := X84.virtualBack hx (y := (⟨"com/example/libfacet/libfacet/regex/StateSet", "add", "(I)V"⟩ : MethodName)) (z := (⟨"com/example/libfacet/libfacet/regex/StateSet", "add", "(I)V"⟩ : MethodName)) hown (mvT hZ (hw _ (List.mem_of_getElem? (i := 32) rfl))) (mvT hZ (hw _ (List.mem_of_getElem? (i := 33) rfl))) (notFace_of_selects (args := #[]) (mvT hZ (hw _ (List.mem_of_getElem? (i := 35) rfl)))) (mvT hZ (hw _ (List.mem_of_getElem? (i := 35) rfl))) (mvT hZ (hw _ (List.mem_of_getElem? (i := 34) rfl))) (by decide) (backOf (W := 0) (rm4L l Z a0 hw [] b79 p3 (0 : Int32) T80.heap n0 Z80 ⟨E_b79_81, F_members_b79_82, F_size_b79_83⟩) hZ (hw _ (List.mem_of_getElem? (i := 36) rfl)) (hw _ (List.mem_of_getElem? (i := 2) rfl)) (by decide) (by decide)) q85a q85c (g := (mkF m 55 #[.val (.int p1), .val (.int p2), .val (.int p3), .val (.int p4), .val (.int p5), .val (.int (3 : Int32)), .val (.int (1 : Int32)), .val (.ref b79), .unset] [(.int p3), (.ref b79)])) rfl (by rw [hml]; rfl) (Steps.refl _) (argsL := [(.int p3)]) (rest := []) (lenOf pd_0_2 rfl) rfl (by show 2 * 0 + _ ≤ _; exact Nat.le_of_eq rfl) (hb hby at_55) (fun _ _ => ⟨rfl, e84, (by decide : 4 + 0 ≤ _), (by decide : 43 + 0 ≤ _)⟩)
        dsimp only [Pt.U, Pt.locs, Pt.cells, Pt.slots] at X85 l85 y85 z85 st85 hQ85
        subst l85 y85 z85
        obtain ⟨rfl, N85q, e85⟩ := hQ85
        have N85 := Fr.app N84 N85q
        obtain ⟨cq86, kq86, q86a, q86b, q86c⟩ := isOf hZ e85 E_b79_81
        obtain ⟨_, _, ⟨T86, L86, k86, n86⟩, -, X86, ⟨Lc86, hQ86, l86, y86, z86⟩, st86⟩ := X85.virtualBack hx (y := (⟨"com/example/libfacet/libfacet/regex/StateSet", "add", "(I)V"⟩ : MethodName)) (z := (⟨"com/example/libfacet/libfacet/regex/StateSet", "add", "(I)V"⟩ : MethodName)) hown (mvT hZ (hw _ (List.mem_of_getElem? (i := 32) rfl))) (mvT hZ (hw _ (List.mem_of_getElem? (i := 33) rfl))) (notFace_of_selects (args := #[]) (mvT hZ (hw _ (List.mem_of_getElem? (i := 35) rfl)))) (mvT hZ (hw _ (List.mem_of_getElem? (i := 35) rfl))) (mvT hZ (hw _ (List.mem_of_getElem? (i := 34) rfl))) (by decide) (backOf (W := 0) (rm4L l Z a0 hw [] b79 p4 (0 : Int32) T80.heap n0 Z80 ⟨E_b79_81, F_members_b79_82, F_size_b79_83⟩) hZ (hw _ (List.mem_of_getElem? (i := 36) rfl)) (hw _ (List.mem_of_getElem? (i := 2) rfl)) (by decide) (by decide)) q86a q86c (g := (mkF m 67 #[.val (.int p1), .val (.int p2), .val (.int p3), .val (.int p4), .val (.int p5), .val (.int (3 : Int32)), .val (.int (1 : Int32)), .val (.ref b79), .unset] [(.int p4), (.ref b79)])) rfl (by rw [hml]; rfl) (Steps.refl _) (argsL := [(.int p4)]) (rest := []) (lenOf pd_0_2 rfl) rfl (by show 2 * 0 + _ ≤ _; exact Nat.le_of_eq rfl) (hb hby at_67) (fun _ _ => ⟨rfl, e85, (by decide : 4 + 0 ≤ _), (by decide : 43 + 0 ≤ _)⟩)
        dsimp only [Pt.U, Pt.locs, Pt.cells, Pt.slots] at X86 l86 y86 z86 st86 hQ86
        subst l86 y86 z86
        obtain ⟨rfl, N86q, e86⟩ := hQ86
        have N86 := Fr.app N85 N86q
        obtain ⟨cq87, kq87, q87a, q87b, q87c⟩ := isOf hZ e86 E_b79_81
        obtain ⟨_, _, ⟨T87, L87, k87, n87⟩, -, X87, ⟨Lc87, hQ87, l87, y87, z87⟩, st87⟩ := X86.virtualBack hx (y := (⟨"com/example/libfacet/libfacet/regex/StateSet", "membersHash", "()I"⟩ : MethodName)) (z := (⟨"com/example/libfacet/libfacet/regex/StateSet", "membersHash", "()I"⟩ : MethodName)) hown (mvT hZ (hw _ (List.mem_of_getElem? (i := 25) rfl))) (mvT hZ (hw _ (List.mem_of_getElem? (i := 26) rfl))) (notFace_of_selects (args := #[]) (mvT hZ (hw _ (List.mem_of_getElem? (i := 28) rfl)))) (mvT hZ (hw _ (List.mem_of_getElem? (i := 28) rfl))) (mvT hZ (hw _ (List.mem_of_getElem? (i := 27) rfl))) (by decide) (backOf (W := 0) (rm3L l Z a0 hw [] b79  T80.heap n0 Z80 ⟨E_b79_81, F_members_b79_82, F_size_b79_83⟩) hZ (hw _ (List.mem_of_getElem? (i := 29) rfl)) (hw _ (List.mem_of_getElem? (i := 2) rfl)) (by decide) (by decide)) q87a q87c (g := (mkF m 188 #[.val (.int p1), .val (.int p2), .val (.int p3), .val (.int p4), .val (.int p5), .val (.int (3 : Int32)), .val (.int (1 : Int32)), .val (.ref b79), .val (.int (1 : Int32))] [(.ref b79)])) rfl (by rw [hml]; rfl) (Steps.refl _) (argsL := []) (rest := []) (lenOf pd_0_1 rfl) rfl (by show 2 * 0 + _ ≤ _; exact Nat.le_of_eq rfl) (hb hby at_188) (fun _ _ => ⟨rfl, e86, (by decide : 4 + 0 ≤ _), (by decide : 43 + 0 ≤ _)⟩)
        dsimp only [Pt.U, Pt.locs, Pt.cells, Pt.slots] at X87 l87 y87 z87 st87 hQ87
        subst l87 y87 z87
        obtain ⟨rfl, N87q, e87⟩ := hQ87
        have N87 := Fr.app N86 N87q
        refine own_pre (A := T87.setTop (mkF m 201 #[.val (.int p1), .val (.int p2), .val (.int p3), .val (.int p4), .val (.int p5), .val (.int (3 : Int32)), .val (.int (1 : Int32)), .val (.ref b79), .val (.int (1 : Int32))] [(.int (1 : Int32))])) (fun tt kt => ?_) ?_
        · show Steps p.tables e below (Tj8.setTop (mkF m 12 #[.val (.int p1), .val (.int p2), .val (.int p3), .val (.int p4), .val (.int p5), .val (.int (3 : Int32)), .unset, .unset, .unset] [(.int (p1 &&& (8 : Int32)))])) _
          refine XS.ifNo Xj8.here hx rfl (hb hby at_12) rfl ((if0 _ _).trans (feq hc12_59).1) ?_
          show Steps p.tables e below (Tj8.setTop (mkF m 15 #[.val (.int p1), .val (.int p2), .val (.int p3), .val (.int p4), .val (.int p5), .val (.int (3 : Int32)), .unset, .unset, .unset] [])) _
          refine XS.iconst Xj8.here hx rfl (hb hby at_15) ?_
          show Steps p.tables e below (Tj8.setTop (mkF m 16 #[.val (.int p1), .val (.int p2), .val (.int p3), .val (.int p4), .val (.int p5), .val (.int (3 : Int32)), .unset, .unset, .unset] [(.int (1 : Int32))])) _
          refine XS.goto Xj8.here hx rfl (pc0 := 16) (pc' := 20) rfl (hb hby at_16) (by decide) (by decide) ?_
          show Steps p.tables e below (Tj8.setTop (mkF m 20 #[.val (.int p1), .val (.int p2), .val (.int p3), .val (.int p4), .val (.int p5), .val (.int (3 : Int32)), .unset, .unset, .unset] [(.int (1 : Int32))])) _
          refine XS.istore Xj8.here hx rfl (hb hby at_20) rfl (l' := #[.val (.int p1), .val (.int p2), .val (.int p3), .val (.int p4), .val (.int p5), .val (.int (3 : Int32)), .val (.int (1 : Int32)), .unset, .unset]) rfl ?_
          show Steps p.tables e below (Tj8.setTop (mkF m 22 #[.val (.int p1), .val (.int p2), .val (.int p3), .val (.int p4), .val (.int p5), .val (.int (3 : Int32)), .val (.int (1 : Int32)), .unset, .unset] [])) _
          refine st79 _ ?_
          show Steps p.tables e below (T79.setTop (mkF m 25 #[.val (.int p1), .val (.int p2), .val (.int p3), .val (.int p4), .val (.int p5), .val (.int (3 : Int32)), .val (.int (1 : Int32)), .unset, .unset] [(.ref b79)])) _
          refine XS.dup X79.here hx rfl (hb hby at_25) rfl rfl ?_
          show Steps p.tables e below (T79.setTop (mkF m 26 #[.val (.int p1), .val (.int p2), .val (.int p3), .val (.int p4), .val (.int p5), .val (.int (3 : Int32)), .val (.int (1 : Int32)), .unset, .unset] [(.ref b79), (.ref b79)])) _
          refine XS.iconst X79.here hx rfl (hb hby at_26) ?_
          show Steps p.tables e below (T79.setTop (mkF m 27 #[.val (.int p1), .val (.int p2), .val (.int p3), .val (.int p4), .val (.int p5), .val (.int (3 : Int32)), .val (.int (1 : Int32)), .unset, .unset] [(.int (4 : Int32)), (.ref b79), (.ref b79)])) _
          refine XS.iload X79.here hx rfl (hb hby at_27) rfl ?_
          show Steps p.tables e below (T79.setTop (mkF m 29 #[.val (.int p1), .val (.int p2), .val (.int p3), .val (.int p4), .val (.int p5), .val (.int (3 : Int32)), .val (.int (1 : Int32)), .unset, .unset] [(.int (1 : Int32)), (.int (4 : Int32)), (.ref b79), (.ref b79)])) _
          refine st80.trans ?_
          show Steps p.tables e below (T80.setTop (mkF m 32 #[.val (.int p1), .val (.int p2), .val (.int p3), .val (.int p4), .val (.int p5), .val (.int (3 : Int32)), .val (.int (1 : Int32)), .unset, .unset] [(.ref b79)])) _
          refine XS.astore X80.here hx rfl (hb hby at_32) rfl rfl (l' := #[.val (.int p1), .val (.int p2), .val (.int p3), .val (.int p4), .val (.int p5), .val (.int (3 : Int32)), .val (.int (1 : Int32)), .val (.ref b79), .unset]) rfl ?_
          show Steps p.tables e below (T80.setTop (mkF m 34 #[.val (.int p1), .val (.int p2), .val (.int p3), .val (.int p4), .val (.int p5), .val (.int (3 : Int32)), .val (.int (1 : Int32)), .val (.ref b79), .unset] [])) _
          refine XS.iload X80.here hx rfl (hb hby at_34) rfl ?_
          show Steps p.tables e below (T80.setTop (mkF m 36 #[.val (.int p1), .val (.int p2), .val (.int p3), .val (.int p4), .val (.int p5), .val (.int (3 : Int32)), .val (.int (1 : Int32)), .val (.ref b79), .unset] [(.int (3 : Int32))])) _
          refine XS.iconst X80.here hx rfl (hb hby at_36) ?_
          show Steps p.tables e below (T80.setTop (mkF m 37 #[.val (.int p1), .val (.int p2), .val (.int p3), .val (.int p4), .val (.int p5), .val (.int (3 : Int32)), .val (.int (1 : Int32)), .val (.ref b79), .unset] [(.int (1 : Int32)), (.int (3 : Int32))])) _
          refine XS.icmpNo X80.here hx rfl (hb hby at_37) rfl (flt ((by decide) : ¬ ((3 : Int32) < (1 : Int32)))).1 ?_
          show Steps p.tables e below (T80.setTop (mkF m 40 #[.val (.int p1), .val (.int p2), .val (.int p3), .val (.int p4), .val (.int p5), .val (.int (3 : Int32)), .val (.int (1 : Int32)), .val (.ref b79), .unset] [])) _
          refine XS.aload X80.here hx rfl (hb hby at_40) rfl rfl ?_
          show Steps p.tables e below (T80.setTop (mkF m 42 #[.val (.int p1), .val (.int p2), .val (.int p3), .val (.int p4), .val (.int p5), .val (.int (3 : Int32)), .val (.int (1 : Int32)), .val (.ref b79), .unset] [(.ref b79)])) _
          refine XS.iloadN X80.here hx rfl (hb hby at_42) rfl ?_
          show Steps p.tables e below (T80.setTop (mkF m 43 #[.val (.int p1), .val (.int p2), .val (.int p3), .val (.int p4), .val (.int p5), .val (.int (3 : Int32)), .val (.int (1 : Int32)), .val (.ref b79), .unset] [(.int p2), (.ref b79)])) _
          refine st84.trans ?_
          show Steps p.tables e below (T84.setTop (mkF m 46 #[.val (.int p1), .val (.int p2), .val (.int p3), .val (.int p4), .val (.int p5), .val (.int (3 : Int32)), .val (.int (1 : Int32)), .val (.ref b79), .unset] [])) _
          refine XS.iload X84.here hx rfl (hb hby at_46) rfl ?_
          show Steps p.tables e below (T84.setTop (mkF m 48 #[.val (.int p1), .val (.int p2), .val (.int p3), .val (.int p4), .val (.int p5), .val (.int (3 : Int32)), .val (.int (1 : Int32)), .val (.ref b79), .unset] [(.int (3 : Int32))])) _
          refine XS.iconst X84.here hx rfl (hb hby at_48) ?_
          show Steps p.tables e below (T84.setTop (mkF m 49 #[.val (.int p1), .val (.int p2), .val (.int p3), .val (.int p4), .val (.int p5), .val (.int (3 : Int32)), .val (.int (1 : Int32)), .val (.ref b79), .unset] [(.int (2 : Int32)), (.int (3 : Int32))])) _
          refine XS.icmpNo X84.here hx rfl (hb hby at_49) rfl (flt ((by decide) : ¬ ((3 : Int32) < (2 : Int32)))).1 ?_
          show Steps p.tables e below (T84.setTop (mkF m 52 #[.val (.int p1), .val (.int p2), .val (.int p3), .val (.int p4), .val (.int p5), .val (.int (3 : Int32)), .val (.int (1 : Int32)), .val (.ref b79), .unset] [])) _
          refine XS.aload X84.here hx rfl (hb hby at_52) rfl rfl ?_
          show Steps p.tables e below (T84.setTop (mkF m 54 #[.val (.int p1), .val (.int p2), .val (.int p3), .val (.int p4), .val (.int p5), .val (.int (3 : Int32)), .val (.int (1 : Int32)), .val (.ref b79), .unset] [(.ref b79)])) _
          refine XS.iloadN X84.here hx rfl (hb hby at_54) rfl ?_
          show Steps p.tables e below (T84.setTop (mkF m 55 #[.val (.int p1), .val (.int p2), .val (.int p3), .val (.int p4), .val (.int p5), .val (.int (3 : Int32)), .val (.int (1 : Int32)), .val (.ref b79), .unset] [(.int p3), (.ref b79)])) _
          refine st85.trans ?_
          show Steps p.tables e below (T85.setTop (mkF m 58 #[.val (.int p1), .val (.int p2), .val (.int p3), .val (.int p4), .val (.int p5), .val (.int (3 : Int32)), .val (.int (1 : Int32)), .val (.ref b79), .unset] [])) _
          refine XS.iload X85.here hx rfl (hb hby at_58) rfl ?_
          show Steps p.tables e below (T85.setTop (mkF m 60 #[.val (.int p1), .val (.int p2), .val (.int p3), .val (.int p4), .val (.int p5), .val (.int (3 : Int32)), .val (.int (1 : Int32)), .val (.ref b79), .unset] [(.int (3 : Int32))])) _
          refine XS.iconst X85.here hx rfl (hb hby at_60) ?_
          show Steps p.tables e below (T85.setTop (mkF m 61 #[.val (.int p1), .val (.int p2), .val (.int p3), .val (.int p4), .val (.int p5), .val (.int (3 : Int32)), .val (.int (1 : Int32)), .val (.ref b79), .unset] [(.int (3 : Int32)), (.int (3 : Int32))])) _
          refine XS.icmpNo X85.here hx rfl (hb hby at_61) rfl (flt ((by decide) : ¬ ((3 : Int32) < (3 : Int32)))).1 ?_
          show Steps p.tables e below (T85.setTop (mkF m 64 #[.val (.int p1), .val (.int p2), .val (.int p3), .val (.int p4), .val (.int p5), .val (.int (3 : Int32)), .val (.int (1 : Int32)), .val (.ref b79), .unset] [])) _
          refine XS.aload X85.here hx rfl (hb hby at_64) rfl rfl ?_
          show Steps p.tables e below (T85.setTop (mkF m 66 #[.val (.int p1), .val (.int p2), .val (.int p3), .val (.int p4), .val (.int p5), .val (.int (3 : Int32)), .val (.int (1 : Int32)), .val (.ref b79), .unset] [(.ref b79)])) _
          refine XS.iloadN X85.here hx rfl (hb hby at_66) rfl ?_
          show Steps p.tables e below (T85.setTop (mkF m 67 #[.val (.int p1), .val (.int p2), .val (.int p3), .val (.int p4), .val (.int p5), .val (.int (3 : Int32)), .val (.int (1 : Int32)), .val (.ref b79), .unset] [(.int p4), (.ref b79)])) _
          refine st86.trans ?_
          show Steps p.tables e below (T86.setTop (mkF m 70 #[.val (.int p1), .val (.int p2), .val (.int p3), .val (.int p4), .val (.int p5), .val (.int (3 : Int32)), .val (.int (1 : Int32)), .val (.ref b79), .unset] [])) _
          refine XS.iload X86.here hx rfl (hb hby at_70) rfl ?_
          show Steps p.tables e below (T86.setTop (mkF m 72 #[.val (.int p1), .val (.int p2), .val (.int p3), .val (.int p4), .val (.int p5), .val (.int (3 : Int32)), .val (.int (1 : Int32)), .val (.ref b79), .unset] [(.int (3 : Int32))])) _
          refine XS.iconst X86.here hx rfl (hb hby at_72) ?_
          show Steps p.tables e below (T86.setTop (mkF m 73 #[.val (.int p1), .val (.int p2), .val (.int p3), .val (.int p4), .val (.int p5), .val (.int (3 : Int32)), .val (.int (1 : Int32)), .val (.ref b79), .unset] [(.int (4 : Int32)), (.int (3 : Int32))])) _
          refine XS.icmpYes X86.here hx rfl (pc0 := 73) (pc' := 83) rfl (hb hby at_73) rfl (tlt ((by decide) : (3 : Int32) < (4 : Int32))).1 (by decide) (by decide) ?_
          show Steps p.tables e below (T86.setTop (mkF m 83 #[.val (.int p1), .val (.int p2), .val (.int p3), .val (.int p4), .val (.int p5), .val (.int (3 : Int32)), .val (.int (1 : Int32)), .val (.ref b79), .unset] [])) _
          refine XS.iload X86.here hx rfl (hb hby at_83) rfl ?_
          show Steps p.tables e below (T86.setTop (mkF m 85 #[.val (.int p1), .val (.int p2), .val (.int p3), .val (.int p4), .val (.int p5), .val (.int (3 : Int32)), .val (.int (1 : Int32)), .val (.ref b79), .unset] [(.int (1 : Int32))])) _
          refine XS.ifYes X86.here hx rfl (pc0 := 85) (pc' := 93) rfl (hb hby at_85) rfl ((if0 _ _).trans (feq ((by decide) : ¬ ((1 : Int32) = (0 : Int32)))).2) (by decide) (by decide) ?_
          show Steps p.tables e below (T86.setTop (mkF m 93 #[.val (.int p1), .val (.int p2), .val (.int p3), .val (.int p4), .val (.int p5), .val (.int (3 : Int32)), .val (.int (1 : Int32)), .val (.ref b79), .unset] [])) _
          refine XS.iconst X86.here hx rfl (hb hby at_93) ?_
          show Steps p.tables e below (T86.setTop (mkF m 94 #[.val (.int p1), .val (.int p2), .val (.int p3), .val (.int p4), .val (.int p5), .val (.int (3 : Int32)), .val (.int (1 : Int32)), .val (.ref b79), .unset] [(.int (1 : Int32))])) _
          refine XS.istore X86.here hx rfl (hb hby at_94) rfl (l' := #[.val (.int p1), .val (.int p2), .val (.int p3), .val (.int p4), .val (.int p5), .val (.int (3 : Int32)), .val (.int (1 : Int32)), .val (.ref b79), .val (.int (1 : Int32))]) rfl ?_
          show Steps p.tables e below (T86.setTop (mkF m 96 #[.val (.int p1), .val (.int p2), .val (.int p3), .val (.int p4), .val (.int p5), .val (.int (3 : Int32)), .val (.int (1 : Int32)), .val (.ref b79), .val (.int (1 : Int32))] [])) _
          refine XS.goto X86.here hx rfl (pc0 := 96) (pc' := 186) rfl (hb hby at_96) (by decide) (by decide) ?_
          show Steps p.tables e below (T86.setTop (mkF m 186 #[.val (.int p1), .val (.int p2), .val (.int p3), .val (.int p4), .val (.int p5), .val (.int (3 : Int32)), .val (.int (1 : Int32)), .val (.ref b79), .val (.int (1 : Int32))] [])) _
          refine XS.aload X86.here hx rfl (hb hby at_186) rfl rfl ?_
          show Steps p.tables e below (T86.setTop (mkF m 188 #[.val (.int p1), .val (.int p2), .val (.int p3), .val (.int p4), .val (.int p5), .val (.int (3 : Int32)), .val (.int (1 : Int32)), .val (.ref b79), .val (.int (1 : Int32))] [(.ref b79)])) _
          refine st87.trans ?_
          show Steps p.tables e below (T87.setTop (mkF m 191 #[.val (.int p1), .val (.int p2), .val (.int p3), .val (.int p4), .val (.int p5), .val (.int (3 : Int32)), .val (.int (1 : Int32)), .val (.ref b79), .val (.int (1 : Int32))] [(.int (1 : Int32))])) _
          refine XS.iload X87.here hx rfl (hb hby at_191) rfl ?_
          show Steps p.tables e below (T87.setTop (mkF m 193 #[.val (.int p1), .val (.int p2), .val (.int p3), .val (.int p4), .val (.int p5), .val (.int (3 : Int32)), .val (.int (1 : Int32)), .val (.ref b79), .val (.int (1 : Int32))] [(.int (1 : Int32)), (.int (1 : Int32))])) _
          refine XS.icmpNo X87.here hx rfl (hb hby at_193) rfl (teq ((by decide) : (1 : Int32) = (1 : Int32))).2 ?_
          show Steps p.tables e below (T87.setTop (mkF m 196 #[.val (.int p1), .val (.int p2), .val (.int p3), .val (.int p4), .val (.int p5), .val (.int (3 : Int32)), .val (.int (1 : Int32)), .val (.ref b79), .val (.int (1 : Int32))] [])) _
          refine XS.iconst X87.here hx rfl (hb hby at_196) ?_
          show Steps p.tables e below (T87.setTop (mkF m 197 #[.val (.int p1), .val (.int p2), .val (.int p3), .val (.int p4), .val (.int p5), .val (.int (3 : Int32)), .val (.int (1 : Int32)), .val (.ref b79), .val (.int (1 : Int32))] [(.int (1 : Int32))])) _
          refine XS.goto X87.here hx rfl (pc0 := 197) (pc' := 201) rfl (hb hby at_197) (by decide) (by decide) ?_
          exact kt
        show own_End p e below s (T87.setTop (mkF m 201 #[.val (.int p1), .val (.int p2), .val (.int p3), .val (.int p4), .val (.int p5), .val (.int (3 : Int32)), .val (.int (1 : Int32)), .val (.ref b79), .val (.int (1 : Int32))] [(.int (1 : Int32))])) (Q0 Z p1 p2 p3 p4 p5 h0 n0) room_1.cells room_1.slots
        have hv : (own_law p1 p2 p3 p4 p5) = (1 : Int32) := hj.trans (by simp only [own_law_8, if_neg hs1_0, if_neg hs1_1, if_neg hs1_2, if_pos hs1_3, if_neg hc12_59])
        obtain ⟨fs, hr, hrun, hended, hW, hsame⟩ := X87.leave (v := some (.int (1 : Int32))) (fun h => by rw [Bd.returns] at h; cases h)
        refine ⟨_, _, ?_, hrun, hended, _, _, rfl, ?_, ⟨_, rfl⟩, hW, hsame.mono (by decide) (by decide)⟩
        · exact retN X87 hx (t := .boolean) Bd.returns (by simp) (hb hby at_201) hr
        · show Q0 Z p1 p2 p3 p4 p5 h0 n0 _ T87.heap _
          rw [e87]
          exact ⟨(congrArg (fun z => some (Value.int z)) hv.symm), N87⟩
    have hs1_4 : n = (4 : Int32) := (own_last hn hs1_0 hs1_1 hs1_2 hs1_3)
    rw [hs1_4]
    refine own_pre (A := Tj8.setTop (mkF m 12 #[.val (.int p1), .val (.int p2), .val (.int p3), .val (.int p4), .val (.int p5), .val (.int (4 : Int32)), .unset, .unset, .unset] [(.int (p1 &&& (8 : Int32)))])) (fun tt kt => ?_) ?_
    · show Steps p.tables e below (Tj8.setTop (mkF m 9 #[.val (.int p1), .val (.int p2), .val (.int p3), .val (.int p4), .val (.int p5), .val (.int (4 : Int32)), .unset, .unset, .unset] [(.int p1)])) _
      refine XS.bipush Xj8.here hx rfl (hb hby at_9) ?_
      show Steps p.tables e below (Tj8.setTop (mkF m 11 #[.val (.int p1), .val (.int p2), .val (.int p3), .val (.int p4), .val (.int p5), .val (.int (4 : Int32)), .unset, .unset, .unset] [(.int (8 : Int32)), (.int p1)])) _
      refine XS.iand Xj8.here hx rfl (hb hby at_11) rfl ?_
      exact kt
    show own_End p e below s (Tj8.setTop (mkF m 12 #[.val (.int p1), .val (.int p2), .val (.int p3), .val (.int p4), .val (.int p5), .val (.int (4 : Int32)), .unset, .unset, .unset] [(.int (p1 &&& (8 : Int32)))])) (Q0 Z p1 p2 p3 p4 p5 h0 n0) room_1.cells room_1.slots
    by_cases hc12_88 : (p1 &&& (8 : Int32)) = (0 : Int32)
    · obtain ⟨T89, h89, X89, e89, E89, A89, D89, -, st89⟩ := newO Xj8 hx hZ hown (hw _ (List.mem_of_getElem? (i := 0) rfl)) (hw _ (List.mem_of_getElem? (i := 1) rfl)) (hw _ (List.mem_of_getElem? (i := 2) rfl)) ej8 (g := (mkF m 22 #[.val (.int p1), .val (.int p2), .val (.int p3), .val (.int p4), .val (.int p5), .val (.int (4 : Int32)), .val (.int (0 : Int32)), .unset, .unset] [])) rfl (hb hby at_22) (by decide) (by decide)
      obtain ⟨b89, g89⟩ : ∃ z, z = h0.size := ⟨_, rfl⟩
      rw [← g89] at A89 D89 st89
      have g_b89 : n0 ≤ b89 := Nat.le_trans Z0 (Nat.le_of_eq g89.symm)
      have sz_b89 : h0.size ≤ b89 := Nat.le_trans (show Keep h0 h0 [] from (Keep.refl h0 _)).1 (Nat.le_of_eq g89.symm)
      have K89 : Keep h0 h89 [] := Keep.ext (Keep.refl h0 _) E89
      have Z89 : n0 ≤ h89.size := Nat.le_trans Z0 E89.1
      have F_stamp_b89 : Fld Z h89 b89 "com/example/libfacet/libfacet/regex/StateSet" "stamp" "I" (.int (0 : Int32)) := D89 (Or.inl (hw _ (List.mem_of_getElem? (i := 10) rfl))) (ty := .int) (by decide)
      have F_stack_b89 : Fld Z h89 b89 "com/example/libfacet/libfacet/regex/StateSet" "stack" "[I" .null := D89 (Or.inl (hw _ (List.mem_of_getElem? (i := 13) rfl))) (ty := (.array .int)) (by decide)
      have F_instructions_b89 : Fld Z h89 b89 "com/example/libfacet/libfacet/regex/StateSet" "instructions" "I" (.int (0 : Int32)) := D89 (Or.inr (hw _ (List.mem_of_getElem? (i := 15) rfl))) (ty := .int) (by decide)
      have F_members_b89 : Fld Z h89 b89 "com/example/libfacet/libfacet/regex/StateSet" "members" "[I" .null := D89 (Or.inl (hw _ (List.mem_of_getElem? (i := 17) rfl))) (ty := (.array .int)) (by decide)
      have F_marks_b89 : Fld Z h89 b89 "com/example/libfacet/libfacet/regex/StateSet" "marks" "[C" .null := D89 (Or.inr (hw _ (List.mem_of_getElem? (i := 20) rfl))) (ty := (.array .char)) (by decide)
      have F_markBits_b89 : Fld Z h89 b89 "com/example/libfacet/libfacet/regex/StateSet" "markBits" "[J" .null := D89 (Or.inr (hw _ (List.mem_of_getElem? (i := 22) rfl))) (ty := (.array .long)) (by decide)
      have F_marked_b89 : Fld Z h89 b89 "com/example/libfacet/libfacet/regex/StateSet" "marked" "[I" .null := D89 (Or.inl (hw _ (List.mem_of_getElem? (i := 24) rfl))) (ty := (.array .int)) (by decide)
      have F_size_b89 : Fld Z h89 b89 "com/example/libfacet/libfacet/regex/StateSet" "size" "I" (.int (0 : Int32)) := D89 (Or.inl (hw _ (List.mem_of_getElem? (i := 31) rfl))) (ty := .int) (by decide)
      obtain ⟨_, _, ⟨T90, L90, k90, n90⟩, -, X90, ⟨Lc90, hQ90, l90, y90, z90⟩, st90⟩ := X89.specialBack hx (y := (⟨"com/example/libfacet/libfacet/regex/StateSet", "<init>", "(IZ)V"⟩ : MethodName)) rfl hown (mvT hZ (hw _ (List.mem_of_getElem? (i := 3) rfl))) (mvT hZ (hw _ (List.mem_of_getElem? (i := 4) rfl))) (mvT hZ (hw _ (List.mem_of_getElem? (i := 5) rfl))) (by decide) (backOf (W := 1) (rm1N l Z a0 hw [] b89 (0 : Int32) (0 : Int32) (0 : Int32) h89 n0 Z89 ⟨A89, F_stamp_b89, F_stack_b89, F_instructions_b89, F_members_b89, F_marks_b89, F_markBits_b89, F_marked_b89, F_size_b89⟩ g_b89) hZ (hw _ (List.mem_of_getElem? (i := 5) rfl)) (hw _ (List.mem_of_getElem? (i := 2) rfl)) (by decide) (by decide)) (g := (mkF m 29 #[.val (.int p1), .val (.int p2), .val (.int p3), .val (.int p4), .val (.int p5), .val (.int (4 : Int32)), .val (.int (0 : Int32)), .unset, .unset] [(.int (0 : Int32)), (.int (4 : Int32)), (.ref b89), (.ref b89)])) rfl (by rw [hml]; rfl) (Steps.refl _) (a := b89) (argsL := [(.int (4 : Int32)), (.int (0 : Int32))]) (rest := [(.ref b89)]) (lenOf pd_0_0 rfl) rfl (by show 2 * 0 + _ ≤ _; exact Nat.le_of_eq rfl) (hb hby at_29) (fun _ _ => ⟨rfl, e89, (by decide : 1 + 3 ≤ _), (by decide : 10 + 36 ≤ _)⟩)
      dsimp only [Pt.U, Pt.locs, Pt.cells, Pt.slots] at X90 l90 y90 z90 st90 hQ90
      subst l90 y90 z90
      obtain ⟨rfl, N90q, c90_am, Kq90, O90_0, szq_c90_am, P90_am_0⟩ := hQ90
      have ne_b89_c90_am : b89 ≠ c90_am := Nat.ne_of_lt (Nat.lt_of_lt_of_le A89.lt szq_c90_am)
      have g_c90_am : n0 ≤ c90_am := Nat.le_trans Z89 szq_c90_am
      have sz_c90_am : h0.size ≤ c90_am := Nat.le_trans (show Keep h0 h89 [] from K89).1 szq_c90_am
      have N90 := Fr.app Nj8 N90q
      have fE_b89_x90 := (A89.keep Kq90)
      have K90 : Keep h0 T90.heap [] := Keep.trans K89 Kq90 (allS (Or.inr sz_b89) all0)
      have Z90 : n0 ≤ T90.heap.size := Nat.le_trans Z89 Kq90.1
      obtain ⟨E_b89_91, F_members_b89_92, F_size_b89_93⟩ := O90_0
      obtain ⟨cq94, kq94, q94a, q94b, q94c⟩ := isOf hZ rfl E_b89_91
      obtain ⟨_, _, ⟨T94, L94, k94, n94⟩, -, X94, ⟨Lc94, hQ94, l94, y94, z94⟩, st94⟩ := X90.virtualBack hx (y := (⟨"com/example/libfacet/libfacet/regex/StateSet", "add", "(I)V"⟩ : MethodName)) (z := (⟨"com/example/libfacet/libfacet/regex/StateSet", "add", "(I)V"⟩ : MethodName)) hown (mvT hZ (hw _ (List.mem_of_getElem? (i := 32) rfl))) (mvT hZ (hw _ (List.mem_of_getElem? (i := 33) rfl))) (notFace_of_selects (args := #[]) (mvT hZ (hw _ (List.mem_of_getElem? (i := 35) rfl)))) (mvT hZ (hw _ (List.mem_of_getElem? (i := 35) rfl))) (mvT hZ (hw _ (List.mem_of_getElem? (i := 34) rfl))) (by decide) (backOf (W := 0) (rm4N l Z a0 hw [] b89 p2 c90_am (0 : Int32) (fun _ => (0 : Int32)) T90.heap n0 Z90 ⟨E_b89_91, F_members_b89_92, F_size_b89_93⟩ P90_am_0 ne_b89_c90_am g_b89 g_c90_am (by decide) (by decide)) hZ (hw _ (List.mem_of_getElem? (i := 36) rfl)) (hw _ (List.mem_of_getElem? (i := 2) rfl)) (by decide) (by decide)) q94a q94c (g := (mkF m 43 #[.val (.int p1), .val (.int p2), .val (.int p3), .val (.int p4), .val (.int p5), .val (.int (4 : Int32)), .val (.int (0 : Int32)), .val (.ref b89), .unset] [(.int p2), (.ref b89)])) rfl (by rw [hml]; rfl) (Steps.refl _) (argsL := [(.int p2)]) (rest := []) (lenOf pd_0_2 rfl) rfl (by show 2 * 0 + _ ≤ _; exact Nat.le_of_eq rfl) (hb hby at_43) (fun _ _ => ⟨rfl, rfl, (by decide : 4 + 0 ≤ _), (by decide : 46 + 0 ≤ _)⟩)
      dsimp only [Pt.U, Pt.locs, Pt.cells, Pt.slots] at X94 l94 y94 z94 st94 hQ94
      subst l94 y94 z94
      obtain ⟨rfl, N94q, Kq94, O94_0, V94_0⟩ := hQ94
      have N94 := Fr.app N90 N94q
      have fE_b89_x94 := (E_b89_91.keep Kq94)
      have K94 : Keep h0 T94.heap [] := Keep.trans K90 Kq94 (allS (Or.inr sz_b89) (allS (Or.inr sz_c90_am) all0))
      have Z94 : n0 ≤ T94.heap.size := Nat.le_trans Z90 Kq94.1
      obtain ⟨E_b89_95, F_members_b89_96, F_size_b89_97⟩ := O94_0
      obtain ⟨cq98, kq98, q98a, q98b, q98c⟩ := isOf hZ rfl E_b89_95
      obtain ⟨_, _, ⟨T98, L98, k98, n98⟩, -, X98, ⟨Lc98, hQ98, l98, y98, z98⟩, st98⟩ := X94.virtualBack hx (y := (⟨"com/example/libfacet/libfacet/regex/StateSet", "add", "(I)V"⟩ : MethodName)) (z := (⟨"com/example/libfacet/libfacet/regex/StateSet", "add", "(I)V"⟩ : MethodName)) hown (mvT hZ (hw _ (List.mem_of_getElem? (i := 32) rfl))) (mvT hZ (hw _ (List.mem_of_getElem? (i := 33) rfl))) (notFace_of_selects (args := #[]) (mvT hZ (hw _ (List.mem_of_getElem? (i := 35) rfl)))) (mvT hZ (hw _ (List.mem_of_getElem? (i := 35) rfl))) (mvT hZ (hw _ (List.mem_of_getElem? (i := 34) rfl))) (by decide) (backOf (W := 0) (rm4N l Z a0 hw [] b89 p3 c90_am (1 : Int32) (own_put (fun _ => (0 : Int32)) (0 : Int32) p2) T94.heap n0 Z94 ⟨E_b89_95, F_members_b89_96, F_size_b89_97⟩ V94_0 ne_b89_c90_am g_b89 g_c90_am (by decide) (by decide)) hZ (hw _ (List.mem_of_getElem? (i := 36) rfl)) (hw _ (List.mem_of_getElem? (i := 2) rfl)) (by decide) (by decide)) q98a q98c (g := (mkF m 55 #[.val (.int p1), .val (.int p2), .val (.int p3), .val (.int p4), .val (.int p5), .val (.int (4 : Int32)), .val (.int (0 : Int32)), .val (.ref b89), .unset] [(.int p3), (.ref b89)])) rfl (by rw [hml]; rfl) (Steps.refl _) (argsL := [(.int p3)]) (rest := []) (lenOf pd_0_2 rfl) rfl (by show 2 * 0 + _ ≤ _; exact Nat.le_of_eq rfl) (hb hby at_55) (fun _ _ => ⟨rfl, rfl, (by decide : 4 + 0 ≤ _), (by decide : 46 + 0 ≤ _)⟩)
      dsimp only [Pt.U, Pt.locs, Pt.cells, Pt.slots] at X98 l98 y98 z98 st98 hQ98
      subst l98 y98 z98
      obtain ⟨rfl, N98q, Kq98, O98_0, V98_0⟩ := hQ98
      have N98 := Fr.app N94 N98q
      have fE_b89_x98 := (E_b89_95.keep Kq98)
      have K98 : Keep h0 T98.heap [] := Keep.trans K94 Kq98 (allS (Or.inr sz_b89) (allS (Or.inr sz_c90_am) all0))
      have Z98 : n0 ≤ T98.heap.size := Nat.le_trans Z94 Kq98.1
      obtain ⟨E_b89_99, F_members_b89_100, F_size_b89_101⟩ := O98_0
      obtain ⟨cq102, kq102, q102a, q102b, q102c⟩ := isOf hZ rfl E_b89_99
      obtain ⟨_, _, ⟨T102, L102, k102, n102⟩, -, X102, ⟨Lc102, hQ102, l102, y102, z102⟩, st102⟩ := X98.virtualBack hx (y := (⟨"com/example/libfacet/libfacet/regex/StateSet", "add", "(I)V"⟩ : MethodName)) (z := (⟨"com/example/libfacet/libfacet/regex/StateSet", "add", "(I)V"⟩ : MethodName)) hown (mvT hZ (hw _ (List.mem_of_getElem? (i := 32) rfl))) (mvT hZ (hw _ (List.mem_of_getElem? (i := 33) rfl))) (notFace_of_selects (args := #[]) (mvT hZ (hw _ (List.mem_of_getElem? (i := 35) rfl)))) (mvT hZ (hw _ (List.mem_of_getElem? (i := 35) rfl))) (mvT hZ (hw _ (List.mem_of_getElem? (i := 34) rfl))) (by decide) (backOf (W := 0) (rm4N l Z a0 hw [] b89 p4 c90_am (2 : Int32) (own_put (own_put (fun _ => (0 : Int32)) (0 : Int32) p2) (1 : Int32) p3) T98.heap n0 Z98 ⟨E_b89_99, F_members_b89_100, F_size_b89_101⟩ V98_0 ne_b89_c90_am g_b89 g_c90_am (by decide) (by decide)) hZ (hw _ (List.mem_of_getElem? (i := 36) rfl)) (hw _ (List.mem_of_getElem? (i := 2) rfl)) (by decide) (by decide)) q102a q102c (g := (mkF m 67 #[.val (.int p1), .val (.int p2), .val (.int p3), .val (.int p4), .val (.int p5), .val (.int (4 : Int32)), .val (.int (0 : Int32)), .val (.ref b89), .unset] [(.int p4), (.ref b89)])) rfl (by rw [hml]; rfl) (Steps.refl _) (argsL := [(.int p4)]) (rest := []) (lenOf pd_0_2 rfl) rfl (by show 2 * 0 + _ ≤ _; exact Nat.le_of_eq rfl) (hb hby at_67) (fun _ _ => ⟨rfl, rfl, (by decide : 4 + 0 ≤ _), (by decide : 46 + 0 ≤ _)⟩)
      dsimp only [Pt.U, Pt.locs, Pt.cells, Pt.slots] at X102 l102 y102 z102 st102 hQ102
      subst l102 y102 z102
      obtain ⟨rfl, N102q, Kq102, O102_0, V102_0⟩ := hQ102
      have N102 := Fr.app N98 N102q
      have fE_b89_x102 := (E_b89_99.keep Kq102)
      have K102 : Keep h0 T102.heap [] := Keep.trans K98 Kq102 (allS (Or.inr sz_b89) (allS (Or.inr sz_c90_am) all0))
      have Z102 : n0 ≤ T102.heap.size := Nat.le_trans Z98 Kq102.1
      obtain ⟨E_b89_103, F_members_b89_104, F_size_b89_105⟩ := O102_0
      obtain ⟨cq106, kq106, q106a, q106b, q106c⟩ := isOf hZ rfl E_b89_103
      obtain ⟨_, _, ⟨T106, L106, k106, n106⟩, -, X106, ⟨Lc106, hQ106, l106, y106, z106⟩, st106⟩ := X102.virtualBack hx (y := (⟨"com/example/libfacet/libfacet/regex/StateSet", "add", "(I)V"⟩ : MethodName)) (z := (⟨"com/example/libfacet/libfacet/regex/StateSet", "add", "(I)V"⟩ : MethodName)) hown (mvT hZ (hw _ (List.mem_of_getElem? (i := 32) rfl))) (mvT hZ (hw _ (List.mem_of_getElem? (i := 33) rfl))) (notFace_of_selects (args := #[]) (mvT hZ (hw _ (List.mem_of_getElem? (i := 35) rfl)))) (mvT hZ (hw _ (List.mem_of_getElem? (i := 35) rfl))) (mvT hZ (hw _ (List.mem_of_getElem? (i := 34) rfl))) (by decide) (backOf (W := 0) (rm4N l Z a0 hw [] b89 p5 c90_am (3 : Int32) (own_put (own_put (own_put (fun _ => (0 : Int32)) (0 : Int32) p2) (1 : Int32) p3) (2 : Int32) p4) T102.heap n0 Z102 ⟨E_b89_103, F_members_b89_104, F_size_b89_105⟩ V102_0 ne_b89_c90_am g_b89 g_c90_am (by decide) (by decide)) hZ (hw _ (List.mem_of_getElem? (i := 36) rfl)) (hw _ (List.mem_of_getElem? (i := 2) rfl)) (by decide) (by decide)) q106a q106c (g := (mkF m 80 #[.val (.int p1), .val (.int p2), .val (.int p3), .val (.int p4), .val (.int p5), .val (.int (4 : Int32)), .val (.int (0 : Int32)), .val (.ref b89), .unset] [(.int p5), (.ref b89)])) rfl (by rw [hml]; rfl) (Steps.refl _) (argsL := [(.int p5)]) (rest := []) (lenOf pd_0_2 rfl) rfl (by show 2 * 0 + _ ≤ _; exact Nat.le_of_eq rfl) (hb hby at_80) (fun _ _ => ⟨rfl, rfl, (by decide : 4 + 0 ≤ _), (by decide : 46 + 0 ≤ _)⟩)
      dsimp only [Pt.U, Pt.locs, Pt.cells, Pt.slots] at X106 l106 y106 z106 st106 hQ106
      subst l106 y106 z106
      obtain ⟨rfl, N106q, Kq106, O106_0, V106_0⟩ := hQ106
      have N106 := Fr.app N102 N106q
      have fE_b89_x106 := (E_b89_103.keep Kq106)
      have K106 : Keep h0 T106.heap [] := Keep.trans K102 Kq106 (allS (Or.inr sz_b89) (allS (Or.inr sz_c90_am) all0))
      have Z106 : n0 ≤ T106.heap.size := Nat.le_trans Z102 Kq106.1
      obtain ⟨E_b89_107, F_members_b89_108, F_size_b89_109⟩ := O106_0
      obtain ⟨cq110, kq110, q110a, q110b, q110c⟩ := isOf hZ rfl E_b89_107
      obtain ⟨_, _, ⟨T110, L110, k110, n110⟩, -, X110, ⟨Lc110, hQ110, l110, y110, z110⟩, st110⟩ := X106.virtualBack hx (y := (⟨"com/example/libfacet/libfacet/regex/StateSet", "membersHash", "()I"⟩ : MethodName)) (z := (⟨"com/example/libfacet/libfacet/regex/StateSet", "membersHash", "()I"⟩ : MethodName)) hown (mvT hZ (hw _ (List.mem_of_getElem? (i := 25) rfl))) (mvT hZ (hw _ (List.mem_of_getElem? (i := 26) rfl))) (notFace_of_selects (args := #[]) (mvT hZ (hw _ (List.mem_of_getElem? (i := 28) rfl)))) (mvT hZ (hw _ (List.mem_of_getElem? (i := 28) rfl))) (mvT hZ (hw _ (List.mem_of_getElem? (i := 27) rfl))) (by decide) (backOf (W := 0) (rm3N l Z a0 hw [] b89 c90_am (4 : Int32) (own_put (own_put (own_put (own_put (fun _ => (0 : Int32)) (0 : Int32) p2) (1 : Int32) p3) (2 : Int32) p4) (3 : Int32) p5) T106.heap n0 Z106 ⟨E_b89_107, F_members_b89_108, F_size_b89_109⟩ V106_0 (by decide) (by decide)) hZ (hw _ (List.mem_of_getElem? (i := 29) rfl)) (hw _ (List.mem_of_getElem? (i := 2) rfl)) (by decide) (by decide)) q110a q110c (g := (mkF m 188 #[.val (.int p1), .val (.int p2), .val (.int p3), .val (.int p4), .val (.int p5), .val (.int (4 : Int32)), .val (.int (0 : Int32)), .val (.ref b89), .val (.int (((((923521 : Int32) + ((29791 : Int32) * p2)) + ((961 : Int32) * p3)) + ((31 : Int32) * p4)) + p5))] [(.ref b89)])) rfl (by rw [hml]; rfl) (Steps.refl _) (argsL := []) (rest := []) (lenOf pd_0_1 rfl) rfl (by show 2 * 0 + _ ≤ _; exact Nat.le_of_eq rfl) (hb hby at_188) (fun _ _ => ⟨rfl, rfl, (by decide : 4 + 0 ≤ _), (by decide : 46 + 0 ≤ _)⟩)
      dsimp only [Pt.U, Pt.locs, Pt.cells, Pt.slots] at X110 l110 y110 z110 st110 hQ110
      subst l110 y110 z110
      obtain ⟨rfl, N110q, e110⟩ := hQ110
      have N110 := Fr.app N106 N110q
      refine own_pre (A := T110.setTop (mkF m 193 #[.val (.int p1), .val (.int p2), .val (.int p3), .val (.int p4), .val (.int p5), .val (.int (4 : Int32)), .val (.int (0 : Int32)), .val (.ref b89), .val (.int (((((923521 : Int32) + ((29791 : Int32) * p2)) + ((961 : Int32) * p3)) + ((31 : Int32) * p4)) + p5))] [(.int (((((923521 : Int32) + ((29791 : Int32) * p2)) + ((961 : Int32) * p3)) + ((31 : Int32) * p4)) + p5)), (.int (own_hash (own_put (own_put (own_put (own_put (fun _ => (0 : Int32)) (0 : Int32) p2) (1 : Int32) p3) (2 : Int32) p4) (3 : Int32) p5) (4 : Int32)))])) (fun tt kt => ?_) ?_
      · show Steps p.tables e below (Tj8.setTop (mkF m 12 #[.val (.int p1), .val (.int p2), .val (.int p3), .val (.int p4), .val (.int p5), .val (.int (4 : Int32)), .unset, .unset, .unset] [(.int (p1 &&& (8 : Int32)))])) _
        refine XS.ifYes Xj8.here hx rfl (pc0 := 12) (pc' := 19) rfl (hb hby at_12) rfl ((if0 _ _).trans (teq hc12_88).1) (by decide) (by decide) ?_
        show Steps p.tables e below (Tj8.setTop (mkF m 19 #[.val (.int p1), .val (.int p2), .val (.int p3), .val (.int p4), .val (.int p5), .val (.int (4 : Int32)), .unset, .unset, .unset] [])) _
        refine XS.iconst Xj8.here hx rfl (hb hby at_19) ?_
        show Steps p.tables e below (Tj8.setTop (mkF m 20 #[.val (.int p1), .val (.int p2), .val (.int p3), .val (.int p4), .val (.int p5), .val (.int (4 : Int32)), .unset, .unset, .unset] [(.int (0 : Int32))])) _
        refine XS.istore Xj8.here hx rfl (hb hby at_20) rfl (l' := #[.val (.int p1), .val (.int p2), .val (.int p3), .val (.int p4), .val (.int p5), .val (.int (4 : Int32)), .val (.int (0 : Int32)), .unset, .unset]) rfl ?_
        show Steps p.tables e below (Tj8.setTop (mkF m 22 #[.val (.int p1), .val (.int p2), .val (.int p3), .val (.int p4), .val (.int p5), .val (.int (4 : Int32)), .val (.int (0 : Int32)), .unset, .unset] [])) _
        refine st89 _ ?_
        show Steps p.tables e below (T89.setTop (mkF m 25 #[.val (.int p1), .val (.int p2), .val (.int p3), .val (.int p4), .val (.int p5), .val (.int (4 : Int32)), .val (.int (0 : Int32)), .unset, .unset] [(.ref b89)])) _
        refine XS.dup X89.here hx rfl (hb hby at_25) rfl rfl ?_
        show Steps p.tables e below (T89.setTop (mkF m 26 #[.val (.int p1), .val (.int p2), .val (.int p3), .val (.int p4), .val (.int p5), .val (.int (4 : Int32)), .val (.int (0 : Int32)), .unset, .unset] [(.ref b89), (.ref b89)])) _
        refine XS.iconst X89.here hx rfl (hb hby at_26) ?_
        show Steps p.tables e below (T89.setTop (mkF m 27 #[.val (.int p1), .val (.int p2), .val (.int p3), .val (.int p4), .val (.int p5), .val (.int (4 : Int32)), .val (.int (0 : Int32)), .unset, .unset] [(.int (4 : Int32)), (.ref b89), (.ref b89)])) _
        refine XS.iload X89.here hx rfl (hb hby at_27) rfl ?_
        show Steps p.tables e below (T89.setTop (mkF m 29 #[.val (.int p1), .val (.int p2), .val (.int p3), .val (.int p4), .val (.int p5), .val (.int (4 : Int32)), .val (.int (0 : Int32)), .unset, .unset] [(.int (0 : Int32)), (.int (4 : Int32)), (.ref b89), (.ref b89)])) _
        refine st90.trans ?_
        show Steps p.tables e below (T90.setTop (mkF m 32 #[.val (.int p1), .val (.int p2), .val (.int p3), .val (.int p4), .val (.int p5), .val (.int (4 : Int32)), .val (.int (0 : Int32)), .unset, .unset] [(.ref b89)])) _
        refine XS.astore X90.here hx rfl (hb hby at_32) rfl rfl (l' := #[.val (.int p1), .val (.int p2), .val (.int p3), .val (.int p4), .val (.int p5), .val (.int (4 : Int32)), .val (.int (0 : Int32)), .val (.ref b89), .unset]) rfl ?_
        show Steps p.tables e below (T90.setTop (mkF m 34 #[.val (.int p1), .val (.int p2), .val (.int p3), .val (.int p4), .val (.int p5), .val (.int (4 : Int32)), .val (.int (0 : Int32)), .val (.ref b89), .unset] [])) _
        refine XS.iload X90.here hx rfl (hb hby at_34) rfl ?_
        show Steps p.tables e below (T90.setTop (mkF m 36 #[.val (.int p1), .val (.int p2), .val (.int p3), .val (.int p4), .val (.int p5), .val (.int (4 : Int32)), .val (.int (0 : Int32)), .val (.ref b89), .unset] [(.int (4 : Int32))])) _
        refine XS.iconst X90.here hx rfl (hb hby at_36) ?_
        show Steps p.tables e below (T90.setTop (mkF m 37 #[.val (.int p1), .val (.int p2), .val (.int p3), .val (.int p4), .val (.int p5), .val (.int (4 : Int32)), .val (.int (0 : Int32)), .val (.ref b89), .unset] [(.int (1 : Int32)), (.int (4 : Int32))])) _
        refine XS.icmpNo X90.here hx rfl (hb hby at_37) rfl (flt ((by decide) : ¬ ((4 : Int32) < (1 : Int32)))).1 ?_
        show Steps p.tables e below (T90.setTop (mkF m 40 #[.val (.int p1), .val (.int p2), .val (.int p3), .val (.int p4), .val (.int p5), .val (.int (4 : Int32)), .val (.int (0 : Int32)), .val (.ref b89), .unset] [])) _
        refine XS.aload X90.here hx rfl (hb hby at_40) rfl rfl ?_
        show Steps p.tables e below (T90.setTop (mkF m 42 #[.val (.int p1), .val (.int p2), .val (.int p3), .val (.int p4), .val (.int p5), .val (.int (4 : Int32)), .val (.int (0 : Int32)), .val (.ref b89), .unset] [(.ref b89)])) _
        refine XS.iloadN X90.here hx rfl (hb hby at_42) rfl ?_
        show Steps p.tables e below (T90.setTop (mkF m 43 #[.val (.int p1), .val (.int p2), .val (.int p3), .val (.int p4), .val (.int p5), .val (.int (4 : Int32)), .val (.int (0 : Int32)), .val (.ref b89), .unset] [(.int p2), (.ref b89)])) _
        refine st94.trans ?_
        show Steps p.tables e below (T94.setTop (mkF m 46 #[.val (.int p1), .val (.int p2), .val (.int p3), .val (.int p4), .val (.int p5), .val (.int (4 : Int32)), .val (.int (0 : Int32)), .val (.ref b89), .unset] [])) _
        refine XS.iload X94.here hx rfl (hb hby at_46) rfl ?_
        show Steps p.tables e below (T94.setTop (mkF m 48 #[.val (.int p1), .val (.int p2), .val (.int p3), .val (.int p4), .val (.int p5), .val (.int (4 : Int32)), .val (.int (0 : Int32)), .val (.ref b89), .unset] [(.int (4 : Int32))])) _
        refine XS.iconst X94.here hx rfl (hb hby at_48) ?_
        show Steps p.tables e below (T94.setTop (mkF m 49 #[.val (.int p1), .val (.int p2), .val (.int p3), .val (.int p4), .val (.int p5), .val (.int (4 : Int32)), .val (.int (0 : Int32)), .val (.ref b89), .unset] [(.int (2 : Int32)), (.int (4 : Int32))])) _
        refine XS.icmpNo X94.here hx rfl (hb hby at_49) rfl (flt ((by decide) : ¬ ((4 : Int32) < (2 : Int32)))).1 ?_
        show Steps p.tables e below (T94.setTop (mkF m 52 #[.val (.int p1), .val (.int p2), .val (.int p3), .val (.int p4), .val (.int p5), .val (.int (4 : Int32)), .val (.int (0 : Int32)), .val (.ref b89), .unset] [])) _
        refine XS.aload X94.here hx rfl (hb hby at_52) rfl rfl ?_
        show Steps p.tables e below (T94.setTop (mkF m 54 #[.val (.int p1), .val (.int p2), .val (.int p3), .val (.int p4), .val (.int p5), .val (.int (4 : Int32)), .val (.int (0 : Int32)), .val (.ref b89), .unset] [(.ref b89)])) _
        refine XS.iloadN X94.here hx rfl (hb hby at_54) rfl ?_
        show Steps p.tables e below (T94.setTop (mkF m 55 #[.val (.int p1), .val (.int p2), .val (.int p3), .val (.int p4), .val (.int p5), .val (.int (4 : Int32)), .val (.int (0 : Int32)), .val (.ref b89), .unset] [(.int p3), (.ref b89)])) _
        refine st98.trans ?_
        show Steps p.tables e below (T98.setTop (mkF m 58 #[.val (.int p1), .val (.int p2), .val (.int p3), .val (.int p4), .val (.int p5), .val (.int (4 : Int32)), .val (.int (0 : Int32)), .val (.ref b89), .unset] [])) _
        refine XS.iload X98.here hx rfl (hb hby at_58) rfl ?_
        show Steps p.tables e below (T98.setTop (mkF m 60 #[.val (.int p1), .val (.int p2), .val (.int p3), .val (.int p4), .val (.int p5), .val (.int (4 : Int32)), .val (.int (0 : Int32)), .val (.ref b89), .unset] [(.int (4 : Int32))])) _
        refine XS.iconst X98.here hx rfl (hb hby at_60) ?_
        show Steps p.tables e below (T98.setTop (mkF m 61 #[.val (.int p1), .val (.int p2), .val (.int p3), .val (.int p4), .val (.int p5), .val (.int (4 : Int32)), .val (.int (0 : Int32)), .val (.ref b89), .unset] [(.int (3 : Int32)), (.int (4 : Int32))])) _
        refine XS.icmpNo X98.here hx rfl (hb hby at_61) rfl (flt ((by decide) : ¬ ((4 : Int32) < (3 : Int32)))).1 ?_
        show Steps p.tables e below (T98.setTop (mkF m 64 #[.val (.int p1), .val (.int p2), .val (.int p3), .val (.int p4), .val (.int p5), .val (.int (4 : Int32)), .val (.int (0 : Int32)), .val (.ref b89), .unset] [])) _
        refine XS.aload X98.here hx rfl (hb hby at_64) rfl rfl ?_
        show Steps p.tables e below (T98.setTop (mkF m 66 #[.val (.int p1), .val (.int p2), .val (.int p3), .val (.int p4), .val (.int p5), .val (.int (4 : Int32)), .val (.int (0 : Int32)), .val (.ref b89), .unset] [(.ref b89)])) _
        refine XS.iloadN X98.here hx rfl (hb hby at_66) rfl ?_
        show Steps p.tables e below (T98.setTop (mkF m 67 #[.val (.int p1), .val (.int p2), .val (.int p3), .val (.int p4), .val (.int p5), .val (.int (4 : Int32)), .val (.int (0 : Int32)), .val (.ref b89), .unset] [(.int p4), (.ref b89)])) _
        refine st102.trans ?_
        show Steps p.tables e below (T102.setTop (mkF m 70 #[.val (.int p1), .val (.int p2), .val (.int p3), .val (.int p4), .val (.int p5), .val (.int (4 : Int32)), .val (.int (0 : Int32)), .val (.ref b89), .unset] [])) _
        refine XS.iload X102.here hx rfl (hb hby at_70) rfl ?_
        show Steps p.tables e below (T102.setTop (mkF m 72 #[.val (.int p1), .val (.int p2), .val (.int p3), .val (.int p4), .val (.int p5), .val (.int (4 : Int32)), .val (.int (0 : Int32)), .val (.ref b89), .unset] [(.int (4 : Int32))])) _
        refine XS.iconst X102.here hx rfl (hb hby at_72) ?_
        show Steps p.tables e below (T102.setTop (mkF m 73 #[.val (.int p1), .val (.int p2), .val (.int p3), .val (.int p4), .val (.int p5), .val (.int (4 : Int32)), .val (.int (0 : Int32)), .val (.ref b89), .unset] [(.int (4 : Int32)), (.int (4 : Int32))])) _
        refine XS.icmpNo X102.here hx rfl (hb hby at_73) rfl (flt ((by decide) : ¬ ((4 : Int32) < (4 : Int32)))).1 ?_
        show Steps p.tables e below (T102.setTop (mkF m 76 #[.val (.int p1), .val (.int p2), .val (.int p3), .val (.int p4), .val (.int p5), .val (.int (4 : Int32)), .val (.int (0 : Int32)), .val (.ref b89), .unset] [])) _
        refine XS.aload X102.here hx rfl (hb hby at_76) rfl rfl ?_
        show Steps p.tables e below (T102.setTop (mkF m 78 #[.val (.int p1), .val (.int p2), .val (.int p3), .val (.int p4), .val (.int p5), .val (.int (4 : Int32)), .val (.int (0 : Int32)), .val (.ref b89), .unset] [(.ref b89)])) _
        refine XS.iload X102.here hx rfl (hb hby at_78) rfl ?_
        show Steps p.tables e below (T102.setTop (mkF m 80 #[.val (.int p1), .val (.int p2), .val (.int p3), .val (.int p4), .val (.int p5), .val (.int (4 : Int32)), .val (.int (0 : Int32)), .val (.ref b89), .unset] [(.int p5), (.ref b89)])) _
        refine st106.trans ?_
        show Steps p.tables e below (T106.setTop (mkF m 83 #[.val (.int p1), .val (.int p2), .val (.int p3), .val (.int p4), .val (.int p5), .val (.int (4 : Int32)), .val (.int (0 : Int32)), .val (.ref b89), .unset] [])) _
        refine XS.iload X106.here hx rfl (hb hby at_83) rfl ?_
        show Steps p.tables e below (T106.setTop (mkF m 85 #[.val (.int p1), .val (.int p2), .val (.int p3), .val (.int p4), .val (.int p5), .val (.int (4 : Int32)), .val (.int (0 : Int32)), .val (.ref b89), .unset] [(.int (0 : Int32))])) _
        refine XS.ifNo X106.here hx rfl (hb hby at_85) rfl ((if0 _ _).trans (teq ((by decide) : (0 : Int32) = (0 : Int32))).2) ?_
        show Steps p.tables e below (T106.setTop (mkF m 88 #[.val (.int p1), .val (.int p2), .val (.int p3), .val (.int p4), .val (.int p5), .val (.int (4 : Int32)), .val (.int (0 : Int32)), .val (.ref b89), .unset] [])) _
        refine XS.iload X106.here hx rfl (hb hby at_88) rfl ?_
        show Steps p.tables e below (T106.setTop (mkF m 90 #[.val (.int p1), .val (.int p2), .val (.int p3), .val (.int p4), .val (.int p5), .val (.int (4 : Int32)), .val (.int (0 : Int32)), .val (.ref b89), .unset] [(.int (4 : Int32))])) _
        refine XS.ifYes X106.here hx rfl (pc0 := 90) (pc' := 99) rfl (hb hby at_90) rfl ((if0 _ _).trans (feq ((by decide) : ¬ ((4 : Int32) = (0 : Int32)))).2) (by decide) (by decide) ?_
        show Steps p.tables e below (T106.setTop (mkF m 99 #[.val (.int p1), .val (.int p2), .val (.int p3), .val (.int p4), .val (.int p5), .val (.int (4 : Int32)), .val (.int (0 : Int32)), .val (.ref b89), .unset] [])) _
        refine XS.iload X106.here hx rfl (hb hby at_99) rfl ?_
        show Steps p.tables e below (T106.setTop (mkF m 101 #[.val (.int p1), .val (.int p2), .val (.int p3), .val (.int p4), .val (.int p5), .val (.int (4 : Int32)), .val (.int (0 : Int32)), .val (.ref b89), .unset] [(.int (4 : Int32))])) _
        refine XS.iconst X106.here hx rfl (hb hby at_101) ?_
        show Steps p.tables e below (T106.setTop (mkF m 102 #[.val (.int p1), .val (.int p2), .val (.int p3), .val (.int p4), .val (.int p5), .val (.int (4 : Int32)), .val (.int (0 : Int32)), .val (.ref b89), .unset] [(.int (1 : Int32)), (.int (4 : Int32))])) _
        refine XS.icmpYes X106.here hx rfl (pc0 := 102) (pc' := 114) rfl (hb hby at_102) rfl (feq ((by decide) : ¬ ((4 : Int32) = (1 : Int32)))).2 (by decide) (by decide) ?_
        show Steps p.tables e below (T106.setTop (mkF m 114 #[.val (.int p1), .val (.int p2), .val (.int p3), .val (.int p4), .val (.int p5), .val (.int (4 : Int32)), .val (.int (0 : Int32)), .val (.ref b89), .unset] [])) _
        refine XS.iload X106.here hx rfl (hb hby at_114) rfl ?_
        show Steps p.tables e below (T106.setTop (mkF m 116 #[.val (.int p1), .val (.int p2), .val (.int p3), .val (.int p4), .val (.int p5), .val (.int (4 : Int32)), .val (.int (0 : Int32)), .val (.ref b89), .unset] [(.int (4 : Int32))])) _
        refine XS.iconst X106.here hx rfl (hb hby at_116) ?_
        show Steps p.tables e below (T106.setTop (mkF m 117 #[.val (.int p1), .val (.int p2), .val (.int p3), .val (.int p4), .val (.int p5), .val (.int (4 : Int32)), .val (.int (0 : Int32)), .val (.ref b89), .unset] [(.int (2 : Int32)), (.int (4 : Int32))])) _
        refine XS.icmpYes X106.here hx rfl (pc0 := 117) (pc' := 135) rfl (hb hby at_117) rfl (feq ((by decide) : ¬ ((4 : Int32) = (2 : Int32)))).2 (by decide) (by decide) ?_
        show Steps p.tables e below (T106.setTop (mkF m 135 #[.val (.int p1), .val (.int p2), .val (.int p3), .val (.int p4), .val (.int p5), .val (.int (4 : Int32)), .val (.int (0 : Int32)), .val (.ref b89), .unset] [])) _
        refine XS.iload X106.here hx rfl (hb hby at_135) rfl ?_
        show Steps p.tables e below (T106.setTop (mkF m 137 #[.val (.int p1), .val (.int p2), .val (.int p3), .val (.int p4), .val (.int p5), .val (.int (4 : Int32)), .val (.int (0 : Int32)), .val (.ref b89), .unset] [(.int (4 : Int32))])) _
        refine XS.iconst X106.here hx rfl (hb hby at_137) ?_
        show Steps p.tables e below (T106.setTop (mkF m 138 #[.val (.int p1), .val (.int p2), .val (.int p3), .val (.int p4), .val (.int p5), .val (.int (4 : Int32)), .val (.int (0 : Int32)), .val (.ref b89), .unset] [(.int (3 : Int32)), (.int (4 : Int32))])) _
        refine XS.icmpYes X106.here hx rfl (pc0 := 138) (pc' := 162) rfl (hb hby at_138) rfl (feq ((by decide) : ¬ ((4 : Int32) = (3 : Int32)))).2 (by decide) (by decide) ?_
        show Steps p.tables e below (T106.setTop (mkF m 162 #[.val (.int p1), .val (.int p2), .val (.int p3), .val (.int p4), .val (.int p5), .val (.int (4 : Int32)), .val (.int (0 : Int32)), .val (.ref b89), .unset] [])) _
        refine X106.ldcInt hx hown (mvT hZ (hw _ (List.mem_of_getElem? (i := 38) rfl))) (g := (mkF m 162 #[.val (.int p1), .val (.int p2), .val (.int p3), .val (.int p4), .val (.int p5), .val (.int (4 : Int32)), .val (.int (0 : Int32)), .val (.ref b89), .unset] [])) rfl (hb hby at_162) _ ?_
        show Steps p.tables e below (T106.setTop (mkF m 164 #[.val (.int p1), .val (.int p2), .val (.int p3), .val (.int p4), .val (.int p5), .val (.int (4 : Int32)), .val (.int (0 : Int32)), .val (.ref b89), .unset] [(.int (923521 : Int32))])) _
        refine XS.sipush X106.here hx rfl (hb hby at_164) ?_
        show Steps p.tables e below (T106.setTop (mkF m 167 #[.val (.int p1), .val (.int p2), .val (.int p3), .val (.int p4), .val (.int p5), .val (.int (4 : Int32)), .val (.int (0 : Int32)), .val (.ref b89), .unset] [(.int (29791 : Int32)), (.int (923521 : Int32))])) _
        refine XS.iloadN X106.here hx rfl (hb hby at_167) rfl ?_
        show Steps p.tables e below (T106.setTop (mkF m 168 #[.val (.int p1), .val (.int p2), .val (.int p3), .val (.int p4), .val (.int p5), .val (.int (4 : Int32)), .val (.int (0 : Int32)), .val (.ref b89), .unset] [(.int p2), (.int (29791 : Int32)), (.int (923521 : Int32))])) _
        refine XS.imul X106.here hx rfl (hb hby at_168) rfl ?_
        show Steps p.tables e below (T106.setTop (mkF m 169 #[.val (.int p1), .val (.int p2), .val (.int p3), .val (.int p4), .val (.int p5), .val (.int (4 : Int32)), .val (.int (0 : Int32)), .val (.ref b89), .unset] [(.int ((29791 : Int32) * p2)), (.int (923521 : Int32))])) _
        refine XS.iadd X106.here hx rfl (hb hby at_169) rfl ?_
        show Steps p.tables e below (T106.setTop (mkF m 170 #[.val (.int p1), .val (.int p2), .val (.int p3), .val (.int p4), .val (.int p5), .val (.int (4 : Int32)), .val (.int (0 : Int32)), .val (.ref b89), .unset] [(.int ((923521 : Int32) + ((29791 : Int32) * p2)))])) _
        refine XS.sipush X106.here hx rfl (hb hby at_170) ?_
        show Steps p.tables e below (T106.setTop (mkF m 173 #[.val (.int p1), .val (.int p2), .val (.int p3), .val (.int p4), .val (.int p5), .val (.int (4 : Int32)), .val (.int (0 : Int32)), .val (.ref b89), .unset] [(.int (961 : Int32)), (.int ((923521 : Int32) + ((29791 : Int32) * p2)))])) _
        refine XS.iloadN X106.here hx rfl (hb hby at_173) rfl ?_
        show Steps p.tables e below (T106.setTop (mkF m 174 #[.val (.int p1), .val (.int p2), .val (.int p3), .val (.int p4), .val (.int p5), .val (.int (4 : Int32)), .val (.int (0 : Int32)), .val (.ref b89), .unset] [(.int p3), (.int (961 : Int32)), (.int ((923521 : Int32) + ((29791 : Int32) * p2)))])) _
        refine XS.imul X106.here hx rfl (hb hby at_174) rfl ?_
        show Steps p.tables e below (T106.setTop (mkF m 175 #[.val (.int p1), .val (.int p2), .val (.int p3), .val (.int p4), .val (.int p5), .val (.int (4 : Int32)), .val (.int (0 : Int32)), .val (.ref b89), .unset] [(.int ((961 : Int32) * p3)), (.int ((923521 : Int32) + ((29791 : Int32) * p2)))])) _
        refine XS.iadd X106.here hx rfl (hb hby at_175) rfl ?_
        show Steps p.tables e below (T106.setTop (mkF m 176 #[.val (.int p1), .val (.int p2), .val (.int p3), .val (.int p4), .val (.int p5), .val (.int (4 : Int32)), .val (.int (0 : Int32)), .val (.ref b89), .unset] [(.int (((923521 : Int32) + ((29791 : Int32) * p2)) + ((961 : Int32) * p3)))])) _
        refine XS.bipush X106.here hx rfl (hb hby at_176) ?_
        show Steps p.tables e below (T106.setTop (mkF m 178 #[.val (.int p1), .val (.int p2), .val (.int p3), .val (.int p4), .val (.int p5), .val (.int (4 : Int32)), .val (.int (0 : Int32)), .val (.ref b89), .unset] [(.int (31 : Int32)), (.int (((923521 : Int32) + ((29791 : Int32) * p2)) + ((961 : Int32) * p3)))])) _
        refine XS.iloadN X106.here hx rfl (hb hby at_178) rfl ?_
        show Steps p.tables e below (T106.setTop (mkF m 179 #[.val (.int p1), .val (.int p2), .val (.int p3), .val (.int p4), .val (.int p5), .val (.int (4 : Int32)), .val (.int (0 : Int32)), .val (.ref b89), .unset] [(.int p4), (.int (31 : Int32)), (.int (((923521 : Int32) + ((29791 : Int32) * p2)) + ((961 : Int32) * p3)))])) _
        refine XS.imul X106.here hx rfl (hb hby at_179) rfl ?_
        show Steps p.tables e below (T106.setTop (mkF m 180 #[.val (.int p1), .val (.int p2), .val (.int p3), .val (.int p4), .val (.int p5), .val (.int (4 : Int32)), .val (.int (0 : Int32)), .val (.ref b89), .unset] [(.int ((31 : Int32) * p4)), (.int (((923521 : Int32) + ((29791 : Int32) * p2)) + ((961 : Int32) * p3)))])) _
        refine XS.iadd X106.here hx rfl (hb hby at_180) rfl ?_
        show Steps p.tables e below (T106.setTop (mkF m 181 #[.val (.int p1), .val (.int p2), .val (.int p3), .val (.int p4), .val (.int p5), .val (.int (4 : Int32)), .val (.int (0 : Int32)), .val (.ref b89), .unset] [(.int ((((923521 : Int32) + ((29791 : Int32) * p2)) + ((961 : Int32) * p3)) + ((31 : Int32) * p4)))])) _
        refine XS.iload X106.here hx rfl (hb hby at_181) rfl ?_
        show Steps p.tables e below (T106.setTop (mkF m 183 #[.val (.int p1), .val (.int p2), .val (.int p3), .val (.int p4), .val (.int p5), .val (.int (4 : Int32)), .val (.int (0 : Int32)), .val (.ref b89), .unset] [(.int p5), (.int ((((923521 : Int32) + ((29791 : Int32) * p2)) + ((961 : Int32) * p3)) + ((31 : Int32) * p4)))])) _
        refine XS.iadd X106.here hx rfl (hb hby at_183) rfl ?_
        show Steps p.tables e below (T106.setTop (mkF m 184 #[.val (.int p1), .val (.int p2), .val (.int p3), .val (.int p4), .val (.int p5), .val (.int (4 : Int32)), .val (.int (0 : Int32)), .val (.ref b89), .unset] [(.int (((((923521 : Int32) + ((29791 : Int32) * p2)) + ((961 : Int32) * p3)) + ((31 : Int32) * p4)) + p5))])) _
        refine XS.istore X106.here hx rfl (hb hby at_184) rfl (l' := #[.val (.int p1), .val (.int p2), .val (.int p3), .val (.int p4), .val (.int p5), .val (.int (4 : Int32)), .val (.int (0 : Int32)), .val (.ref b89), .val (.int (((((923521 : Int32) + ((29791 : Int32) * p2)) + ((961 : Int32) * p3)) + ((31 : Int32) * p4)) + p5))]) rfl ?_
        show Steps p.tables e below (T106.setTop (mkF m 186 #[.val (.int p1), .val (.int p2), .val (.int p3), .val (.int p4), .val (.int p5), .val (.int (4 : Int32)), .val (.int (0 : Int32)), .val (.ref b89), .val (.int (((((923521 : Int32) + ((29791 : Int32) * p2)) + ((961 : Int32) * p3)) + ((31 : Int32) * p4)) + p5))] [])) _
        refine XS.aload X106.here hx rfl (hb hby at_186) rfl rfl ?_
        show Steps p.tables e below (T106.setTop (mkF m 188 #[.val (.int p1), .val (.int p2), .val (.int p3), .val (.int p4), .val (.int p5), .val (.int (4 : Int32)), .val (.int (0 : Int32)), .val (.ref b89), .val (.int (((((923521 : Int32) + ((29791 : Int32) * p2)) + ((961 : Int32) * p3)) + ((31 : Int32) * p4)) + p5))] [(.ref b89)])) _
        refine st110.trans ?_
        show Steps p.tables e below (T110.setTop (mkF m 191 #[.val (.int p1), .val (.int p2), .val (.int p3), .val (.int p4), .val (.int p5), .val (.int (4 : Int32)), .val (.int (0 : Int32)), .val (.ref b89), .val (.int (((((923521 : Int32) + ((29791 : Int32) * p2)) + ((961 : Int32) * p3)) + ((31 : Int32) * p4)) + p5))] [(.int (own_hash (own_put (own_put (own_put (own_put (fun _ => (0 : Int32)) (0 : Int32) p2) (1 : Int32) p3) (2 : Int32) p4) (3 : Int32) p5) (4 : Int32)))])) _
        refine XS.iload X110.here hx rfl (hb hby at_191) rfl ?_
        exact kt
      show own_End p e below s (T110.setTop (mkF m 193 #[.val (.int p1), .val (.int p2), .val (.int p3), .val (.int p4), .val (.int p5), .val (.int (4 : Int32)), .val (.int (0 : Int32)), .val (.ref b89), .val (.int (((((923521 : Int32) + ((29791 : Int32) * p2)) + ((961 : Int32) * p3)) + ((31 : Int32) * p4)) + p5))] [(.int (((((923521 : Int32) + ((29791 : Int32) * p2)) + ((961 : Int32) * p3)) + ((31 : Int32) * p4)) + p5)), (.int (own_hash (own_put (own_put (own_put (own_put (fun _ => (0 : Int32)) (0 : Int32) p2) (1 : Int32) p3) (2 : Int32) p4) (3 : Int32) p5) (4 : Int32)))])) (Q0 Z p1 p2 p3 p4 p5 h0 n0) room_1.cells room_1.slots
      by_cases hc193_111 : (own_hash (own_put (own_put (own_put (own_put (fun _ => (0 : Int32)) (0 : Int32) p2) (1 : Int32) p3) (2 : Int32) p4) (3 : Int32) p5) (4 : Int32)) = (((((923521 : Int32) + ((29791 : Int32) * p2)) + ((961 : Int32) * p3)) + ((31 : Int32) * p4)) + p5)
      · refine own_pre (A := T110.setTop (mkF m 201 #[.val (.int p1), .val (.int p2), .val (.int p3), .val (.int p4), .val (.int p5), .val (.int (4 : Int32)), .val (.int (0 : Int32)), .val (.ref b89), .val (.int (((((923521 : Int32) + ((29791 : Int32) * p2)) + ((961 : Int32) * p3)) + ((31 : Int32) * p4)) + p5))] [(.int (1 : Int32))])) (fun tt kt => ?_) ?_
        · show Steps p.tables e below (T110.setTop (mkF m 193 #[.val (.int p1), .val (.int p2), .val (.int p3), .val (.int p4), .val (.int p5), .val (.int (4 : Int32)), .val (.int (0 : Int32)), .val (.ref b89), .val (.int (((((923521 : Int32) + ((29791 : Int32) * p2)) + ((961 : Int32) * p3)) + ((31 : Int32) * p4)) + p5))] [(.int (((((923521 : Int32) + ((29791 : Int32) * p2)) + ((961 : Int32) * p3)) + ((31 : Int32) * p4)) + p5)), (.int (own_hash (own_put (own_put (own_put (own_put (fun _ => (0 : Int32)) (0 : Int32) p2) (1 : Int32) p3) (2 : Int32) p4) (3 : Int32) p5) (4 : Int32)))])) _
          refine XS.icmpNo X110.here hx rfl (hb hby at_193) rfl (teq hc193_111).2 ?_
          show Steps p.tables e below (T110.setTop (mkF m 196 #[.val (.int p1), .val (.int p2), .val (.int p3), .val (.int p4), .val (.int p5), .val (.int (4 : Int32)), .val (.int (0 : Int32)), .val (.ref b89), .val (.int (((((923521 : Int32) + ((29791 : Int32) * p2)) + ((961 : Int32) * p3)) + ((31 : Int32) * p4)) + p5))] [])) _
          refine XS.iconst X110.here hx rfl (hb hby at_196) ?_
          show Steps p.tables e below (T110.setTop (mkF m 197 #[.val (.int p1), .val (.int p2), .val (.int p3), .val (.int p4), .val (.int p5), .val (.int (4 : Int32)), .val (.int (0 : Int32)), .val (.ref b89), .val (.int (((((923521 : Int32) + ((29791 : Int32) * p2)) + ((961 : Int32) * p3)) + ((31 : Int32) * p4)) + p5))] [(.int (1 : Int32))])) _
          refine XS.goto X110.here hx rfl (pc0 := 197) (pc' := 201) rfl (hb hby at_197) (by decide) (by decide) ?_
          exact kt
        show own_End p e below s (T110.setTop (mkF m 201 #[.val (.int p1), .val (.int p2), .val (.int p3), .val (.int p4), .val (.int p5), .val (.int (4 : Int32)), .val (.int (0 : Int32)), .val (.ref b89), .val (.int (((((923521 : Int32) + ((29791 : Int32) * p2)) + ((961 : Int32) * p3)) + ((31 : Int32) * p4)) + p5))] [(.int (1 : Int32))])) (Q0 Z p1 p2 p3 p4 p5 h0 n0) room_1.cells room_1.slots
        have hv : (own_law p1 p2 p3 p4 p5) = (1 : Int32) := hj.trans (by simp only [own_law_8, if_neg hs1_0, if_neg hs1_1, if_neg hs1_2, if_neg hs1_3, if_pos hc12_88, if_pos hc193_111])
        obtain ⟨fs, hr, hrun, hended, hW, hsame⟩ := X110.leave (v := some (.int (1 : Int32))) (fun h => by rw [Bd.returns] at h; cases h)
        refine ⟨_, _, ?_, hrun, hended, _, _, rfl, ?_, ⟨_, rfl⟩, hW, hsame.mono (by decide) (by decide)⟩
        · exact retN X110 hx (t := .boolean) Bd.returns (by simp) (hb hby at_201) hr
        · show Q0 Z p1 p2 p3 p4 p5 h0 n0 _ T110.heap _
          rw [e110]
          exact ⟨(congrArg (fun z => some (Value.int z)) hv.symm), N110⟩
      · refine own_pre (A := T110.setTop (mkF m 201 #[.val (.int p1), .val (.int p2), .val (.int p3), .val (.int p4), .val (.int p5), .val (.int (4 : Int32)), .val (.int (0 : Int32)), .val (.ref b89), .val (.int (((((923521 : Int32) + ((29791 : Int32) * p2)) + ((961 : Int32) * p3)) + ((31 : Int32) * p4)) + p5))] [(.int (0 : Int32))])) (fun tt kt => ?_) ?_
        · show Steps p.tables e below (T110.setTop (mkF m 193 #[.val (.int p1), .val (.int p2), .val (.int p3), .val (.int p4), .val (.int p5), .val (.int (4 : Int32)), .val (.int (0 : Int32)), .val (.ref b89), .val (.int (((((923521 : Int32) + ((29791 : Int32) * p2)) + ((961 : Int32) * p3)) + ((31 : Int32) * p4)) + p5))] [(.int (((((923521 : Int32) + ((29791 : Int32) * p2)) + ((961 : Int32) * p3)) + ((31 : Int32) * p4)) + p5)), (.int (own_hash (own_put (own_put (own_put (own_put (fun _ => (0 : Int32)) (0 : Int32) p2) (1 : Int32) p3) (2 : Int32) p4) (3 : Int32) p5) (4 : Int32)))])) _
          refine XS.icmpYes X110.here hx rfl (pc0 := 193) (pc' := 200) rfl (hb hby at_193) rfl (feq hc193_111).2 (by decide) (by decide) ?_
          show Steps p.tables e below (T110.setTop (mkF m 200 #[.val (.int p1), .val (.int p2), .val (.int p3), .val (.int p4), .val (.int p5), .val (.int (4 : Int32)), .val (.int (0 : Int32)), .val (.ref b89), .val (.int (((((923521 : Int32) + ((29791 : Int32) * p2)) + ((961 : Int32) * p3)) + ((31 : Int32) * p4)) + p5))] [])) _
          refine XS.iconst X110.here hx rfl (hb hby at_200) ?_
          exact kt
        show own_End p e below s (T110.setTop (mkF m 201 #[.val (.int p1), .val (.int p2), .val (.int p3), .val (.int p4), .val (.int p5), .val (.int (4 : Int32)), .val (.int (0 : Int32)), .val (.ref b89), .val (.int (((((923521 : Int32) + ((29791 : Int32) * p2)) + ((961 : Int32) * p3)) + ((31 : Int32) * p4)) + p5))] [(.int (0 : Int32))])) (Q0 Z p1 p2 p3 p4 p5 h0 n0) room_1.cells room_1.slots
        have hv : (own_law p1 p2 p3 p4 p5) = (0 : Int32) := hj.trans (by simp only [own_law_8, if_neg hs1_0, if_neg hs1_1, if_neg hs1_2, if_neg hs1_3, if_pos hc12_88, if_neg hc193_111])
        obtain ⟨fs, hr, hrun, hended, hW, hsame⟩ := X110.leave (v := some (.int (0 : Int32))) (fun h => by rw [Bd.returns] at h; cases h)
        refine ⟨_, _, ?_, hrun, hended, _, _, rfl, ?_, ⟨_, rfl⟩, hW, hsame.mono (by decide) (by decide)⟩
        · exact retN X110 hx (t := .boolean) Bd.returns (by simp) (hb hby at_201) hr
        · show Q0 Z p1 p2 p3 p4 p5 h0 n0 _ T110.heap _
          rw [e110]
          exact ⟨(congrArg (fun z => some (Value.int z)) hv.symm), N110⟩
    · obtain ⟨T112, h112, X112, e112, E112, A112, D112, -, st112⟩ := newO Xj8 hx hZ hown (hw _ (List.mem_of_getElem? (i := 0) rfl)) (hw _ (List.mem_of_getElem? (i := 1) rfl)) (hw _ (List.mem_of_getElem? (i := 2) rfl)) ej8 (g := (mkF m 22 #[.val (.int p1), .val (.int p2), .val (.int p3), .val (.int p4), .val (.int p5), .val (.int (4 : Int32)), .val (.int (1 : Int32)), .unset, .unset] [])) rfl (hb hby at_22) (by decide) (by decide)
      obtain ⟨b112, g112⟩ : ∃ z, z = h0.size := ⟨_, rfl⟩
      rw [← g112] at A112 D112 st112
      have g_b112 : n0 ≤ b112 := Nat.le_trans Z0 (Nat.le_of_eq g112.symm)
      have sz_b112 : h0.size ≤ b112 := Nat.le_trans (show Keep h0 h0 [] from (Keep.refl h0 _)).1 (Nat.le_of_eq g112.symm)
      have K112 : Keep h0 h112 [] := Keep.ext (Keep.refl h0 _) E112
      have Z112 : n0 ≤ h112.size := Nat.le_trans Z0 E112.1
      have F_stamp_b112 : Fld Z h112 b112 "com/example/libfacet/libfacet/regex/StateSet" "stamp" "I" (.int (0 : Int32)) := D112 (Or.inl (hw _ (List.mem_of_getElem? (i := 10) rfl))) (ty := .int) (by decide)
      have F_stack_b112 : Fld Z h112 b112 "com/example/libfacet/libfacet/regex/StateSet" "stack" "[I" .null := D112 (Or.inl (hw _ (List.mem_of_getElem? (i := 13) rfl))) (ty := (.array .int)) (by decide)
      have F_instructions_b112 : Fld Z h112 b112 "com/example/libfacet/libfacet/regex/StateSet" "instructions" "I" (.int (0 : Int32)) := D112 (Or.inr (hw _ (List.mem_of_getElem? (i := 15) rfl))) (ty := .int) (by decide)
      have F_members_b112 : Fld Z h112 b112 "com/example/libfacet/libfacet/regex/StateSet" "members" "[I" .null := D112 (Or.inl (hw _ (List.mem_of_getElem? (i := 17) rfl))) (ty := (.array .int)) (by decide)
      have F_marks_b112 : Fld Z h112 b112 "com/example/libfacet/libfacet/regex/StateSet" "marks" "[C" .null := D112 (Or.inr (hw _ (List.mem_of_getElem? (i := 20) rfl))) (ty := (.array .char)) (by decide)
      have F_markBits_b112 : Fld Z h112 b112 "com/example/libfacet/libfacet/regex/StateSet" "markBits" "[J" .null := D112 (Or.inr (hw _ (List.mem_of_getElem? (i := 22) rfl))) (ty := (.array .long)) (by decide)
      have F_marked_b112 : Fld Z h112 b112 "com/example/libfacet/libfacet/regex/StateSet" "marked" "[I" .null := D112 (Or.inl (hw _ (List.mem_of_getElem? (i := 24) rfl))) (ty := (.array .int)) (by decide)
      have F_size_b112 : Fld Z h112 b112 "com/example/libfacet/libfacet/regex/StateSet" "size" "I" (.int (0 : Int32)) := D112 (Or.inl (hw _ (List.mem_of_getElem? (i := 31) rfl))) (ty := .int) (by decide)
      obtain ⟨_, _, ⟨T113, L113, k113, n113⟩, -, X113, ⟨Lc113, hQ113, l113, y113, z113⟩, st113⟩ := X112.specialBack hx (y := (⟨"com/example/libfacet/libfacet/regex/StateSet", "<init>", "(IZ)V"⟩ : MethodName)) rfl hown (mvT hZ (hw _ (List.mem_of_getElem? (i := 3) rfl))) (mvT hZ (hw _ (List.mem_of_getElem? (i := 4) rfl))) (mvT hZ (hw _ (List.mem_of_getElem? (i := 5) rfl))) (by decide) (backOf (W := 1) (rm1L l Z a0 hw [] b112 (0 : Int32) (0 : Int32) (0 : Int32) h112 n0 Z112 ⟨A112, F_stamp_b112, F_stack_b112, F_instructions_b112, F_members_b112, F_marks_b112, F_markBits_b112, F_marked_b112, F_size_b112⟩ g_b112) hZ (hw _ (List.mem_of_getElem? (i := 5) rfl)) (hw _ (List.mem_of_getElem? (i := 2) rfl)) (by decide) (by decide)) (g := (mkF m 29 #[.val (.int p1), .val (.int p2), .val (.int p3), .val (.int p4), .val (.int p5), .val (.int (4 : Int32)), .val (.int (1 : Int32)), .unset, .unset] [(.int (1 : Int32)), (.int (4 : Int32)), (.ref b112), (.ref b112)])) rfl (by rw [hml]; rfl) (Steps.refl _) (a := b112) (argsL := [(.int (4 : Int32)), (.int (1 : Int32))]) (rest := [(.ref b112)]) (lenOf pd_0_0 rfl) rfl (by show 2 * 0 + _ ≤ _; exact Nat.le_of_eq rfl) (hb hby at_29) (fun _ _ => ⟨rfl, e112, (by decide : 1 + 3 ≤ _), (by decide : 10 + 33 ≤ _)⟩)
      dsimp only [Pt.U, Pt.locs, Pt.cells, Pt.slots] at X113 l113 y113 z113 st113 hQ113
      subst l113 y113 z113
      obtain ⟨rfl, N113q, Kq113, O113_0⟩ := hQ113
      have N113 := Fr.app Nj8 N113q
      have fE_b112_x113 := (A112.keep Kq113)
      have K113 : Keep h0 T113.heap [] := Keep.trans K112 Kq113 (allS (Or.inr sz_b112) all0)
      have Z113 : n0 ≤ T113.heap.size := Nat.le_trans Z112 Kq113.1
      obtain ⟨E_b112_114, F_members_b112_115, F_size_b112_116⟩ := O113_0
      obtain ⟨cq117, kq117, q117a, q117b, q117c⟩ := isOf hZ rfl E_b112_114
      obtain ⟨_, _, ⟨T117, L117, k117, n117⟩, -, X117, ⟨Lc117, hQ117, l117, y117, z117⟩, st117⟩ := X113.virtualBack hx (y := (⟨"com/example/libfacet/libfacet/regex/StateSet", "add", "(I)V"⟩ : MethodName)) (z := (⟨"com/example/libfacet/libfacet/regex/StateSet", "add", "(I)V"⟩ : MethodName)) hown (mvT hZ (hw _ (List.mem_of_getElem? (i := 32) rfl))) (mvT hZ (hw _ (List.mem_of_getElem? (i := 33) rfl))) (notFace_of_selects (args := #[]) (mvT hZ (hw _ (List.mem_of_getElem? (i := 35) rfl)))) (mvT hZ (hw _ (List.mem_of_getElem? (i := 35) rfl))) (mvT hZ (hw _ (List.mem_of_getElem? (i := 34) rfl))) (by decide) (backOf (W := 0) (rm4L l Z a0 hw [] b112 p2 (0 : Int32) T113.heap n0 Z113 ⟨E_b112_114, F_members_b112_115, F_size_b112_116⟩) hZ (hw _ (List.mem_of_getElem? (i := 36) rfl)) (hw _ (List.mem_of_getElem? (i := 2) rfl)) (by decide) (by decide)) q117a q117c (g := (mkF m 43 #[.val (.int p1), .val (.int p2), .val (.int p3), .val (.int p4), .val (.int p5), .val (.int (4 : Int32)), .val (.int (1 : Int32)), .val (.ref b112), .unset] [(.int p2), (.ref b112)])) rfl (by rw [hml]; rfl) (Steps.refl _) (argsL := [(.int p2)]) (rest := []) (lenOf pd_0_2 rfl) rfl (by show 2 * 0 + _ ≤ _; exact Nat.le_of_eq rfl) (hb hby at_43) (fun _ _ => ⟨rfl, rfl, (by decide : 4 + 0 ≤ _), (by decide : 43 + 0 ≤ _)⟩)
      dsimp only [Pt.U, Pt.locs, Pt.cells, Pt.slots] at X117 l117 y117 z117 st117 hQ117
      subst l117 y117 z117
      obtain ⟨rfl, N117q, e117⟩ := hQ117
      have N117 := Fr.app N113 N117q
      obtain ⟨cq118, kq118, q118a, q118b, q118c⟩ := isOf hZ e117 E_b112_114
      obtain ⟨_, _, ⟨T118, L118, k118, n118⟩, -, X118, ⟨Lc118, hQ118, l118, y118, z118⟩, st118⟩ := X117.virtualBack hx (y := (⟨"com/example/libfacet/libfacet/regex/StateSet", "add", "(I)V"⟩ : MethodName)) (z := (⟨"com/example/libfacet/libfacet/regex/StateSet", "add", "(I)V"⟩ : MethodName)) hown (mvT hZ (hw _ (List.mem_of_getElem? (i := 32) rfl))) (mvT hZ (hw _ (List.mem_of_getElem? (i := 33) rfl))) (notFace_of_selects (args := #[]) (mvT hZ (hw _ (List.mem_of_getElem? (i := 35) rfl)))) (mvT hZ (hw _ (List.mem_of_getElem? (i := 35) rfl))) (mvT hZ (hw _ (List.mem_of_getElem? (i := 34) rfl))) (by decide) (backOf (W := 0) (rm4L l Z a0 hw [] b112 p3 (0 : Int32) T113.heap n0 Z113 ⟨E_b112_114, F_members_b112_115, F_size_b112_116⟩) hZ (hw _ (List.mem_of_getElem? (i := 36) rfl)) (hw _ (List.mem_of_getElem? (i := 2) rfl)) (by decide) (by decide)) q118a q118c (g := (mkF m 55 #[.val (.int p1), .val (.int p2), .val (.int p3), .val (.int p4), .val (.int p5), .val (.int (4 : Int32)), .val (.int (1 : Int32)), .val (.ref b112), .unset] [(.int p3), (.ref b112)])) rfl (by rw [hml]; rfl) (Steps.refl _) (argsL := [(.int p3)]) (rest := []) (lenOf pd_0_2 rfl) rfl (by show 2 * 0 + _ ≤ _; exact Nat.le_of_eq rfl) (hb hby at_55) (fun _ _ => ⟨rfl, e117, (by decide : 4 + 0 ≤ _), (by decide : 43 + 0 ≤ _)⟩)
      dsimp only [Pt.U, Pt.locs, Pt.cells, Pt.slots] at X118 l118 y118 z118 st118 hQ118
      subst l118 y118 z118
      obtain ⟨rfl, N118q, e118⟩ := hQ118
      have N118 := Fr.app N117 N118q
      obtain ⟨cq119, kq119, q119a, q119b, q119c⟩ := isOf hZ e118 E_b112_114
      obtain ⟨_, _, ⟨T119, L119, k119, n119⟩, -, X119, ⟨Lc119, hQ119, l119, y119, z119⟩, st119⟩ := X118.virtualBack hx (y := (⟨"com/example/libfacet/libfacet/regex/StateSet", "add", "(I)V"⟩ : MethodName)) (z := (⟨"com/example/libfacet/libfacet/regex/StateSet", "add", "(I)V"⟩ : MethodName)) hown (mvT hZ (hw _ (List.mem_of_getElem? (i := 32) rfl))) (mvT hZ (hw _ (List.mem_of_getElem? (i := 33) rfl))) (notFace_of_selects (args := #[]) (mvT hZ (hw _ (List.mem_of_getElem? (i := 35) rfl)))) (mvT hZ (hw _ (List.mem_of_getElem? (i := 35) rfl))) (mvT hZ (hw _ (List.mem_of_getElem? (i := 34) rfl))) (by decide) (backOf (W := 0) (rm4L l Z a0 hw [] b112 p4 (0 : Int32) T113.heap n0 Z113 ⟨E_b112_114, F_members_b112_115, F_size_b112_116⟩) hZ (hw _ (List.mem_of_getElem? (i := 36) rfl)) (hw _ (List.mem_of_getElem? (i := 2) rfl)) (by decide) (by decide)) q119a q119c (g := (mkF m 67 #[.val (.int p1), .val (.int p2), .val (.int p3), .val (.int p4), .val (.int p5), .val (.int (4 : Int32)), .val (.int (1 : Int32)), .val (.ref b112), .unset] [(.int p4), (.ref b112)])) rfl (by rw [hml]; rfl) (Steps.refl _) (argsL := [(.int p4)]) (rest := []) (lenOf pd_0_2 rfl) rfl (by show 2 * 0 + _ ≤ _; exact Nat.le_of_eq rfl) (hb hby at_67) (fun _ _ => ⟨rfl, e118, (by decide : 4 + 0 ≤ _), (by decide : 43 + 0 ≤ _)⟩)
      dsimp only [Pt.U, Pt.locs, Pt.cells, Pt.slots] at X119 l119 y119 z119 st119 hQ119
      subst l119 y119 z119
      obtain ⟨rfl, N119q, e119⟩ := hQ119
      have N119 := Fr.app N118 N119q
      obtain ⟨cq120, kq120, q120a, q120b, q120c⟩ := isOf hZ e119 E_b112_114
      obtain ⟨_, _, ⟨T120, L120, k120, n120⟩, -, X120, ⟨Lc120, hQ120, l120, y120, z120⟩, st120⟩ := X119.virtualBack hx (y := (⟨"com/example/libfacet/libfacet/regex/StateSet", "add", "(I)V"⟩ : MethodName)) (z := (⟨"com/example/libfacet/libfacet/regex/StateSet", "add", "(I)V"⟩ : MethodName)) hown (mvT hZ (hw _ (List.mem_of_getElem? (i := 32) rfl))) (mvT hZ (hw _ (List.mem_of_getElem? (i := 33) rfl))) (notFace_of_selects (args := #[]) (mvT hZ (hw _ (List.mem_of_getElem? (i := 35) rfl)))) (mvT hZ (hw _ (List.mem_of_getElem? (i := 35) rfl))) (mvT hZ (hw _ (List.mem_of_getElem? (i := 34) rfl))) (by decide) (backOf (W := 0) (rm4L l Z a0 hw [] b112 p5 (0 : Int32) T113.heap n0 Z113 ⟨E_b112_114, F_members_b112_115, F_size_b112_116⟩) hZ (hw _ (List.mem_of_getElem? (i := 36) rfl)) (hw _ (List.mem_of_getElem? (i := 2) rfl)) (by decide) (by decide)) q120a q120c (g := (mkF m 80 #[.val (.int p1), .val (.int p2), .val (.int p3), .val (.int p4), .val (.int p5), .val (.int (4 : Int32)), .val (.int (1 : Int32)), .val (.ref b112), .unset] [(.int p5), (.ref b112)])) rfl (by rw [hml]; rfl) (Steps.refl _) (argsL := [(.int p5)]) (rest := []) (lenOf pd_0_2 rfl) rfl (by show 2 * 0 + _ ≤ _; exact Nat.le_of_eq rfl) (hb hby at_80) (fun _ _ => ⟨rfl, e119, (by decide : 4 + 0 ≤ _), (by decide : 43 + 0 ≤ _)⟩)
      dsimp only [Pt.U, Pt.locs, Pt.cells, Pt.slots] at X120 l120 y120 z120 st120 hQ120
      subst l120 y120 z120
      obtain ⟨rfl, N120q, e120⟩ := hQ120
      have N120 := Fr.app N119 N120q
      obtain ⟨cq121, kq121, q121a, q121b, q121c⟩ := isOf hZ e120 E_b112_114
      obtain ⟨_, _, ⟨T121, L121, k121, n121⟩, -, X121, ⟨Lc121, hQ121, l121, y121, z121⟩, st121⟩ := X120.virtualBack hx (y := (⟨"com/example/libfacet/libfacet/regex/StateSet", "membersHash", "()I"⟩ : MethodName)) (z := (⟨"com/example/libfacet/libfacet/regex/StateSet", "membersHash", "()I"⟩ : MethodName)) hown (mvT hZ (hw _ (List.mem_of_getElem? (i := 25) rfl))) (mvT hZ (hw _ (List.mem_of_getElem? (i := 26) rfl))) (notFace_of_selects (args := #[]) (mvT hZ (hw _ (List.mem_of_getElem? (i := 28) rfl)))) (mvT hZ (hw _ (List.mem_of_getElem? (i := 28) rfl))) (mvT hZ (hw _ (List.mem_of_getElem? (i := 27) rfl))) (by decide) (backOf (W := 0) (rm3L l Z a0 hw [] b112  T113.heap n0 Z113 ⟨E_b112_114, F_members_b112_115, F_size_b112_116⟩) hZ (hw _ (List.mem_of_getElem? (i := 29) rfl)) (hw _ (List.mem_of_getElem? (i := 2) rfl)) (by decide) (by decide)) q121a q121c (g := (mkF m 188 #[.val (.int p1), .val (.int p2), .val (.int p3), .val (.int p4), .val (.int p5), .val (.int (4 : Int32)), .val (.int (1 : Int32)), .val (.ref b112), .val (.int (1 : Int32))] [(.ref b112)])) rfl (by rw [hml]; rfl) (Steps.refl _) (argsL := []) (rest := []) (lenOf pd_0_1 rfl) rfl (by show 2 * 0 + _ ≤ _; exact Nat.le_of_eq rfl) (hb hby at_188) (fun _ _ => ⟨rfl, e120, (by decide : 4 + 0 ≤ _), (by decide : 43 + 0 ≤ _)⟩)
      dsimp only [Pt.U, Pt.locs, Pt.cells, Pt.slots] at X121 l121 y121 z121 st121 hQ121
      subst l121 y121 z121
      obtain ⟨rfl, N121q, e121⟩ := hQ121
      have N121 := Fr.app N120 N121q
      refine own_pre (A := T121.setTop (mkF m 201 #[.val (.int p1), .val (.int p2), .val (.int p3), .val (.int p4), .val (.int p5), .val (.int (4 : Int32)), .val (.int (1 : Int32)), .val (.ref b112), .val (.int (1 : Int32))] [(.int (1 : Int32))])) (fun tt kt => ?_) ?_
      · show Steps p.tables e below (Tj8.setTop (mkF m 12 #[.val (.int p1), .val (.int p2), .val (.int p3), .val (.int p4), .val (.int p5), .val (.int (4 : Int32)), .unset, .unset, .unset] [(.int (p1 &&& (8 : Int32)))])) _
        refine XS.ifNo Xj8.here hx rfl (hb hby at_12) rfl ((if0 _ _).trans (feq hc12_88).1) ?_
        show Steps p.tables e below (Tj8.setTop (mkF m 15 #[.val (.int p1), .val (.int p2), .val (.int p3), .val (.int p4), .val (.int p5), .val (.int (4 : Int32)), .unset, .unset, .unset] [])) _
        refine XS.iconst Xj8.here hx rfl (hb hby at_15) ?_
        show Steps p.tables e below (Tj8.setTop (mkF m 16 #[.val (.int p1), .val (.int p2), .val (.int p3), .val (.int p4), .val (.int p5), .val (.int (4 : Int32)), .unset, .unset, .unset] [(.int (1 : Int32))])) _
        refine XS.goto Xj8.here hx rfl (pc0 := 16) (pc' := 20) rfl (hb hby at_16) (by decide) (by decide) ?_
        show Steps p.tables e below (Tj8.setTop (mkF m 20 #[.val (.int p1), .val (.int p2), .val (.int p3), .val (.int p4), .val (.int p5), .val (.int (4 : Int32)), .unset, .unset, .unset] [(.int (1 : Int32))])) _
        refine XS.istore Xj8.here hx rfl (hb hby at_20) rfl (l' := #[.val (.int p1), .val (.int p2), .val (.int p3), .val (.int p4), .val (.int p5), .val (.int (4 : Int32)), .val (.int (1 : Int32)), .unset, .unset]) rfl ?_
        show Steps p.tables e below (Tj8.setTop (mkF m 22 #[.val (.int p1), .val (.int p2), .val (.int p3), .val (.int p4), .val (.int p5), .val (.int (4 : Int32)), .val (.int (1 : Int32)), .unset, .unset] [])) _
        refine st112 _ ?_
        show Steps p.tables e below (T112.setTop (mkF m 25 #[.val (.int p1), .val (.int p2), .val (.int p3), .val (.int p4), .val (.int p5), .val (.int (4 : Int32)), .val (.int (1 : Int32)), .unset, .unset] [(.ref b112)])) _
        refine XS.dup X112.here hx rfl (hb hby at_25) rfl rfl ?_
        show Steps p.tables e below (T112.setTop (mkF m 26 #[.val (.int p1), .val (.int p2), .val (.int p3), .val (.int p4), .val (.int p5), .val (.int (4 : Int32)), .val (.int (1 : Int32)), .unset, .unset] [(.ref b112), (.ref b112)])) _
        refine XS.iconst X112.here hx rfl (hb hby at_26) ?_
        show Steps p.tables e below (T112.setTop (mkF m 27 #[.val (.int p1), .val (.int p2), .val (.int p3), .val (.int p4), .val (.int p5), .val (.int (4 : Int32)), .val (.int (1 : Int32)), .unset, .unset] [(.int (4 : Int32)), (.ref b112), (.ref b112)])) _
        refine XS.iload X112.here hx rfl (hb hby at_27) rfl ?_
        show Steps p.tables e below (T112.setTop (mkF m 29 #[.val (.int p1), .val (.int p2), .val (.int p3), .val (.int p4), .val (.int p5), .val (.int (4 : Int32)), .val (.int (1 : Int32)), .unset, .unset] [(.int (1 : Int32)), (.int (4 : Int32)), (.ref b112), (.ref b112)])) _
        refine st113.trans ?_
        show Steps p.tables e below (T113.setTop (mkF m 32 #[.val (.int p1), .val (.int p2), .val (.int p3), .val (.int p4), .val (.int p5), .val (.int (4 : Int32)), .val (.int (1 : Int32)), .unset, .unset] [(.ref b112)])) _
        refine XS.astore X113.here hx rfl (hb hby at_32) rfl rfl (l' := #[.val (.int p1), .val (.int p2), .val (.int p3), .val (.int p4), .val (.int p5), .val (.int (4 : Int32)), .val (.int (1 : Int32)), .val (.ref b112), .unset]) rfl ?_
        show Steps p.tables e below (T113.setTop (mkF m 34 #[.val (.int p1), .val (.int p2), .val (.int p3), .val (.int p4), .val (.int p5), .val (.int (4 : Int32)), .val (.int (1 : Int32)), .val (.ref b112), .unset] [])) _
        refine XS.iload X113.here hx rfl (hb hby at_34) rfl ?_
        show Steps p.tables e below (T113.setTop (mkF m 36 #[.val (.int p1), .val (.int p2), .val (.int p3), .val (.int p4), .val (.int p5), .val (.int (4 : Int32)), .val (.int (1 : Int32)), .val (.ref b112), .unset] [(.int (4 : Int32))])) _
        refine XS.iconst X113.here hx rfl (hb hby at_36) ?_
        show Steps p.tables e below (T113.setTop (mkF m 37 #[.val (.int p1), .val (.int p2), .val (.int p3), .val (.int p4), .val (.int p5), .val (.int (4 : Int32)), .val (.int (1 : Int32)), .val (.ref b112), .unset] [(.int (1 : Int32)), (.int (4 : Int32))])) _
        refine XS.icmpNo X113.here hx rfl (hb hby at_37) rfl (flt ((by decide) : ¬ ((4 : Int32) < (1 : Int32)))).1 ?_
        show Steps p.tables e below (T113.setTop (mkF m 40 #[.val (.int p1), .val (.int p2), .val (.int p3), .val (.int p4), .val (.int p5), .val (.int (4 : Int32)), .val (.int (1 : Int32)), .val (.ref b112), .unset] [])) _
        refine XS.aload X113.here hx rfl (hb hby at_40) rfl rfl ?_
        show Steps p.tables e below (T113.setTop (mkF m 42 #[.val (.int p1), .val (.int p2), .val (.int p3), .val (.int p4), .val (.int p5), .val (.int (4 : Int32)), .val (.int (1 : Int32)), .val (.ref b112), .unset] [(.ref b112)])) _
        refine XS.iloadN X113.here hx rfl (hb hby at_42) rfl ?_
        show Steps p.tables e below (T113.setTop (mkF m 43 #[.val (.int p1), .val (.int p2), .val (.int p3), .val (.int p4), .val (.int p5), .val (.int (4 : Int32)), .val (.int (1 : Int32)), .val (.ref b112), .unset] [(.int p2), (.ref b112)])) _
        refine st117.trans ?_
        show Steps p.tables e below (T117.setTop (mkF m 46 #[.val (.int p1), .val (.int p2), .val (.int p3), .val (.int p4), .val (.int p5), .val (.int (4 : Int32)), .val (.int (1 : Int32)), .val (.ref b112), .unset] [])) _
        refine XS.iload X117.here hx rfl (hb hby at_46) rfl ?_
        show Steps p.tables e below (T117.setTop (mkF m 48 #[.val (.int p1), .val (.int p2), .val (.int p3), .val (.int p4), .val (.int p5), .val (.int (4 : Int32)), .val (.int (1 : Int32)), .val (.ref b112), .unset] [(.int (4 : Int32))])) _
        refine XS.iconst X117.here hx rfl (hb hby at_48) ?_
        show Steps p.tables e below (T117.setTop (mkF m 49 #[.val (.int p1), .val (.int p2), .val (.int p3), .val (.int p4), .val (.int p5), .val (.int (4 : Int32)), .val (.int (1 : Int32)), .val (.ref b112), .unset] [(.int (2 : Int32)), (.int (4 : Int32))])) _
        refine XS.icmpNo X117.here hx rfl (hb hby at_49) rfl (flt ((by decide) : ¬ ((4 : Int32) < (2 : Int32)))).1 ?_
        show Steps p.tables e below (T117.setTop (mkF m 52 #[.val (.int p1), .val (.int p2), .val (.int p3), .val (.int p4), .val (.int p5), .val (.int (4 : Int32)), .val (.int (1 : Int32)), .val (.ref b112), .unset] [])) _
        refine XS.aload X117.here hx rfl (hb hby at_52) rfl rfl ?_
        show Steps p.tables e below (T117.setTop (mkF m 54 #[.val (.int p1), .val (.int p2), .val (.int p3), .val (.int p4), .val (.int p5), .val (.int (4 : Int32)), .val (.int (1 : Int32)), .val (.ref b112), .unset] [(.ref b112)])) _
        refine XS.iloadN X117.here hx rfl (hb hby at_54) rfl ?_
        show Steps p.tables e below (T117.setTop (mkF m 55 #[.val (.int p1), .val (.int p2), .val (.int p3), .val (.int p4), .val (.int p5), .val (.int (4 : Int32)), .val (.int (1 : Int32)), .val (.ref b112), .unset] [(.int p3), (.ref b112)])) _
        refine st118.trans ?_
        show Steps p.tables e below (T118.setTop (mkF m 58 #[.val (.int p1), .val (.int p2), .val (.int p3), .val (.int p4), .val (.int p5), .val (.int (4 : Int32)), .val (.int (1 : Int32)), .val (.ref b112), .unset] [])) _
        refine XS.iload X118.here hx rfl (hb hby at_58) rfl ?_
        show Steps p.tables e below (T118.setTop (mkF m 60 #[.val (.int p1), .val (.int p2), .val (.int p3), .val (.int p4), .val (.int p5), .val (.int (4 : Int32)), .val (.int (1 : Int32)), .val (.ref b112), .unset] [(.int (4 : Int32))])) _
        refine XS.iconst X118.here hx rfl (hb hby at_60) ?_
        show Steps p.tables e below (T118.setTop (mkF m 61 #[.val (.int p1), .val (.int p2), .val (.int p3), .val (.int p4), .val (.int p5), .val (.int (4 : Int32)), .val (.int (1 : Int32)), .val (.ref b112), .unset] [(.int (3 : Int32)), (.int (4 : Int32))])) _
        refine XS.icmpNo X118.here hx rfl (hb hby at_61) rfl (flt ((by decide) : ¬ ((4 : Int32) < (3 : Int32)))).1 ?_
        show Steps p.tables e below (T118.setTop (mkF m 64 #[.val (.int p1), .val (.int p2), .val (.int p3), .val (.int p4), .val (.int p5), .val (.int (4 : Int32)), .val (.int (1 : Int32)), .val (.ref b112), .unset] [])) _
        refine XS.aload X118.here hx rfl (hb hby at_64) rfl rfl ?_
        show Steps p.tables e below (T118.setTop (mkF m 66 #[.val (.int p1), .val (.int p2), .val (.int p3), .val (.int p4), .val (.int p5), .val (.int (4 : Int32)), .val (.int (1 : Int32)), .val (.ref b112), .unset] [(.ref b112)])) _
        refine XS.iloadN X118.here hx rfl (hb hby at_66) rfl ?_
        show Steps p.tables e below (T118.setTop (mkF m 67 #[.val (.int p1), .val (.int p2), .val (.int p3), .val (.int p4), .val (.int p5), .val (.int (4 : Int32)), .val (.int (1 : Int32)), .val (.ref b112), .unset] [(.int p4), (.ref b112)])) _
        refine st119.trans ?_
        show Steps p.tables e below (T119.setTop (mkF m 70 #[.val (.int p1), .val (.int p2), .val (.int p3), .val (.int p4), .val (.int p5), .val (.int (4 : Int32)), .val (.int (1 : Int32)), .val (.ref b112), .unset] [])) _
        refine XS.iload X119.here hx rfl (hb hby at_70) rfl ?_
        show Steps p.tables e below (T119.setTop (mkF m 72 #[.val (.int p1), .val (.int p2), .val (.int p3), .val (.int p4), .val (.int p5), .val (.int (4 : Int32)), .val (.int (1 : Int32)), .val (.ref b112), .unset] [(.int (4 : Int32))])) _
        refine XS.iconst X119.here hx rfl (hb hby at_72) ?_
        show Steps p.tables e below (T119.setTop (mkF m 73 #[.val (.int p1), .val (.int p2), .val (.int p3), .val (.int p4), .val (.int p5), .val (.int (4 : Int32)), .val (.int (1 : Int32)), .val (.ref b112), .unset] [(.int (4 : Int32)), (.int (4 : Int32))])) _
        refine XS.icmpNo X119.here hx rfl (hb hby at_73) rfl (flt ((by decide) : ¬ ((4 : Int32) < (4 : Int32)))).1 ?_
        show Steps p.tables e below (T119.setTop (mkF m 76 #[.val (.int p1), .val (.int p2), .val (.int p3), .val (.int p4), .val (.int p5), .val (.int (4 : Int32)), .val (.int (1 : Int32)), .val (.ref b112), .unset] [])) _
        refine XS.aload X119.here hx rfl (hb hby at_76) rfl rfl ?_
        show Steps p.tables e below (T119.setTop (mkF m 78 #[.val (.int p1), .val (.int p2), .val (.int p3), .val (.int p4), .val (.int p5), .val (.int (4 : Int32)), .val (.int (1 : Int32)), .val (.ref b112), .unset] [(.ref b112)])) _
        refine XS.iload X119.here hx rfl (hb hby at_78) rfl ?_
        show Steps p.tables e below (T119.setTop (mkF m 80 #[.val (.int p1), .val (.int p2), .val (.int p3), .val (.int p4), .val (.int p5), .val (.int (4 : Int32)), .val (.int (1 : Int32)), .val (.ref b112), .unset] [(.int p5), (.ref b112)])) _
        refine st120.trans ?_
        show Steps p.tables e below (T120.setTop (mkF m 83 #[.val (.int p1), .val (.int p2), .val (.int p3), .val (.int p4), .val (.int p5), .val (.int (4 : Int32)), .val (.int (1 : Int32)), .val (.ref b112), .unset] [])) _
        refine XS.iload X120.here hx rfl (hb hby at_83) rfl ?_
        show Steps p.tables e below (T120.setTop (mkF m 85 #[.val (.int p1), .val (.int p2), .val (.int p3), .val (.int p4), .val (.int p5), .val (.int (4 : Int32)), .val (.int (1 : Int32)), .val (.ref b112), .unset] [(.int (1 : Int32))])) _
        refine XS.ifYes X120.here hx rfl (pc0 := 85) (pc' := 93) rfl (hb hby at_85) rfl ((if0 _ _).trans (feq ((by decide) : ¬ ((1 : Int32) = (0 : Int32)))).2) (by decide) (by decide) ?_
        show Steps p.tables e below (T120.setTop (mkF m 93 #[.val (.int p1), .val (.int p2), .val (.int p3), .val (.int p4), .val (.int p5), .val (.int (4 : Int32)), .val (.int (1 : Int32)), .val (.ref b112), .unset] [])) _
        refine XS.iconst X120.here hx rfl (hb hby at_93) ?_
        show Steps p.tables e below (T120.setTop (mkF m 94 #[.val (.int p1), .val (.int p2), .val (.int p3), .val (.int p4), .val (.int p5), .val (.int (4 : Int32)), .val (.int (1 : Int32)), .val (.ref b112), .unset] [(.int (1 : Int32))])) _
        refine XS.istore X120.here hx rfl (hb hby at_94) rfl (l' := #[.val (.int p1), .val (.int p2), .val (.int p3), .val (.int p4), .val (.int p5), .val (.int (4 : Int32)), .val (.int (1 : Int32)), .val (.ref b112), .val (.int (1 : Int32))]) rfl ?_
        show Steps p.tables e below (T120.setTop (mkF m 96 #[.val (.int p1), .val (.int p2), .val (.int p3), .val (.int p4), .val (.int p5), .val (.int (4 : Int32)), .val (.int (1 : Int32)), .val (.ref b112), .val (.int (1 : Int32))] [])) _
        refine XS.goto X120.here hx rfl (pc0 := 96) (pc' := 186) rfl (hb hby at_96) (by decide) (by decide) ?_
        show Steps p.tables e below (T120.setTop (mkF m 186 #[.val (.int p1), .val (.int p2), .val (.int p3), .val (.int p4), .val (.int p5), .val (.int (4 : Int32)), .val (.int (1 : Int32)), .val (.ref b112), .val (.int (1 : Int32))] [])) _
        refine XS.aload X120.here hx rfl (hb hby at_186) rfl rfl ?_
        show Steps p.tables e below (T120.setTop (mkF m 188 #[.val (.int p1), .val (.int p2), .val (.int p3), .val (.int p4), .val (.int p5), .val (.int (4 : Int32)), .val (.int (1 : Int32)), .val (.ref b112), .val (.int (1 : Int32))] [(.ref b112)])) _
        refine st121.trans ?_
        show Steps p.tables e below (T121.setTop (mkF m 191 #[.val (.int p1), .val (.int p2), .val (.int p3), .val (.int p4), .val (.int p5), .val (.int (4 : Int32)), .val (.int (1 : Int32)), .val (.ref b112), .val (.int (1 : Int32))] [(.int (1 : Int32))])) _
        refine XS.iload X121.here hx rfl (hb hby at_191) rfl ?_
        show Steps p.tables e below (T121.setTop (mkF m 193 #[.val (.int p1), .val (.int p2), .val (.int p3), .val (.int p4), .val (.int p5), .val (.int (4 : Int32)), .val (.int (1 : Int32)), .val (.ref b112), .val (.int (1 : Int32))] [(.int (1 : Int32)), (.int (1 : Int32))])) _
        refine XS.icmpNo X121.here hx rfl (hb hby at_193) rfl (teq ((by decide) : (1 : Int32) = (1 : Int32))).2 ?_
        show Steps p.tables e below (T121.setTop (mkF m 196 #[.val (.int p1), .val (.int p2), .val (.int p3), .val (.int p4), .val (.int p5), .val (.int (4 : Int32)), .val (.int (1 : Int32)), .val (.ref b112), .val (.int (1 : Int32))] [])) _
        refine XS.iconst X121.here hx rfl (hb hby at_196) ?_
        show Steps p.tables e below (T121.setTop (mkF m 197 #[.val (.int p1), .val (.int p2), .val (.int p3), .val (.int p4), .val (.int p5), .val (.int (4 : Int32)), .val (.int (1 : Int32)), .val (.ref b112), .val (.int (1 : Int32))] [(.int (1 : Int32))])) _
        refine XS.goto X121.here hx rfl (pc0 := 197) (pc' := 201) rfl (hb hby at_197) (by decide) (by decide) ?_
        exact kt
      show own_End p e below s (T121.setTop (mkF m 201 #[.val (.int p1), .val (.int p2), .val (.int p3), .val (.int p4), .val (.int p5), .val (.int (4 : Int32)), .val (.int (1 : Int32)), .val (.ref b112), .val (.int (1 : Int32))] [(.int (1 : Int32))])) (Q0 Z p1 p2 p3 p4 p5 h0 n0) room_1.cells room_1.slots
      have hv : (own_law p1 p2 p3 p4 p5) = (1 : Int32) := hj.trans (by simp only [own_law_8, if_neg hs1_0, if_neg hs1_1, if_neg hs1_2, if_neg hs1_3, if_neg hc12_88])
      obtain ⟨fs, hr, hrun, hended, hW, hsame⟩ := X121.leave (v := some (.int (1 : Int32))) (fun h => by rw [Bd.returns] at h; cases h)
      refine ⟨_, _, ?_, hrun, hended, _, _, rfl, ?_, ⟨_, rfl⟩, hW, hsame.mono (by decide) (by decide)⟩
      · exact retN X121 hx (t := .boolean) Bd.returns (by simp) (hb hby at_201) hr
      · show Q0 Z p1 p2 p3 p4 p5 h0 n0 _ T121.heap _
        rw [e121]
        exact ⟨(congrArg (fun z => some (Value.int z)) hv.symm), N121⟩
  exact j8 _ _ X0 e0 N0 ((p1 &&& (7 : Int32)) % (5 : Int32)) (own_five p1) (hj.trans (by simp only [own_law]))
theorem own_ids : (0 : Int32).toNatClampNeg = 0 ∧ (1 : Int32).toNatClampNeg = 1 ∧ (2 : Int32).toNatClampNeg = 2 ∧ (3 : Int32).toNatClampNeg = 3 ∧ (0 : Int32).toInt.toNat = 0 ∧ (1 : Int32).toInt.toNat = 1 ∧ (2 : Int32).toInt.toNat = 2 ∧ (3 : Int32).toInt.toNat = 3 ∧ (4 : Int32).toInt.toNat = 4 := by decide
theorem own_ops : (0 : Int32) + 1 = 1 ∧ (1 : Int32) + 1 = 2 ∧ (2 : Int32) + 1 = 3 ∧ (3 : Int32) + 1 = 4 := by decide
theorem own_h (g : Nat → Int32) : own_hash g 0 = 1 ∧ own_hash g 1 = 31 * 1 + g 0 ∧ own_hash g 2 = 31 * (31 * 1 + g 0) + g 1 ∧ own_hash g 3 = 31 * (31 * (31 * 1 + g 0) + g 1) + g 2 ∧ own_hash g 4 = 31 * (31 * (31 * (31 * 1 + g 0) + g 1) + g 2) + g 3 := by
  obtain ⟨i0, i1, i2, i3, f0, f1, f2, f3, f4⟩ := own_ids
  obtain ⟨e1, e2, e3, e4⟩ := own_ops
  have l00 : ¬ (0 : Int32) < 0 := by decide
  have l01 : (0 : Int32) < 1 := by decide
  have l02 : (0 : Int32) < 2 := by decide
  have l03 : (0 : Int32) < 3 := by decide
  have l04 : (0 : Int32) < 4 := by decide
  have l11 : ¬ (1 : Int32) < 1 := by decide
  have l12 : (1 : Int32) < 2 := by decide
  have l13 : (1 : Int32) < 3 := by decide
  have l14 : (1 : Int32) < 4 := by decide
  have l22 : ¬ (2 : Int32) < 2 := by decide
  have l23 : (2 : Int32) < 3 := by decide
  have l24 : (2 : Int32) < 4 := by decide
  have l33 : ¬ (3 : Int32) < 3 := by decide
  have l34 : (3 : Int32) < 4 := by decide
  have l44 : ¬ (4 : Int32) < 4 := by decide
  refine ⟨?_, ?_, ?_, ?_, ?_⟩ <;> simp only [own_hash, own_hash_4, i0, i1, i2, i3, f0, f1, f2, f3, f4, e1, e2, e3, e4, if_neg l00, if_pos l01, if_pos l02, if_pos l03, if_pos l04, if_neg l11, if_pos l12, if_pos l13, if_pos l14, if_neg l22, if_pos l23, if_pos l24, if_neg l33, if_pos l34, if_neg l44]
theorem own_ring (x y z w : Int32) : 31 * 1 + x = 31 + x ∧ 31 * (31 + x) + y = 961 + 31 * x + y ∧ 31 * (961 + 31 * x + y) + z = 29791 + 961 * x + 31 * y + z ∧ 31 * (29791 + 961 * x + 31 * y + z) + w = 923521 + 29791 * x + 961 * y + 31 * z + w := by
  refine ⟨?_, ?_, ?_, ?_⟩ <;> grind
theorem own_8 (p1 p2 p3 p4 p5 n : Int32) : own_law_8 p1 p2 p3 p4 p5 n = 1 := by
  obtain ⟨i0, i1, i2, i3, -, -, -, -, -⟩ := own_ids
  obtain ⟨e1, e2, e3, e4⟩ := own_ops
  obtain ⟨r1, r2, r3, r4⟩ := own_ring p2 p3 p4 p5
  unfold own_law_8
  simp only [e1, e2, e3, e4, (own_h _).1, (own_h _).2.1, (own_h _).2.2.1, (own_h _).2.2.2.1, (own_h _).2.2.2.2]
  have q1 : own_put (fun _ => (0 : Int32)) 0 p2 0 = p2 := rfl
  have q2 : own_put (own_put (fun _ => (0 : Int32)) 0 p2) 1 p3 0 = p2 := rfl
  have q2b : own_put (own_put (fun _ => (0 : Int32)) 0 p2) 1 p3 1 = p3 := rfl
  have q3 : own_put (own_put (own_put (fun _ => (0 : Int32)) 0 p2) 1 p3) 2 p4 0 = p2 := rfl
  have q3b : own_put (own_put (own_put (fun _ => (0 : Int32)) 0 p2) 1 p3) 2 p4 1 = p3 := rfl
  have q3c : own_put (own_put (own_put (fun _ => (0 : Int32)) 0 p2) 1 p3) 2 p4 2 = p4 := rfl
  have q4 : own_put (own_put (own_put (own_put (fun _ => (0 : Int32)) 0 p2) 1 p3) 2 p4) 3 p5 0 = p2 := rfl
  have q4b : own_put (own_put (own_put (own_put (fun _ => (0 : Int32)) 0 p2) 1 p3) 2 p4) 3 p5 1 = p3 := rfl
  have q4c : own_put (own_put (own_put (own_put (fun _ => (0 : Int32)) 0 p2) 1 p3) 2 p4) 3 p5 2 = p4 := rfl
  have q4d : own_put (own_put (own_put (own_put (fun _ => (0 : Int32)) 0 p2) 1 p3) 2 p4) 3 p5 3 = p5 := rfl
  simp only [q1, q2, q2b, q3, q3b, q3c, q4, q4b, q4c, q4d, r1, r2, r3, r4, if_true, ite_self]
theorem own_true (sel a b c d : Int32) : own_law sel a b c d = 1 := own_8 _ _ _ _ _ _

set_option maxRecDepth 65536 in
set_option maxHeartbeats 40000000 in
theorem comes_1 {Post : Tables → Env → Array Value → State → Outcome → State → Prop} (hpost : ∀ tb e args s v u, (limb_1_1.after args s (.returned v) u = true ∧ limb_1_2.after args s (.returned v) u = true ∧ True) → FrameEnd s (.returned v) u (Jvm.fieldLocs frame_1_writes args s ++ Jvm.arrayLocs frame_1_arrays args s ++ Jvm.staticLocs frame_1_statics s) 16 192 → Post tb e args s (.returned v) u) :
    ArmFor flags0 classFile x code maxLocals ret World_1 tables_1 room_1 Calls_1 rest_1 Pre_1 Post := by
  intro l hfl _ _ p e ha hc hk s m args below hf hA hF happ hP
  obtain ⟨hcalls, hrest, hpre⟩ := hP
  obtain ⟨-, -, -, hnamed, -, -, -, hat⟩ := (Spec.applies_iff hf).mp happ
  obtain ⟨hg, hn⟩ := and_e (Cond.before_iff.mp (show (Jvm.Cond.and given_1 narrow_1).before args s = true from hpre))
  obtain ⟨g1, g2⟩ := and_e hg
  obtain ⟨g3, g4⟩ := and_e g2
  obtain ⟨g5, g6⟩ := and_e g4
  obtain ⟨g7, g8⟩ := and_e g6
  obtain ⟨g9, g10⟩ := and_e g8
  obtain ⟨w0, w1, w2, w3, w4, rfl⟩ : ∃ w0 w1 w2 w3 w4 : Value, args = #[w0, w1, w2, w3, w4] := by
    have hs : args.size = 5 := by simpa [Cond.value, given_1] using g1
    obtain ⟨L⟩ := args
    match L, hs with
    | [w0, w1, w2, w3, w4], _ => exact ⟨w0, w1, w2, w3, w4, rfl⟩
  have hw := fun d (hd : d ∈ tables_1) => atoms_spec (ws := Jvm.Cond.code x code maxLocals ret :: tables_1) hat d (List.mem_cons_of_mem _ hd)
  have hfit : Fit s := fun {y c} hc i hi => by
    obtain ⟨ha, rfl⟩ := Array.getElem?_eq_some_iff.mp hc
    have q := List.all_eq_true.mp ((Array.all_eq_true_iff_forall_mem.mp hF) _ (Array.getElem_mem ha)) i (List.mem_range.mpr hi)
    simpa [Array.getElem?_eq_getElem hi] using q
  obtain ⟨i0, ei0⟩ := is_v g3
  obtain rfl : w0 = (.int i0) := Option.some.inj ei0
  obtain ⟨i1, ei1⟩ := is_v g5
  obtain rfl : w1 = (.int i1) := Option.some.inj ei1
  obtain ⟨i2, ei2⟩ := is_v g7
  obtain rfl : w2 = (.int i2) := Option.some.inj ei2
  obtain ⟨i3, ei3⟩ := is_v g9
  obtain rfl : w3 = (.int i3) := Option.some.inj ei3
  obtain ⟨i4, ei4⟩ := is_v g10
  obtain rfl : w4 = (.int i4) := Option.some.inj ei4
  obtain ⟨n, o, h1, h2, h3, _, L, rfl, ⟨rfl, N⟩, hq⟩ := rm0 l s _ hw tables_1 i0 i1 i2 i3 i4 s.heap s.heap.size (Nat.le_refl _)  p e ha hc hk s m _ below hf ((Spec.applies_iff_loose hf).mp happ).1 ⟨rfl, State.Warmed39.refl s, rfl⟩ trivial
  refine ⟨n, _, h1, h2, h3, hpost _ _ _ _ _ _ ⟨Cond.after_iff.mpr rfl, Cond.after_iff.mpr (eq_i res_at (Term.int_eval (1)) (congrArg Value.int (own_true i0 i1 i2 i3 i4))), trivial⟩ ⟨hq.1, hq.2.1, (hq.2.2.sift fun y hy => Or.inr (N y hy)).mono (by decide) (by decide)⟩⟩
theorem main_1_1 : Claimed_1_1 := comes_1 fun _ _ _ _ _ _ h hF => ⟨h.1, hF⟩
theorem main_1_2 : Claimed_1_2 := comes_1 fun _ _ _ _ _ _ h hF => ⟨h.2.1, hF⟩
end Jvm.Pilot.@@N@@
namespace Jvm.Pilot.@@N@@
open Jvm Jvm.ClassFile Sem Op Lib Jvm.Free Jvm.Stand Jvm.Pilot.@@N@@.Jvm.D
/-! MADE BY PROGRAM (witnessworld.py) out of the Statement's table words and the real class files: 13 classes; the members and pool entries that the words name. The judged class is class 1, her method 1. -/
namespace start1
open Jvm.ClassFile
def u (s : String) : CpInfo := .utf8 (stringToUtf16 s)
/-- a pool by its gaps: so many unusable entries, then the entry; so many at the end -/
def gap : Nat → List CpInfo → List CpInfo
  | 0, r => r
  | n + 1, r => .unusable :: gap n r
def poolList (es : List (Nat × CpInfo)) (last : Nat) : List CpInfo := es.foldr (fun e r => gap e.1 (e.2 :: r)) (gap last [])
def pool (es : List (Nat × CpInfo)) (last : Nat) : Array CpInfo := ⟨poolList es last⟩
def fileOf (pool : Array CpInfo) (this : Nat) (attrs : Array Attribute := #[]) (ms : Array MethodInfo := #[]) (fl : Nat := 33) (sup : Nat := 0) (ifs : Array Nat := #[]) (fds : Array FieldInfo := #[]) : ClassFile where
  minorVersion := 0
  majorVersion := 65
  constantPool := pool
  accessFlags := fl
  thisClass := this
  superClass := sup
  interfaces := ifs
  fields := fds
  methods := ms
  attributes := attrs
def plain (name : String) (sup : Option ClassId) : Class where
  name := name
  kind := .ordinary
  loader := none
  accessFlags := 33
  super := sup
  interfaces := #[]
  cf := none
  fields := #[]
  methods := #[]
  instanceTypes := #[]
  staticTypes := #[]
  resolved := #[]
  callSites := []
  init := .initialized
  statics := none
  mirror := none

def pool0 : Array CpInfo := pool [(5, u "<init>"), (0, u "()V"), (1, .class_ 10), (1, u "java/lang/Object")] 113

def k0c0 : Code := { maxStack := 0, maxLocals := 1, code := object_method_1_code, exceptionTable := #[], attributes := #[] }
def k0m0 : Method := { name := "<init>", desc := "()V", sig := { parameters := [], returnType := none }, accessFlags := 1, code := some k0c0 }
/-- java/lang/Object -/
def k0 : Class := { plain "java/lang/Object" none with
  accessFlags := 33
  interfaces := #[]
  cf := some (fileOf pool0 8 #[] #[{ accessFlags := 1, nameIndex := 5, descriptorIndex := 6, attributes := #[] }] 33 0 #[] #[])
  fields := #[]
  methods := #[k0m0]
  instanceTypes := #[]
  staticTypes := #[]
  resolved := Array.replicate 124 none
  statics := none }

def pool1 : Array CpInfo := pool [(2, .class_ 4), (1, u "java/lang/Object"), (0, u "<init>"), (0, u "()V"), (0, .class_ 8), (0, u "com/example/libfacet/libfacet/regex/StateSet"), (0, .methodref 7 10), (0, .nameAndType 5 11), (0, u "(IZ)V"), (0, .methodref 7 13), (0, .nameAndType 14 15), (0, u "add"), (0, u "(I)V"), (0, .integer 923521), (0, .methodref 7 18), (0, .nameAndType 19 20), (0, u "membersHash"), (0, u "()I"), (0, .class_ 22), (0, u "com/example/libfacet/libfacet/regex/StateSetMembersHashPinLaw"), (2, u "law"), (0, u "(IIIII)Z")] 3

def k1m0 : Method := { name := "<init>", desc := "()V", sig := { parameters := [], returnType := none }, accessFlags := 1, code := none }
def k1c1 : Code := { maxStack := 4, maxLocals := 9, code := code, exceptionTable := #[], attributes := #[] }
def k1m1 : Method := { name := "law", desc := "(IIIII)Z", sig := { parameters := [.int, .int, .int, .int, .int], returnType := some .boolean }, accessFlags := 9, code := some k1c1 }
/-- com/example/libfacet/libfacet/regex/StateSetMembersHashPinLaw -/
def k1 : Class := { plain "com/example/libfacet/libfacet/regex/StateSetMembersHashPinLaw" (some 0) with
  accessFlags := 49
  interfaces := #[]
  cf := some (fileOf pool1 21 #[] #[{ accessFlags := 1, nameIndex := 5, descriptorIndex := 6, attributes := #[] }, { accessFlags := 9, nameIndex := 25, descriptorIndex := 26, attributes := #[] }] 49 2 #[] #[])
  fields := #[]
  methods := #[k1m0, k1m1]
  instanceTypes := #[]
  staticTypes := #[]
  resolved := Array.replicate 30 none
  statics := none }

def pool2 : Array CpInfo := pool [(2, .class_ 4), (1, u "com/example/libfacet/libfacet/regex/StateSet"), (0, u "<init>"), (0, u "(IZ)V"), (0, .methodref 8 9), (0, .class_ 10), (0, .nameAndType 5 11), (0, u "java/lang/Object"), (0, u "()V"), (0, .fieldref 2 13), (0, .nameAndType 14 15), (0, u "stamp"), (0, u "I"), (0, .fieldref 2 17), (0, .nameAndType 18 19), (0, u "stack"), (0, u "[I"), (0, .fieldref 2 21), (0, .nameAndType 22 15), (0, u "instructions"), (0, .fieldref 2 24), (0, .nameAndType 25 19), (0, u "members"), (0, .fieldref 2 27), (0, .nameAndType 28 29), (0, u "marks"), (0, u "[C"), (0, .fieldref 2 31), (0, .nameAndType 32 33), (0, u "markBits"), (0, u "[J"), (0, .fieldref 2 35), (0, .nameAndType 36 19), (0, u "marked"), (0, .fieldref 2 38), (0, .nameAndType 39 15), (0, u "size"), (2, u "markedCount"), (49, u "depth"), (0, u "(I)V"), (11, u "()I"), (1, u "add"), (3, u "membersHash")] 10

def k2c0 : Code := { maxStack := 3, maxLocals := 3, code := prog_95_method_2_code, exceptionTable := #[], attributes := #[] }
def k2m0 : Method := { name := "<init>", desc := "(IZ)V", sig := { parameters := [.int, .boolean], returnType := none }, accessFlags := 0, code := some k2c0 }
def k2c1 : Code := { maxStack := 5, maxLocals := 2, code := prog_95_method_9_code, exceptionTable := #[], attributes := #[] }
def k2m1 : Method := { name := "add", desc := "(I)V", sig := { parameters := [.int], returnType := none }, accessFlags := 0, code := some k2c1 }
def k2c2 : Code := { maxStack := 3, maxLocals := 3, code := prog_95_method_14_code, exceptionTable := #[], attributes := #[] }
def k2m2 : Method := { name := "membersHash", desc := "()I", sig := { parameters := [], returnType := some .int }, accessFlags := 0, code := some k2c2 }
/-- com/example/libfacet/libfacet/regex/StateSet -/
def k2 : Class := { plain "com/example/libfacet/libfacet/regex/StateSet" (some 0) with
  accessFlags := 48
  interfaces := #[]
  cf := some (fileOf pool2 2 #[] #[{ accessFlags := 0, nameIndex := 5, descriptorIndex := 6, attributes := #[] }, { accessFlags := 0, nameIndex := 107, descriptorIndex := 93, attributes := #[] }, { accessFlags := 0, nameIndex := 111, descriptorIndex := 105, attributes := #[] }] 48 8 #[] #[{ accessFlags := 2, nameIndex := 25, descriptorIndex := 19, attributes := #[] }, { accessFlags := 2, nameIndex := 39, descriptorIndex := 15, attributes := #[] }, { accessFlags := 18, nameIndex := 22, descriptorIndex := 15, attributes := #[] }, { accessFlags := 18, nameIndex := 28, descriptorIndex := 29, attributes := #[] }, { accessFlags := 18, nameIndex := 32, descriptorIndex := 33, attributes := #[] }, { accessFlags := 2, nameIndex := 14, descriptorIndex := 15, attributes := #[] }, { accessFlags := 2, nameIndex := 18, descriptorIndex := 19, attributes := #[] }, { accessFlags := 2, nameIndex := 92, descriptorIndex := 15, attributes := #[] }, { accessFlags := 2, nameIndex := 36, descriptorIndex := 19, attributes := #[] }, { accessFlags := 2, nameIndex := 42, descriptorIndex := 15, attributes := #[] }])
  fields := #[{ name := "members", type := (.array .int), accessFlags := 2, slot := 0, constantValue := 0 }, { name := "size", type := .int, accessFlags := 2, slot := 1, constantValue := 0 }, { name := "instructions", type := .int, accessFlags := 18, slot := 2, constantValue := 0 }, { name := "marks", type := (.array .char), accessFlags := 18, slot := 3, constantValue := 0 }, { name := "markBits", type := (.array .long), accessFlags := 18, slot := 4, constantValue := 0 }, { name := "stamp", type := .int, accessFlags := 2, slot := 5, constantValue := 0 }, { name := "stack", type := (.array .int), accessFlags := 2, slot := 6, constantValue := 0 }, { name := "depth", type := .int, accessFlags := 2, slot := 7, constantValue := 0 }, { name := "marked", type := (.array .int), accessFlags := 2, slot := 8, constantValue := 0 }, { name := "markedCount", type := .int, accessFlags := 2, slot := 9, constantValue := 0 }]
  methods := #[k2m0, k2m1, k2m2]
  instanceTypes := #[(.array .int), .int, .int, (.array .char), (.array .long), .int, (.array .int), .int, (.array .int), .int]
  staticTypes := #[]
  resolved := Array.replicate 122 none
  statics := none }

def pool3 : Array CpInfo := pool [(1, u "java/lang/Cloneable"), (0, .class_ 1), (0, u "java/lang/Object"), (0, .class_ 3)] 3

/-- java/lang/Cloneable -/
def k3 : Class := { plain "java/lang/Cloneable" (some 0) with
  accessFlags := 1537
  interfaces := #[]
  cf := some (fileOf pool3 2 #[] #[] 1537 4 #[] #[])
  fields := #[]
  methods := #[]
  instanceTypes := #[]
  staticTypes := #[]
  resolved := Array.replicate 8 none
  statics := none }

def pool4 : Array CpInfo := pool [(1, u "java/io/Serializable"), (0, .class_ 1), (0, u "java/lang/Object"), (0, .class_ 3)] 3

/-- java/io/Serializable -/
def k4 : Class := { plain "java/io/Serializable" (some 0) with
  accessFlags := 1537
  interfaces := #[]
  cf := some (fileOf pool4 2 #[] #[] 1537 4 #[] #[])
  fields := #[]
  methods := #[]
  instanceTypes := #[]
  staticTypes := #[]
  resolved := Array.replicate 8 none
  statics := none }

/-- the primitive byte -/
def k5 : Class := { plain "byte" none with kind := .primitive 'B', accessFlags := 0x411 }
/-- [B -/
def k6 : Class := { plain "[B" (some 0) with kind := .array 5 .byte, interfaces := #[3, 4], accessFlags := 1041 }

/-- the primitive char -/
def k7 : Class := { plain "char" none with kind := .primitive 'C', accessFlags := 0x411 }
/-- [C -/
def k8 : Class := { plain "[C" (some 0) with kind := .array 7 .char, interfaces := #[3, 4], accessFlags := 1041 }

/-- the primitive int -/
def k9 : Class := { plain "int" none with kind := .primitive 'I', accessFlags := 0x411 }
/-- [I -/
def k10 : Class := { plain "[I" (some 0) with kind := .array 9 .int, interfaces := #[3, 4], accessFlags := 1041 }

/-- the primitive long -/
def k11 : Class := { plain "long" none with kind := .primitive 'J', accessFlags := 0x411 }
/-- [J -/
def k12 : Class := { plain "[J" (some 0) with kind := .array 11 .long, interfaces := #[3, 4], accessFlags := 1041 }

def heap : Heap := #[]
def classes : Array Class := #[k0, k1, k2, k3, k4, k5, k6, k7, k8, k9, k10, k11, k12]
def interned : List (Array UInt16 × Addr) := []
def slotsUsed : Nat := 0
def theMethod : MethodId := ⟨1, 1⟩
def args0 : Array Value := #[.int 5, .int 9, .int 3, .int 9, .int 3]
def aboutOver (below : List Frame) : State where
  vm := { classes := classes, interned := interned.toArray }
  heap := heap
  slotsUsed := slotsUsed
  threads := #[{ frames := .invoking theMethod args0 :: below }]
def below0 : List Frame := [.native { method := ⟨0, 0⟩, args := #[] }]
def about1 : State := aboutOver below0
def p0 : Program := .bare "" "" ""
def e0 : Env := launch0.env 0 0 0
theorem w_frames : about1.frames = Frame.invoking theMethod args0 :: below0 := rfl
set_option maxRecDepth 65536 in
theorem w_args : argsFit about1.vm theMethod args0 = true := by decide +kernel
set_option maxRecDepth 65536 in
theorem w_heap : heapFits about1 = true := by decide +kernel
set_option maxRecDepth 65536 in
theorem w_runnable : about1.curStatus? = some .runnable := by decide +kernel
set_option maxRecDepth 65536 in
theorem w_alone : about1.alone = true := by decide +kernel
set_option maxRecDepth 65536 in
theorem w_named : about1.methodNamed? x = some theMethod := by decide +kernel
set_option maxRecDepth 65536 in
theorem w_hears : about1.hears theMethod below0 = true := by decide +kernel
set_option maxRecDepth 65536 in
theorem w_ripe : about1.ripe theMethod args0 below0 = true := by decide +kernel
theorem w_running : about1.status = .running := rfl
set_option maxRecDepth 65536 in
theorem w_room : about1.hasRoom e0.platform room_1 = true :=
  launch0.hasRoom_least _ room_1 (by decide +kernel) (by decide +kernel) (by decide +kernel) (by decide +kernel) (by decide +kernel) (by decide +kernel)
theorem allAtoms_all (ts : List Jvm.Cond) (a : Array Jvm.Value) (st : Jvm.State) : (allAtoms ts).before a st = ts.all (fun c => c.before a st) := by
  induction ts with
  | nil => rfl
  | cons c t ih =>
    show (Jvm.Cond.and c (allAtoms t)).before a st = _
    rw [Jvm.Cond.before_and, ih, List.all_cons]
def words1 : List Jvm.Cond := Jvm.Cond.code x code maxLocals ret :: tables_1
/-- a 'code' word, met by the world's own term for the bytes: nothing is compared byte by byte -/
theorem code_word {y : MethodName} {bytes : ByteArray} {mx : Nat} {rt : Option FieldType} {a : Array Value} {s : State} {m : MethodId} {meth : Method} {c : Code} (h1 : s.methodNamed? y = some m) (h2 : s.vm.method? m = some meth) (h3 : meth.code = some c) (h4 : c.code = bytes)
    (h5 : (c.maxLocals == mx && c.exceptionTable.isEmpty && decide (c.maxStack ≤ mostOperands) && decide (meth.sig.returnType = rt) && !meth.locks && decide (parseMethodDescriptor y.desc = some meth.sig)) = true) : (Jvm.Cond.code y bytes mx rt).before a s = true := by
  simp only [Bool.and_eq_true, beq_iff_eq, Bool.not_eq_true', decide_eq_true_eq] at h5
  obtain ⟨⟨⟨⟨⟨g1, g2⟩, g3⟩, g4⟩, g5⟩, g6⟩ := h5
  simp [Cond.before, Cond.holds, Cond.value, h1, h2, h3, h4, g1, g2, g3, g4, g5, g6]
def isCode : Jvm.Cond → Bool
  | .code _ _ _ _ => true
  | _ => false
theorem all_split {L : List Jvm.Cond} {P : Jvm.Cond → Bool} (h1 : L.all (fun c => isCode c || P c) = true) (h2 : ∀ c ∈ L.filter isCode, P c = true) : L.all P = true := by
  refine List.all_eq_true.mpr fun c hc => ?_
  have h := List.all_eq_true.mp h1 c hc
  rcases Bool.eq_false_or_eq_true (isCode c) with hi | hi
  · exact h2 c (List.mem_filter.mpr ⟨hc, hi⟩)
  · simpa [hi] using h
set_option maxRecDepth 65536 in
theorem w_c0 : (Jvm.Cond.code x code maxLocals ret).before args0 about1 = true := code_word (m := ⟨1, 1⟩) (meth := k1m1) (c := k1c1) (by decide +kernel) rfl rfl rfl (by decide +kernel)
set_option maxRecDepth 65536 in
theorem w_c1 : (Jvm.Cond.code ({ cls := "com/example/libfacet/libfacet/regex/StateSet", name := "<init>", desc := "(IZ)V" } : Jvm.MethodName) prog_95_method_2_code (3 : Nat) (Option.none : Option Jvm.ClassFile.FieldType)).before args0 about1 = true := code_word (m := ⟨2, 0⟩) (meth := k2m0) (c := k2c0) (by decide +kernel) rfl rfl rfl (by decide +kernel)
set_option maxRecDepth 65536 in
theorem w_c2 : (Jvm.Cond.code ({ cls := "java/lang/Object", name := "<init>", desc := "()V" } : Jvm.MethodName) object_method_1_code (1 : Nat) (Option.none : Option Jvm.ClassFile.FieldType)).before args0 about1 = true := code_word (m := ⟨0, 0⟩) (meth := k0m0) (c := k0c0) (by decide +kernel) rfl rfl rfl (by decide +kernel)
set_option maxRecDepth 65536 in
theorem w_c3 : (Jvm.Cond.code ({ cls := "com/example/libfacet/libfacet/regex/StateSet", name := "membersHash", desc := "()I" } : Jvm.MethodName) prog_95_method_14_code (3 : Nat) (Option.some Jvm.ClassFile.FieldType.int)).before args0 about1 = true := code_word (m := ⟨2, 2⟩) (meth := k2m2) (c := k2c2) (by decide +kernel) rfl rfl rfl (by decide +kernel)
set_option maxRecDepth 65536 in
theorem w_c4 : (Jvm.Cond.code ({ cls := "com/example/libfacet/libfacet/regex/StateSet", name := "add", desc := "(I)V" } : Jvm.MethodName) prog_95_method_9_code (2 : Nat) (Option.none : Option Jvm.ClassFile.FieldType)).before args0 about1 = true := code_word (m := ⟨2, 1⟩) (meth := k2m1) (c := k2c1) (by decide +kernel) rfl rfl rfl (by decide +kernel)
def codes1 : List Jvm.Cond := [Jvm.Cond.code x code maxLocals ret, Jvm.Cond.code ({ cls := "com/example/libfacet/libfacet/regex/StateSet", name := "<init>", desc := "(IZ)V" } : Jvm.MethodName) prog_95_method_2_code (3 : Nat) (Option.none : Option Jvm.ClassFile.FieldType), Jvm.Cond.code ({ cls := "java/lang/Object", name := "<init>", desc := "()V" } : Jvm.MethodName) object_method_1_code (1 : Nat) (Option.none : Option Jvm.ClassFile.FieldType), Jvm.Cond.code ({ cls := "com/example/libfacet/libfacet/regex/StateSet", name := "membersHash", desc := "()I" } : Jvm.MethodName) prog_95_method_14_code (3 : Nat) (Option.some Jvm.ClassFile.FieldType.int), Jvm.Cond.code ({ cls := "com/example/libfacet/libfacet/regex/StateSet", name := "add", desc := "(I)V" } : Jvm.MethodName) prog_95_method_9_code (2 : Nat) (Option.none : Option Jvm.ClassFile.FieldType)]
set_option maxRecDepth 65536 in
theorem codes_eq : words1.filter isCode = codes1 := rfl
theorem w_codes : ∀ c ∈ words1.filter isCode, c.before args0 about1 = true := by
  rw [codes_eq]
  intro c hc
  simp only [codes1, List.mem_cons, List.not_mem_nil, or_false] at hc
  rcases hc with rfl | rfl | rfl | rfl | rfl
  · exact w_c0
  · exact w_c1
  · exact w_c2
  · exact w_c3
  · exact w_c4
set_option maxRecDepth 65536 in
theorem w_t1 : (words1.take 24).all (fun c => isCode c || c.before args0 about1) = true := by decide +kernel
set_option maxRecDepth 65536 in
theorem w_t2 : (words1.drop 24).all (fun c => isCode c || c.before args0 about1) = true := by decide +kernel
theorem w_tables : (allAtoms (Jvm.Cond.code x code maxLocals ret :: tables_1)).before args0 about1 = true := by
  rw [allAtoms_all]
  show words1.all (fun c => c.before args0 about1) = true
  refine all_split ?_ w_codes
  rw [← List.take_append_drop 24 words1, List.all_append, w_t1, w_t2]
  rfl
set_option maxRecDepth 65536 in
theorem w_case : (Jvm.Cond.and given_1 narrow_1).before args0 about1 = true := by decide +kernel
theorem w_applies : (headSpec (Jvm.Cond.code x code maxLocals ret :: tables_1) room_1).applies x e0.platform about1 = true :=
  (Spec.applies_iff w_frames).mpr ⟨w_running, w_runnable, w_alone, w_named, w_hears, w_ripe, w_room, w_tables⟩
theorem atStart : AtStart classFile x code maxLocals ret World_1 tables_1 room_1 Calls_1 rest_1 Pre_1 launch0 p0 e0 about1 theMethod args0 below0 :=
  ⟨lists_1, trivial, launch0.admits_env _ _ _, launch0.least_env, fairChoices_fair.cas, fairChoices_fair.clock, w_frames, w_args, w_heap, w_applies, trivial, trivial, w_case⟩
end start1
theorem witness_1 : WitnessClaimed_1 := ⟨start1.p0, start1.e0, start1.about1, start1.theMethod, start1.args0, start1.below0, start1.atStart⟩
end Jvm.Pilot.@@N@@
